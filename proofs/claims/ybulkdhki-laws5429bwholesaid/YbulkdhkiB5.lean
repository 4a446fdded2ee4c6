/-
  The walk of holdfast.LawS5429BWhole (function 4).
-/
import Derived.Test.YbulkdhkiB4
namespace Go.Proofs.Ybulkdhki
open Go.RowKit

theorem Yba.info97 : (Yba.prog.info? 97).map (fun i => decide (i.size ≠ 0)) = some true := by kernel_rfl
theorem eqR (a : Addr) (w : World) : (binOp .eql 81 (.pointer (some a)) (.pointer (some a))).run Yba.prog w = .ok (.bool true) w := by
  obtain ⟨j, hj, _⟩ := Option.map_eq_some_iff.1 Yba.info97
  exact run_eql_ptr_same w a Yba.underlying81 hj

theorem Mem.fitsF {B n : Nat} {nx nw ft : Int} {fp form : Option Addr} {ps qs : Nat → Option Addr} {fs ts : Nat → Int} {w : World} (h : Mem B n nx nw fp form ft ps qs fs ts w) : Fits w 116 34 form := fun a ha => by
  obtain ⟨b, e, _, _, h3, _⟩ := h.goodF a (h.goodf a ha)
  exact ⟨b, e, h3, by omega⟩
theorem Mem.fitsS {B n : Nat} {nx nw ft : Int} {fp form : Option Addr} {ps qs : Nat → Option Addr} {fs ts : Nat → Int} {w : World} (h : Mem B n nx nw fp form ft ps qs fs ts w) (i : Nat) (hi : i < n) : Fits w 111 66 (qs i) := fun a ha => by
  obtain ⟨b, e, _, _, h3, _⟩ := h.good i hi a (h.goodq i hi a ha)
  exact ⟨b, e, h3, by omega⟩

set_option maxHeartbeats 1600000 in
set_option maxRecDepth 100000 in
theorem lawB_any (a0 a1 : Option Addr) (n c0 m c1 tb tq pb po : Nat) (ts : Nat → Int) (pr : Nat → Bool) (ft : Int) (fpres : Bool) (sel : Int) (own : Bool) (tk sz nx nw : Int) (w : World) (hn : n ≤ 65536)
    (h0 : 0 < n → a0 = some ⟨tb, tq, none⟩) (gt : ∀ j, j < n → w.cell? ⟨tb, tq + j, none⟩ = some (.int .u64 (ts j)))
    (h1 : 0 < m → a1 = some ⟨pb, po, none⟩) (gp : ∀ j, j < m → w.cell? ⟨pb, po + j, none⟩ = some (.bool (pr j)))
    (hs0 : 0 ≤ sel) (hs1 : sel ≤ 4294967295) :
    Calls Yba.prog 4 #[.slice a0 n c0, .slice a1 m c1, .int .u64 ft, .bool fpres, .int .u32 sel, .bool own, .int .u64 tk, .int .i64 sz, .int .u32 nx, .int .u32 nw] w fun e w' => e = .returned (.bool true) ∧ Below w.heap.size w w' := by
  obtain ⟨Z, hZ, hZ1⟩ := zero111
  obtain ⟨Y, hY, hY1⟩ := zero116
  have hk1 := make_slots n hn
  have hk2 := make_ptrs n hn
  have HGT := hide gt
  have HGP := hide gp
  have hz : (n : Int) ≤ 65536 := by omega
  clear gt gp
  go_enter Yba.func4, Yba.ntmps4
  go_upto_block 0 with (go_at_call 9; refine (store32 (w.heap.size + 1) 1 nw (.int .u32 0) _ (by simp) (by simp)).mono ?_; rintro e w' ⟨rfl, rfl⟩)
  clear hk1 hk2
  go_cut [24, 25] from 50 to 96 (fun _ _ wc => ∃ ps fs, (∀ i, i < n → fs i = xr (ts i)) ∧ Mem w.heap.size n nx nw none none ft ps ps fs ts wc ∧ Below w.heap.size w wc)
  case first =>
    go_wp2_with fail
    go_loopg [24, 25] n (fun g i _ wr => ∃ k : Nat, k ≤ n ∧ g = n - k ∧ i = .int .i64 k ∧ Below w.heap.size w wr ∧ ∃ ps fs, (∀ i, i < k → fs i = xr (ts i)) ∧ (∀ i, k ≤ i → ps i = none) ∧ Mem w.heap.size n nx nw none none ft ps ps fs ts wr)
    case atStart => exact ⟨0, Nat.zero_le _, rfl, rfl, (((Below.refl _ _).alloc (Nat.le_refl _) _).alloc (by simp) _).alloc (by simp; omega) _, fun _ => none, fun _ => 0, fun _ h => absurd h (by omega), fun _ _ => rfl, mem_start w n nx nw ft ts⟩
    case round =>
      obtain ⟨k, hk, rfl, rfl, hbel, ps, fs, hfs, hps, hmem⟩ := hrel
      by_cases hlt : k < n
      · obtain rfl := h0 (by omega)
        have hbg : tb < w.heap.size := World.block_lt_of_cell? _ _ (HGT.out k hlt)
        have r0 : wr.cell? ⟨tb, tq + k, none⟩ = some (.int .u64 (ts k)) := by rw [hbel.cell (p := ⟨tb, tq + k, none⟩) hbg]; exact HGT.out k hlt
        have r1 := hmem.slots
        have r2 := hmem.first k hlt
        have r3 := hmem.frz 0 (k * 2) (by omega)
        have hz2 : (k : Int) < (n : Int) := by omega
        have BL := hide hbel
        have MM := hide hmem
        clear hbel hmem
        go_upto_region 10 with fail
        go_cut [25] from 50 to 96 (fun _ wx => Mem w.heap.size n nx nw none none ft ps ps (fun i => if i = k then xr (ts k) else fs i) ts wx ∧ Below w.heap.size w wx)
        case first =>
          go_region_with (go_at_call 10; refine (store64 _ (k * 2) _ _ _ (by exact r2) (by exact r3)).mono ?_; rintro e w3 ⟨rfl, rfl⟩)
          all_goals
            go_wp2
            go_meet
            go_light
            exact ⟨(MM.out.setFirst k (xr (ts k)) ((Agree.refl _).setCell ⟨w.heap.size, k * 2, none⟩ (.int .u64 (xr (ts k)))) (World.cell?_setCell_same _ _ _ r2)).agree ((Agree.refl _).drewN 1), (BL.out.setCell (Nat.le_refl _) _).drew⟩
        case rest =>
          obtain ⟨mem2, bel2⟩ := hcut
          clear r0 r1 r2 r3 BL MM
          rename World => wx
          have hq := hps k (Nat.le_refl _)
          have r0 : wx.cell? ⟨tb, tq + k, none⟩ = some (.int .u64 (ts k)) := by rw [bel2.cell (p := ⟨tb, tq + k, none⟩) hbg]; exact HGT.out k hlt
          have r1 := mem2.slots
          have r2 := mem2.ptrs k hlt
          rw [hq] at r2
          have r3 := mem2.frz 2 k (by omega)
          have r4 := mem2.signed k hlt
          rw [hq] at r4
          have r5 := mem2.frz 0 (k * 2 + 1) (by omega)
          have hsz := mem2.size
          have p1 : ∀ o, (wx.alloc o).cell? ⟨w.heap.size + 2, k, none⟩ = some (.pointer none) := fun o => by rw [World.cell?_alloc_lt _ _ _ (by exact hsz)]; exact r2
          have p2 : ∀ o, (wx.alloc o).frozen? ⟨w.heap.size + 2, k, none⟩ = false := fun o => by rw [World.frozen?_alloc_past _ _ _ (by exact hsz)]; exact r3
          have p3 : ∀ o v, ((wx.setCell ⟨w.heap.size + 1 + 1, k, none⟩ v).alloc o).cell? ⟨w.heap.size + 1, 2, none⟩ = some (.slice (some ⟨w.heap.size, 0, none⟩) n n) := fun o v => by
            rw [World.cell?_alloc_lt _ _ _ (by show w.heap.size + 1 < _; simp; omega), World.cell?_setCell_other _ _ _ _ (by simp)]; exact r1
          have p4 : ∀ o v, ((wx.setCell ⟨w.heap.size + 1 + 1, k, none⟩ v).alloc o).cell? ⟨w.heap.size, k * 2 + 1, none⟩ = some (.pointer none) := fun o v => by
            rw [World.cell?_alloc_lt _ _ _ (by show w.heap.size < _; simp; omega), World.cell?_setCell_other _ _ _ _ (by simp)]; exact r4
          have p5 : ∀ o v, ((wx.setCell ⟨w.heap.size + 1 + 1, k, none⟩ v).alloc o).frozen? ⟨w.heap.size, k * 2 + 1, none⟩ = false := fun o v => by
            rw [World.frozen?_alloc_past _ _ _ (by simp; omega), World.frozen?_setCell]; exact r5
          have HH := hide (And.intro mem2 (And.intro bel2 (And.intro hfs hps)))
          clear mem2 bel2 hfs hps r1 r2 r3 r4 r5
          by_cases hm : (m : Int) ≤ (k : Int)
          · go_wp2_with (go_at_call 11; refine (storeS w.heap.size (k * 2 + 1) (some ⟨wx.heap.size, 0, none⟩) _ _ (by exact p4 _ _) (by exact p5 _ _) (fits_new' (by simpa using hZ) (by omega) _ _)).mono ?_; rintro e w3 ⟨rfl, rfl⟩)
            go_roundg (n - (k + 1))
            case measure => go_light; omega
            case rel => go_light; exact ⟨k + 1, by omega, rfl, by go_num, ((HH.out.2.1.setCell (by simp; omega) _).alloc (by simp; omega) _).setCell (Nat.le_refl _) _, _, _, fun i hi => upd_xr HH.out.2.2.1 i hi, fun i hi => upd_none HH.out.2.2.2 i hi, HH.out.1.put' hlt hq _ (by simpa using hZ) (by simp [hZ])⟩
          · have hm2 : k < m := by omega
            obtain rfl := h1 (by omega)
            have hbp : pb < w.heap.size := World.block_lt_of_cell? _ _ (HGP.out k hm2)
            have r6 : wx.cell? ⟨pb, po + k, none⟩ = some (.bool (pr k)) := by rw [HH.out.2.1.cell (p := ⟨pb, po + k, none⟩) hbp]; exact HGP.out k hm2
            have hm3 : (k : Int) < (m : Int) := by omega
            cases hpr : pr k with
            | true =>
              rw [hpr] at r6
              go_wp2_with (go_at_call 11; refine (storeS w.heap.size (k * 2 + 1) (some ⟨wx.heap.size, 0, none⟩) _ _ (by exact p4 _ _) (by exact p5 _ _) (fits_new' (by simpa using hZ) (by omega) _ _)).mono ?_; rintro e w3 ⟨rfl, rfl⟩)
              go_roundg (n - (k + 1))
              case measure => go_light; omega
              case rel => go_light; exact ⟨k + 1, by omega, rfl, by go_num, ((HH.out.2.1.setCell (by simp; omega) _).alloc (by simp; omega) _).setCell (Nat.le_refl _) _, _, _, fun i hi => upd_xr HH.out.2.2.1 i hi, fun i hi => upd_none HH.out.2.2.2 i hi, HH.out.1.put' hlt hq _ (by simpa using hZ) (by simp [hZ])⟩
            | false =>
              rw [hpr] at r6
              go_wp2
              go_roundg (n - (k + 1))
              case measure => go_light; omega
              case rel => go_light; exact ⟨k + 1, by omega, rfl, by go_num, HH.out.2.1, ps, _, fun i hi => upd_xr HH.out.2.2.1 i hi, fun i hi => HH.out.2.2.2 i (by omega), HH.out.1⟩
      · obtain rfl : n = k := by omega
        go_wp2
        go_meet
        go_light
        exact ⟨ps, fs, hfs, hmem, hbel⟩
  case rest =>
    obtain ⟨ps, fs, hfs, mem5, bel5⟩ := hcut
    rename World => w5
    have hsz5 := mem5.size
    have f1 := mem5.frz 1 4 (by omega)
    have f2 := mem5.cform
    have q1 : ∀ o, (w5.alloc o).cell? ⟨w.heap.size + 1, 4, none⟩ = some (.pointer none) := fun o => by rw [World.cell?_alloc_lt _ _ _ (by show w.heap.size + 1 < _; omega)]; exact f2
    have q2 : ∀ o, (w5.alloc o).frozen? ⟨w.heap.size + 1, 4, none⟩ = false := fun o => by rw [World.frozen?_alloc_past _ _ _ (by omega)]; exact f1
    have M5 := hide mem5
    have B5 := hide bel5
    have HF := hide hfs
    clear mem5 bel5 f1 f2 hfs
    go_upto_if 97 with fail
    go_cut [26] from 97 to 105 (fun s26 wx => ∃ fp, s26 = .pointer fp ∧ Mem w.heap.size n nx nw fp fp ft ps ps fs ts wx ∧ Below w.heap.size w wx)
    case first =>
      cases fpres with
      | true =>
        go_wp2_with (go_at_call 12; refine (storeF (w.heap.size + 1) 4 (some ⟨w5.heap.size, 0, none⟩) _ _ (by exact q1 _) (by exact q2 _) (fits_new (by simpa using hY) (by omega))).mono ?_; rintro e w3 ⟨rfl, rfl⟩)
        go_meet
        go_light
        exact ⟨_, rfl, M5.out.putForm _ (by simpa using hY) (by simp [hY]), (B5.out.alloc (by omega) _).setCell (by simp) _⟩
      | false =>
        go_wp2
        go_meet
        go_light
        exact ⟨none, rfl, M5.out, B5.out⟩
    case rest =>
      obtain ⟨fp, rfl, mem6, bel6⟩ := hcut
      clear q1 q2 M5 B5 hsz5
      rename World => w6
      have M6 := hide mem6
      have B6 := hide bel6
      clear mem6 bel6
      go_upto_if 113 with fail
      have hk0 := Int.emod_nonneg sel (show (n : Int) + 1 ≠ 0 by omega)
      have hk1 := Int.emod_lt_of_pos sel (show 0 < (n : Int) + 1 by omega)
      have ew : wrap64 (sel % ((n : Int) + 1)) = sel % ((n : Int) + 1) := by unfold wrap64; omega
      rw [ew]
      obtain ⟨kk, hkk⟩ : ∃ kk : Nat, sel % ((n : Int) + 1) = kk := ⟨(sel % ((n : Int) + 1)).toNat, by omega⟩
      rw [hkk] at hk1 ⊢
      clear ew hk0
      have hkn : kk ≤ n := by omega
      go_cut [28] from 112 to 115 (fun s28 wx => ∃ sl : Int, s28 = .int .i64 sl ∧ (sl = -1 ∨ ∃ s : Nat, s < n ∧ sl = s) ∧ w6 = wx)
      case first =>
        by_cases hp : 0 < kk
        · have hp2 : (0 : Int) < (kk : Int) := by omega
          go_wp2
          go_meet
          go_light
          exact ⟨_, rfl, Or.inr ⟨kk - 1, by omega, by omega⟩, rfl⟩
        · obtain rfl : kk = 0 := by omega
          go_wp2
          go_meet
          go_light
          exact ⟨_, rfl, Or.inl rfl, rfl⟩
      case rest =>
        obtain ⟨sl, rfl, hsl, rfl⟩ := hcut
        clear hkk hk1 hkn
        go_upto_if 116 with fail
        go_cut [6] from 116 to 123 (fun s6 wx => ∃ t : Int, s6 = .int .u64 t ∧ w6 = wx)
        case first =>
          cases own with
          | false =>
            go_wp2
            go_meet
            go_light
            exact ⟨_, rfl, rfl⟩
          | true =>
            rcases hsl with rfl | ⟨s, hs, rfl⟩
            · go_wp2
              go_meet
              go_light
              exact ⟨_, rfl, rfl⟩
            · obtain rfl := h0 (by omega)
              have hbg : tb < w.heap.size := World.block_lt_of_cell? _ _ (HGT.out s hs)
              have r0 : w6.cell? ⟨tb, tq + s, none⟩ = some (.int .u64 (ts s)) := by rw [B6.out.cell (p := ⟨tb, tq + s, none⟩) hbg]; exact HGT.out s hs
              have hs2 : (s : Int) < (n : Int) := by omega
              have hm : ((s : Int) == -1) = false := by rw [beq_eq_false_iff_ne]; omega
              go_wp2
              go_meet
              go_light
              exact ⟨_, rfl, rfl⟩
        case rest =>
          obtain ⟨t2, rfl, rfl⟩ := hcut
          have hz6 := M6.out.size
          go_upto_region 29 with (go_at_call 13; refine (forget_any (B := w.heap.size) sl t2 sz (M6.out.agree ((Agree.refl _).alloc _)) hsl).mono ?_; rintro e w7 ⟨rfl, mem7, bel7, keep7⟩)
          have B7 := hide ((B6.out.alloc (by omega) _).trans bel7)
          obtain ⟨x, ex⟩ : ∃ x, formAft sl t2 ft fp = x := ⟨_, rfl⟩
          rw [ex] at mem7
          have EX := hide ex
          have M7 := hide mem7
          clear ex
          have d0 : w7.cell? ⟨w6.heap.size, 0, none⟩ = some (.pointer (some ⟨w.heap.size + 1, 0, none⟩)) := (keep7 ⟨w6.heap.size, 0, none⟩ (by exact hz6) (by simp)).trans ((cell_new _ _ _ _).trans rfl)
          have d1 : w7.cell? ⟨w6.heap.size, 1, none⟩ = some (.int .i64 sl) := (keep7 ⟨w6.heap.size, 1, none⟩ (by exact hz6) (by simp)).trans ((cell_new _ _ _ _).trans rfl)
          have d2 : w7.cell? ⟨w6.heap.size, 2, none⟩ = some (.int .u64 t2) := (keep7 ⟨w6.heap.size, 2, none⟩ (by exact hz6) (by simp)).trans ((cell_new _ _ _ _).trans rfl)
          have d3 : w7.cell? ⟨w6.heap.size, 3, none⟩ = some (.int .i64 sz) := (keep7 ⟨w6.heap.size, 3, none⟩ (by exact hz6) (by simp)).trans ((cell_new _ _ _ _).trans rfl)
          have HD := hide (And.intro d0 (And.intro d1 (And.intro d2 d3)))
          clear d0 d1 d2 d3 keep7 bel7 mem7 B6 M6
          go_upto_region 30 with fail
          go_cut [142] from 132 to 141 (fun s wx => ∃ b : Bool, s = .bool b ∧ (b = true → x = none) ∧ (b = false → x = fp) ∧ w7 = wx)
          case first =>
            by_cases e1 : sl = -1
            · subst e1
              cases fp with
              | none =>
                have EE : Hid (x = none) := by show x = none; rw [← EX.out]; unfold formAft; split <;> rfl
                go_wp2
                go_meet
                go_light
                exact ⟨false, rfl, fun h => (nomatch h), fun _ => EE.out, rfl⟩
              | some a =>
                by_cases e2 : ft = t2
                · subst e2
                  have EE : Hid (x = none) := by show x = none; rw [← EX.out]; unfold formAft; rw [if_pos ⟨rfl, rfl⟩]
                  go_wp2
                  go_meet
                  go_light
                  exact ⟨true, rfl, fun _ => EE.out, fun h => (nomatch h), rfl⟩
                · have EE : Hid (x = some a) := by show x = some a; rw [← EX.out]; unfold formAft; rw [if_neg (fun h => e2 h.2)]
                  have e3 : (ft == t2) = false := by rw [beq_eq_false_iff_ne]; exact e2
                  go_wp2
                  go_meet
                  go_light
                  exact ⟨false, rfl, fun h => (nomatch h), fun _ => EE.out, rfl⟩
            · have EE : Hid (x = fp) := by show x = fp; rw [← EX.out]; unfold formAft; rw [if_neg (fun h => e1 h.1)]
              have e3 : (sl == -1) = false := by rw [beq_eq_false_iff_ne]; exact e1
              go_wp2
              go_meet
              go_light
              exact ⟨false, rfl, fun h => (nomatch h), fun _ => EE.out, rfl⟩
          case rest =>
           obtain ⟨b, rfl, hb1, hb2, rfl⟩ := hcut
           go_upto_if 142 with fail
           go_cut [30] from 132 to 142 (fun s30 wx => s30 = .pointer x ∧ w7 = wx)
           case first =>
            cases b with
            | true =>
              obtain rfl := hb1 rfl
              go_wp2
              go_meet
              go_light
              exact ⟨rfl, rfl⟩
            | false =>
              obtain rfl := hb2 rfl
              go_wp2
              go_meet
              go_light
              exact ⟨rfl, rfl⟩
           case rest =>
            obtain ⟨rfl, rfl⟩ := hcut
            have nF := neqF
            have c4 := M7.out.cform
            have c2 := M7.out.slots
            have fF := M7.out.fitsF
            go_upto_region 34 with (go_at_call 14; refine (loadF (w.heap.size + 1) 4 x _ (by exact c4) fF).mono ?_; rintro e w8 ⟨rfl, h8⟩; have h9 := h8.symm; subst h9; clear h8)
            go_cut [158] from 149 to 157 (fun s20 wx => s20 = .bool false ∧ w7 = wx)
            case first =>
              cases fp with
              | none =>
                go_wp2
                go_meet
                go_light
                exact ⟨rfl, rfl⟩
              | some a =>
                obtain ⟨b, rfl, _, _, _, g4⟩ := M7.out.goodF a rfl
                go_wp2
                go_meet
                go_light
                exact ⟨rfl, rfl⟩
            case rest =>
              obtain ⟨rfl, rfl⟩ := hcut
              go_upto_block 2 with fail
              go_cut [31, 32] from 166 to 232 (fun _ _ wx => ∃ q, wx = w7.drewN q)
              case first =>
                go_wp2_with fail
                go_loopg [31, 32] n (fun g i _ wr => ∃ k : Nat, k ≤ n ∧ g = n - k ∧ i = .int .i64 k ∧ ∃ q, wr = w7.drewN q)
                case atStart => exact ⟨0, Nat.zero_le _, rfl, rfl, 0, rfl⟩
                case round =>
                  obtain ⟨k, hk, rfl, rfl, q, hwr⟩ := hrel
                  have HW := hide hwr
                  have cA : ∀ p, wr.cell? p = w7.cell? p := fun p => by rw [hwr]; rfl
                  by_cases hlt : k < n
                  · obtain rfl := h0 (by omega)
                    have hbg : tb < w.heap.size := World.block_lt_of_cell? _ _ (HGT.out k hlt)
                    have r0 : wr.cell? ⟨tb, tq + k, none⟩ = some (.int .u64 (ts k)) := by rw [cA, B7.out.cell (p := ⟨tb, tq + k, none⟩) hbg]; exact HGT.out k hlt
                    have r1 := (cA _).trans (M7.out.ptrs k hlt)
                    have r2 := (cA _).trans (M7.out.first k hlt)
                    rw [HF.out k hlt] at r2
                    change wr.cell? ⟨w.heap.size, k * 2, none⟩ = some (.int .u64 (bits BinOp.xor IntKind.u64 (ts k) 11400714819323198485)) at r2
                    have r3 := (cA _).trans (M7.out.signed k hlt)
                    have r4 : Fits wr 111 66 (slotAft sl t2 ts ps k) := by rw [hwr]; exact M7.out.fitsS k hlt
                    have r5 := M7.out.good k hlt
                    have r6 := (cA _).trans M7.out.slots
                    obtain ⟨y, ey⟩ : ∃ y, slotAft sl t2 ts ps k = y := ⟨_, rfl⟩
                    rw [ey] at r3 r4
                    have EY : Hid ((if (k : Int) = sl ∧ ts k = t2 then none else ps k) = y) := hide ey
                    have nS := neqS
                    have hz2 : (k : Int) < (n : Int) := by omega
                    generalize ps k = pk at r1 r5 EY
                    clear ey hwr
                    rcases pk with _ | a
                    · obtain rfl : y = none := by rw [← EY.out]; split <;> rfl
                      clear EY r5 cA
                      by_cases e1 : (k : Int) = sl
                      · subst e1
                        go_wp2_with (go_at_call 15; refine (loadS w.heap.size (k * 2 + 1) _ _ (by exact r3) (by exact r4)).mono ?_; rintro e w8 ⟨rfl, rfl⟩)
                        go_quiet ((go_at_call 16; exact Calls.quiet_of_same (load64 w.heap.size (k * 2) _ _ (by exact r2))))
                        go_wp2
                        go_quiet (fail)
                        go_wp2
                        go_roundg (n - (k + 1))
                        case measure => go_light; omega
                        case rel => go_light; exact ⟨k + 1, by omega, rfl, by go_num, _, by rw [HW.out]; simp only [World.drewN_drewN]; rfl⟩
                      · have e3 : ((k : Int) == sl) = false := by rw [beq_eq_false_iff_ne]; exact e1
                        go_wp2_with (go_at_call 15; refine (loadS w.heap.size (k * 2 + 1) _ _ (by exact r3) (by exact r4)).mono ?_; rintro e w8 ⟨rfl, rfl⟩)
                        go_quiet ((go_at_call 16; exact Calls.quiet_of_same (load64 w.heap.size (k * 2) _ _ (by exact r2))))
                        go_wp2
                        go_quiet (fail)
                        go_wp2
                        go_roundg (n - (k + 1))
                        case measure => go_light; omega
                        case rel => go_light; exact ⟨k + 1, by omega, rfl, by go_num, _, by rw [HW.out]; simp only [World.drewN_drewN]; rfl⟩
                    · obtain ⟨b, rfl, _, _, _, g5⟩ := r5 a rfl
                      have g4 := (cA _).trans g5
                      clear r5 g5 cA
                      by_cases e1 : (k : Int) = sl
                      · subst e1
                        by_cases e2 : ts k = t2
                        · obtain rfl : y = none := by rw [← EY.out, if_pos ⟨rfl, e2⟩]
                          have e4 : (ts k == t2) = true := by rw [beq_iff_eq]; exact e2
                          clear EY e2
                          go_wp2_with (go_at_call 15; refine (loadS w.heap.size (k * 2 + 1) _ _ (by exact r3) (by exact r4)).mono ?_; rintro e w8 ⟨rfl, rfl⟩)
                          go_quiet ((go_at_call 16; exact Calls.quiet_of_same (load64 w.heap.size (k * 2) _ _ (by exact r2))))
                          go_wp2
                          go_quiet (fail)
                          go_wp2
                          go_roundg (n - (k + 1))
                          case measure => go_light; omega
                          case rel => go_light; exact ⟨k + 1, by omega, rfl, by go_num, _, by rw [HW.out]; simp only [World.drewN_drewN]; rfl⟩
                        · obtain rfl : y = some ⟨b, 0, none⟩ := by rw [← EY.out, if_neg (fun h => e2 h.2)]
                          have e4 : (ts k == t2) = false := by rw [beq_eq_false_iff_ne]; exact e2
                          clear EY e2
                          go_wp2_with (go_at_call 15; refine (loadS w.heap.size (k * 2 + 1) _ _ (by exact r3) (by exact r4)).mono ?_; rintro e w8 ⟨rfl, rfl⟩)
                          go_quiet ((go_at_call 16; exact Calls.quiet_of_same (load64 w.heap.size (k * 2) _ _ (by exact r2))))
                          go_wp2
                          go_quiet (fail)
                          go_wp2
                          go_roundg (n - (k + 1))
                          case measure => go_light; omega
                          case rel => go_light; exact ⟨k + 1, by omega, rfl, by go_num, _, by rw [HW.out]; simp only [World.drewN_drewN]; rfl⟩
                      · obtain rfl : y = some ⟨b, 0, none⟩ := by rw [← EY.out, if_neg (fun h => e1 h.1)]
                        have e3 : ((k : Int) == sl) = false := by rw [beq_eq_false_iff_ne]; exact e1
                        clear EY
                        go_wp2_with (go_at_call 15; refine (loadS w.heap.size (k * 2 + 1) _ _ (by exact r3) (by exact r4)).mono ?_; rintro e w8 ⟨rfl, rfl⟩)
                        go_quiet ((go_at_call 16; exact Calls.quiet_of_same (load64 w.heap.size (k * 2) _ _ (by exact r2))))
                        go_wp2
                        go_quiet (fail)
                        go_wp2
                        go_roundg (n - (k + 1))
                        case measure => go_light; omega
                        case rel => go_light; exact ⟨k + 1, by omega, rfl, by go_num, _, by rw [HW.out]; simp only [World.drewN_drewN]; rfl⟩
                  · obtain rfl : n = k := by omega
                    go_wp2
                    go_meet
                    go_light
                    exact ⟨q, rfl⟩
              case rest =>
                obtain ⟨q, rfl⟩ := hcut
                have eR := eqR
                have d0 := HD.out.1
                have d1 := HD.out.2.1
                have d2 := HD.out.2.2.1
                have d3 := HD.out.2.2.2
                have c0 := M7.out.next
                have c1 := M7.out.newest
                have c3 := M7.out.qset
                go_wp2_with (first | (go_at_call 17; refine (load32 (w.heap.size + 1) 1 nw _ (by exact c1)).mono ?_; rintro e w8 ⟨rfl, rfl⟩) | (go_at_call 18; refine (loadQ (w.heap.size + 1) 3 _ (by exact c3)).mono ?_; rintro e w8 ⟨rfl, rfl⟩))
                go_ret
                exact ⟨rfl, below_drewN B7.out _⟩
end Go.Proofs.Ybulkdhki
