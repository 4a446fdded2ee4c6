/-
  The walk of store.LawS5424CWhole (function 4).
-/
import Derived.Test.YbulkdhhqC6
namespace Go.Proofs.Ybulkdhhq
open Go.RowKit

set_option maxHeartbeats 80000000 in
set_option maxRecDepth 100000 in
theorem lawC_any (b0 : Int) (a1 a2 : Option Addr) (ng cg nr cr gb go rb ro : Nat) (gg fi la : Nat → Int) (dr : Nat → Bool) (n : Int) (w : World) (s1 : ng ≤ 4096) (s2 : nr ≤ 4096)
    (hb0 : 0 ≤ b0) (hb1 : b0 ≤ 65535) (hn0 : -9223372036854775808 ≤ n) (hn1 : n ≤ 9223372036854775807)
    (h1 : 0 < ng → a1 = some ⟨gb, go, none⟩) (g1 : ∀ j, j < ng → w.cell? ⟨gb, go + j, none⟩ = some (.int .u8 (gg j))) (w1 : ∀ j, j < ng → 0 ≤ gg j ∧ gg j ≤ 255)
    (h2 : 0 < nr → a2 = some ⟨rb, ro, none⟩) (g20 : ∀ j, j < nr → w.cell? ⟨rb, ro + j * 3, none⟩ = some (.bool (dr j))) (g21 : ∀ j, j < nr → w.cell? ⟨rb, ro + j * 3 + 1, none⟩ = some (.int .i64 (fi j))) (g22 : ∀ j, j < nr → w.cell? ⟨rb, ro + j * 3 + 2, none⟩ = some (.int .i64 (la j)))
    (wf : ∀ j, j < nr → -9223372036854775808 ≤ fi j ∧ fi j ≤ 9223372036854775807) (wl : ∀ j, j < nr → -9223372036854775808 ≤ la j ∧ la j ≤ 9223372036854775807) :
    Calls Yba.prog 4 #[.int .u16 b0, .slice a1 ng cg, .slice a2 nr cr, .int .i64 n] w fun e w' => e = .returned (.bool true) ∧ Below w.heap.size w w' := by
  have hmk1 := run_make_row' (P := Yba.prog) 27 2 (.int .i64 0) 8 Yba.underlying27 Yba.info2 rfl .i64 .i64 (ng + 1) (by omega) (by omega)
  have ec : ((ng + 1 : Nat) : Int) = (ng : Int) + 1 := by omega
  rw [ec] at hmk1
  have hst : (madeCells #[.int .i64 0] (ng + 1))[0]? = some (.int .i64 0) := by simp [madeCells]
  have HW1 := hide w1
  have HWF := hide wf
  have HWL := hide wl
  have HG1 := hide g1
  have HG20 := hide g20
  have HG21 := hide g21
  have HG22 := hide g22
  clear w1 wf wl g1 g20 g21 g22 ec
  go_enter Yba.func4, Yba.ntmps4
  go_upto_block 0 with fail
  clear hmk1 hst
  go_cut [9] from 56 to 73 (fun s9 wc => s9 = .slice (some ⟨w.heap.size, 0, none⟩) (ng + 1) (ng + 1) ∧ wc.heap.size = w.heap.size + 1 ∧ Below w.heap.size w wc ∧ wc.rowIs w.heap.size 2 (ng + 1) (fun j => .int .i64 (bs b0 gg j)))
  case first =>
    go_wp2_with fail
    go_loopg [56, 10, 11] ng (fun g i _ _ wr => ∃ k : Nat, k ≤ ng ∧ g = ng - k ∧ i = .int .i64 k ∧ wr.heap.size = w.heap.size + 1 ∧ Below w.heap.size w wr ∧ Fill wr w.heap.size 2 (ng + 1) (k + 1) (fun j => .int .i64 (bs b0 gg j)))
    case atStart => exact ⟨0, Nat.zero_le _, rfl, rfl, by simp, (Below.refl _ _).alloc (Nat.le_refl _) _, bases_begin _ _ _ _ _ _ rfl⟩
    case round =>
      obtain ⟨k, hk, rfl, rfl, hsz, hbel, hfl⟩ := hrel
      by_cases hlt : k < ng
      · obtain rfl := h1 (by omega)
        have hbg : gb < w.heap.size := World.block_lt_of_cell? _ _ (HG1.out k hlt)
        have r0 : wr.cell? ⟨gb, go + k, none⟩ = some (.int .u8 (gg k)) := by rw [hbel.cell (p := ⟨gb, go + k, none⟩) hbg]; exact HG1.out k hlt
        have r1 : wr.cell? ⟨w.heap.size, k, none⟩ = some (.int .i64 (bs b0 gg k)) := hfl.at (by omega) (by omega)
        obtain ⟨v, r2⟩ := hfl.cell (i := k + 1) (by omega)
        have r3 := hfl.free (k + 1)
        have bd := bs_bd b0 gg hb0 hb1 ng HW1.out k hk
        have bd1 := bd.1
        have bd2 := bd.2
        have bg1 := (HW1.out k hlt).1
        have bg2 := (HW1.out k hlt).2
        have hz : (k : Int) < (ng : Int) := by omega
        have FL := hide hfl
        have BL := hide hbel
        clear bd hfl hbel
        go_wp2
        go_roundg (ng - (k + 1))
        case measure => go_light; omega
        case rel => go_light; exact ⟨k + 1, by omega, rfl, by go_num, by simpa using hsz, BL.out.setCell (Nat.le_refl _) _, FL.out.step⟩
      · obtain rfl : ng = k := by omega
        go_wp2
        go_meet
        go_light
        exact ⟨rfl, hsz, hbel, hfl.full⟩
  case rest =>
    obtain ⟨rfl, z1, bel1, row1⟩ := hcut
    have hmk2 := run_make_row' (P := Yba.prog) 37 38 (.pointer none) 8 Yba.underlying37 Yba.info38 rfl .i64 .i64 (ng + 1) (by omega) (by omega)
    have ec : ((ng + 1 : Nat) : Int) = (ng : Int) + 1 := by omega
    rw [ec] at hmk2
    clear ec
    go_upto_block 2 with fail
    clear hmk2
    go_cut [12] from 79 to 91 (fun s12 wc => s12 = .slice (some ⟨w.heap.size + 1, 0, none⟩) (ng + 1) (ng + 1) ∧ A2 w.heap.size w wc (ng + 1) (bs b0 gg))
    case first =>
      go_wp2_with fail
      go_loopg [79, 13] (ng + 1) (fun g i _ wr => ∃ k : Nat, k ≤ ng + 1 ∧ g = ng + 1 - k ∧ i = .int .i64 k ∧ L2 w.heap.size w wr (ng + 1) k (bs b0 gg))
      case atStart => exact ⟨0, Nat.zero_le _, rfl, rfl, bel1.alloc (by omega) _, by simp [z1], row1.alloc _, by rw [← z1]; exact Fill.start, fun j hj => absurd hj (Nat.not_lt_zero _)⟩
      case round =>
        clear z1 bel1 row1
        obtain ⟨k, hk, rfl, rfl, hL⟩ := hrel
        have hsz := hL.size
        by_cases hlt : k < ng + 1
        · have r1 : wr.cell? ⟨w.heap.size, k, none⟩ = some (.int .i64 (bs b0 gg k)) := hL.brow.cell hlt
          obtain ⟨v, r2⟩ := hL.row.cell (i := k) hlt
          have r2' : ∀ o, (wr.alloc o).cell? ⟨w.heap.size + 1, k, none⟩ = some v := fun o => cell_al o r2
          have r3 : ∀ o, (wr.alloc o).frozen? ⟨w.heap.size + 1, k, none⟩ = false := fun o => (hL.row.alloc o).free k
          have hz : (k : Int) < (ng : Int) + 1 := by omega
          have HL := hide hL
          clear hL
          go_wp2
          go_roundg (ng + 1 - (k + 1))
          case measure => go_light; omega
          case rel => go_light; exact ⟨k + 1, by omega, rfl, by go_num, HL.out.step _ rfl⟩
        · obtain rfl : k = ng + 1 := by omega
          have HL := hide hL
          clear hL
          go_wp2
          go_meet
          go_light
          exact ⟨rfl, HL.out.done (by omega) (by omega) (fun i j h1 h2 => bs_up b0 gg ng HW1.out i j h1 (by omega))⟩
    case rest =>
      clear z1 bel1 row1
      obtain ⟨rfl, hA⟩ := hcut
      have hsrc : Hid (∀ j, j < (ng + 1) * 1 → wc.cell? ((⟨w.heap.size + 1, 0, none⟩ : Addr).add j) = some (.pointer (some ⟨w.heap.size + 2 + j, 0, none⟩))) := fun j hj => by
        rw [addr_add, Nat.zero_add]; exact hA.segs.row j (by omega)
      have hlen1 : Hid (ng + 1 ≤ maxLen) := by show ng + 1 ≤ maxLen; unfold maxLen; omega
      have hlen2 : Hid ((ng + 1) * 8 ≤ 140737488355328) := by show (ng + 1) * 8 ≤ _; omega
      have HA := hide hA
      have hmk3 := make_pending nr s2
      clear hA
      go_upto_block 4 with (at_builtin; go_must (refine wpList_clone _ rfl _ _ 37 rfl 38 (.pointer none) 1 8 Yba.underlying37 Yba.info38 rfl (by decide) rfl ⟨w.heap.size + 1, 0, none⟩ (ng + 1) (ng + 1) (fun j => .pointer (some ⟨w.heap.size + 2 + j, 0, none⟩)) rfl hsrc.out (fun j => rfl) hlen1.out hlen2.out ?_); intro v14 w3 cpy3 bel3)
      clear hmk3 hsrc hlen1 hlen2
      obtain ⟨a14, c14, rfl, h14⟩ := cpy3
      obtain ⟨sc, rfl, hsc, hcs⟩ := h14 (by omega)
      have HA3 := hide (HA.out.next bel3 HA.out.size)
      have hcs3 : Hid (∀ j, j < ng + 1 → w3.cell? ⟨sc, j, none⟩ = some (.pointer (some ⟨w.heap.size + 2 + j, 0, none⟩))) := fun j hj => hcs j (by omega)
      clear hcs h14 bel3 HA
      go_cut [15] from 99 to 122 (fun s15 wc => s15 = .slice (some ⟨w3.heap.size, 0, none⟩) nr nr ∧ Below w3.heap.size w3 wc ∧ ∃ rbf gbf nnf ccf : Nat → Nat, QP wc w3.heap.size nr nr rbf gbf nnf ccf (fun i => (fstI (fi i)).toNat) (fun i => (IntKind.u64.wrap (la i)).toNat) dr)
      case first =>
        go_wp2_with fail
        go_loopg [99, 16, 17, 18] nr (fun g i _ _ _ wr => ∃ k : Nat, k ≤ nr ∧ g = nr - k ∧ i = .int .i64 k ∧ Below w3.heap.size w3 wr ∧ ∃ rbf gbf nnf ccf : Nat → Nat, QP wr w3.heap.size nr k rbf gbf nnf ccf (fun i => (fstI (fi i)).toNat) (fun i => (IntKind.u64.wrap (la i)).toNat) dr)
        case atStart => exact ⟨0, Nat.zero_le _, rfl, rfl, (Below.refl _ _).alloc (Nat.le_refl _) _, fun _ => 0, fun _ => 0, fun _ => 0, fun _ => 0, QP.start _ (by simp [madeCells])⟩
        case round =>
          obtain ⟨k, hk, rfl, rfl, hbel, rbf, gbf, nnf, ccf, hQ⟩ := hrel
          have HQ := hide hQ
          have HB := hide hbel
          clear hQ hbel
          by_cases hlt : k < nr
          · obtain rfl := h2 (by omega)
            have hbr : rb < w.heap.size := World.block_lt_of_cell? _ _ (HG20.out k hlt)
            have bw : Below w.heap.size w wr := HA3.out.bel.trans (HB.out.mono (by have := HA3.out.size; omega))
            have r0 : wr.cell? ⟨rb, ro + k * 3, none⟩ = some (.bool (dr k)) := by rw [bw.cell (p := ⟨rb, ro + k * 3, none⟩) hbr]; exact HG20.out k hlt
            have r1 : wr.cell? ⟨rb, ro + k * 3 + 1, none⟩ = some (.int .i64 (fi k)) := by rw [bw.cell (p := ⟨rb, ro + k * 3 + 1, none⟩) hbr]; exact HG21.out k hlt
            have r2 : wr.cell? ⟨rb, ro + k * 3 + 2, none⟩ = some (.int .i64 (la k)) := by rw [bw.cell (p := ⟨rb, ro + k * 3 + 2, none⟩) hbr]; exact HG22.out k hlt
            have hz : (k : Int) < (nr : Int) := by omega
            clear bw
            cases hd : dr k with
            | true =>
              rw [hd] at r0
              obtain ⟨⟨v0, q0⟩, ⟨v1, q1⟩, f0, f1⟩ := HQ.out.spot2 hlt
              have HD := hide hd
              clear hd
              go_wp2
              go_roundg (nr - (k + 1))
              case measure => go_light; omega
              case rel =>
                go_light
                refine ⟨k + 1, by omega, rfl, by go_num, ?_, _, _, _, _, HQ.out.step (((Below.refl _ _).alloc (Nat.le_refl _) _).alloc (by simp) _) (wr.heap.size + 1) (wr.heap.size + 1) 0 0 (by omega) (by simp) (by omega) (by simp) (fun _ => ?_) (fun h => ?_)⟩
                · exact (((HB.out.alloc HB.out.size _).alloc (by have := HB.out.size; simp; omega) _).setCell (Nat.le_refl _) _).setCell (Nat.le_refl _) _
                · simp
                · rw [HD.out] at h; simp at h
            | false =>
              rw [hd] at r0
              have HD := hide hd
              have hf0 := (HWF.out k hlt).1
              have hf1 := (HWF.out k hlt).2
              have hp := fstI_bd (fi k) hf0 hf1
              have hp0 := hp.1
              have hp1 := hp.2
              clear hd hp
              go_wp2_with fail
              go_region_with (first | (go_at_call 9; refine (first_law _ _ _ _ hf0 hf1).mono ?_; rintro e w4 ⟨rfl, rfl⟩) | (go_at_call 8; refine (places_any _ _ _ hp0 hp1).mono ?_; rintro e w5 ⟨g, c, rfl, hg1, hg2, hby, hcap, bel5⟩; have e1 := bel5.cell (p := ⟨wr.heap.size + 1, 1, none⟩) (by simp); have e2 := bel5.frozen (p := ⟨wr.heap.size + 1, 1, none⟩) (by simp)))
              all_goals
                have KS := kept_step rfl rfl bel5 (by omega) (by rw [IntKind.wrap_u64]; omega) hg1 hby hcap
                obtain ⟨⟨v0, q0⟩, ⟨v1, q1⟩, f0, f1⟩ := HQ.out.spot hlt KS.1
                have K1 := hide KS
                have G2 := hide hg2
                clear KS bel5 hg1 hg2 hby hcap e1 e2
                go_wp2
                go_roundg (nr - (k + 1))
                case measure => go_light; omega
                case rel =>
                  go_light
                  refine ⟨k + 1, by omega, rfl, by go_num, ?_, _, _, _, _, HQ.out.step K1.out.1 (wr.heap.size + 1) g _ c (by omega) (by have := K1.out.2.1; simpa using this) K1.out.2.2.1 (by simpa using G2.out) (fun h => ?_) (fun _ => K1.out.2.2.2)⟩
                  · exact ((HB.out.trans (K1.out.1.mono HB.out.size)).setCell (Nat.le_refl _) _).setCell (Nat.le_refl _) _
                  · rw [HD.out] at h; simp at h
          · obtain rfl : nr = k := by omega
            go_wp2
            go_meet
            go_light
            exact ⟨rfl, HB.out, rbf, gbf, nnf, ccf, HQ.out⟩
      case rest =>
        obtain ⟨rfl, bel4, rbf, gbf, nnf, ccf, hQP⟩ := hcut
        have HQ := hide (hQP.queue s2)
        have hQlt : w3.heap.size < wc.heap.size := by obtain ⟨f, hf, _⟩ := hQP.row; exact hf.lt
        have HA4 := hide (HA3.out.next bel4 HA3.out.size)
        have hcs4 : Hid (∀ j, j < ng + 1 → wc.cell? ⟨sc, j, none⟩ = some (.pointer (some ⟨w.heap.size + 2 + j, 0, none⟩))) := fun j hj => by rw [bel4.cell (p := ⟨sc, j, none⟩) hsc]; exact hcs3.out j hj
        have hlen1 : Hid (nr ≤ maxLen) := by show nr ≤ maxLen; unfold maxLen; omega
        have hlen2 : Hid (nr * 32 ≤ 140737488355328) := by show nr * 32 ≤ _; omega
        have B34 := hide bel4
        clear hcs3 HA3 bel4 hQP
        go_upto_if 126 with (at_builtin; go_must (refine wpList_clone _ rfl _ _ 44 rfl 55 (.agg #[.pointer none, .slice none 0 0]) 2 32 Yba.underlying44 Yba.info55 rfl (by decide) rfl ⟨w3.heap.size, 0, none⟩ nr nr (qf rbf) rfl HQ.out.qf (qf_one rbf) hlen1.out hlen2.out ?_); intro v19 w5 cpy5 bel5)
        have HA5 := hide (HA4.out.next bel5 HA4.out.size)
        have HQ5 := hide (HQ.out.below bel5 hQlt)
        have hQlt5 : w3.heap.size < w5.heap.size := Nat.lt_of_lt_of_le hQlt bel5.size
        have hsc5 : sc < w5.heap.size := by have := B34.out.size; have := bel5.size; omega
        have hcs5 : Hid (∀ j, j < ng + 1 → w5.cell? ⟨sc, j, none⟩ = some (.pointer (some ⟨w.heap.size + 2 + j, 0, none⟩))) := fun j hj => by rw [bel5.cell (p := ⟨sc, j, none⟩) (by have := B34.out.size; show sc < wc.heap.size; omega)]; exact hcs4.out j hj
        have CP5 := hide cpy5
        clear hcs4 HA4 HQ bel5 cpy5 hlen1 hlen2 hQlt
        go_cut [3] from 125 to 129 (fun s3 wc => s3 = .int .i64 (fstI n) ∧ w5 = wc)
        case first =>
          by_cases hn : n < 0
          · have E : Hid (fstI n = -(n + 1)) := by show fstI n = _; unfold fstI; rw [if_pos hn]
            go_wp2
            go_meet
            go_light
            exact ⟨by rw [E.out], rfl⟩
          · have E : Hid (fstI n = n) := by show fstI n = _; unfold fstI; rw [if_neg hn]
            go_wp2
            go_meet
            go_light
            exact ⟨by rw [E.out], rfl⟩
        case rest =>
          obtain ⟨rfl, rfl⟩ := hcut
          have hnb := fstI_bd n hn0 hn1
          obtain ⟨N0, hN0⟩ := Int.eq_ofNat_of_zero_le hnb.1
          have hN1 : (N0 : Int) ≤ 9223372036854775807 := by rw [← hN0]; exact hnb.2
          rw [hN0]
          clear hN0 hnb
          have hmk4 := run_make_row' (P := Yba.prog) 22 3 (.int .i64 0) 8 Yba.underlying22 Yba.info3 rfl .i64 .i64 nr (by omega) (by omega)
          go_upto_block 6 with fail
          clear hmk4
          go_cut [20] from 135 to 180 (fun s20 wq => s20 = .slice (some ⟨w5.heap.size, 0, none⟩) nr nr ∧ Below w5.heap.size w5 wq ∧ wq.rowIs w5.heap.size 3 nr (fun i => .int .i64 (oI (wantF (bs b0 gg) (ng + 1) (fun i => (fstI (fi i)).toNat) (fun i => (IntKind.u64.wrap (la i)).toNat) dr i))))
          case first =>
            go_wp2_with fail
            go_loopg [135, 21, 22, 23, 24, 25, 26] nr (fun g i _ _ _ _ _ _ wr => ∃ k : Nat, k ≤ nr ∧ g = nr - k ∧ i = .int .i64 k ∧ Below w5.heap.size w5 wr ∧ Fill wr w5.heap.size 3 nr k (fun i => .int .i64 (oI (wantF (bs b0 gg) (ng + 1) (fun i => (fstI (fi i)).toNat) (fun i => (IntKind.u64.wrap (la i)).toNat) dr i))))
            case atStart => exact ⟨0, Nat.zero_le _, rfl, rfl, (Below.refl _ _).alloc (Nat.le_refl _) _, Fill.start⟩
            case round =>
              obtain ⟨k, hk, rfl, rfl, hbel, hfl⟩ := hrel
              by_cases hlt : k < nr
              · obtain rfl := h2 (by omega)
                have hbr : rb < w.heap.size := World.block_lt_of_cell? _ _ (HG20.out k hlt)
                have A := HA5.out.next hbel HA5.out.size
                have r0 : wr.cell? ⟨rb, ro + k * 3, none⟩ = some (.bool (dr k)) := by rw [A.bel.cell (p := ⟨rb, ro + k * 3, none⟩) hbr]; exact HG20.out k hlt
                have r1 : wr.cell? ⟨rb, ro + k * 3 + 1, none⟩ = some (.int .i64 (fi k)) := by rw [A.bel.cell (p := ⟨rb, ro + k * 3 + 1, none⟩) hbr]; exact HG21.out k hlt
                have r2 : wr.cell? ⟨rb, ro + k * 3 + 2, none⟩ = some (.int .i64 (la k)) := by rw [A.bel.cell (p := ⟨rb, ro + k * 3 + 2, none⟩) hbr]; exact HG22.out k hlt
                have hz : (k : Int) < (nr : Int) := by omega
                have hwl : w5.heap.size < wr.heap.size := by obtain ⟨f, hf, _⟩ := hfl; exact hf.lt
                obtain ⟨v0, q0⟩ := hfl.cell hlt
                have q1 := hfl.free k
                have BR := hide A.brow
                have FL := hide hfl
                have BL := hide hbel
                have hwB : ¬ w5.heap.size = w.heap.size := by have := HA5.out.size; omega
                clear A hfl hbel
                cases hd : dr k with
                | true =>
                  have HW := hide (want_dropped (bs b0 gg) (ng + 1) (fun i => (fstI (fi i)).toNat) (fun i => (IntKind.u64.wrap (la i)).toNat) dr k hd)
                  rw [hd] at r0
                  clear hd
                  go_wp2
                  go_roundg (nr - (k + 1))
                  case measure => go_light; omega
                  case rel =>
                    go_light
                    exact ⟨k + 1, by omega, rfl, by go_num, (BL.out.setCell (Nat.le_refl _) _).alloc (by simp; omega) _, (FL.out.step' (v := .int .i64 (-1)) (by show Value.int .i64 (oI _) = _; rw [HW.out]; rfl)).alloc _⟩
                | false =>
                  have HW := hide (want_kept (bs b0 gg) (ng + 1) fi la dr k hd (HWF.out k hlt) (HWL.out k hlt))
                  rw [hd] at r0
                  clear hd
                  have hf0 := (HWF.out k hlt).1
                  have hf1 := (HWF.out k hlt).2
                  go_upto_block 8 with (go_at_call 9; refine (first_law _ _ _ _ hf0 hf1).mono ?_; rintro e w4 ⟨rfl, rfl⟩)
                  obtain ⟨W6, hW6⟩ : ∃ W6, W6 = ((wr.setCell ⟨w5.heap.size, k, none⟩ (.int .i64 (-1))).alloc (.cells #[.bool false, .int .i64 (fi k), .int .i64 (la k)] 46)).alloc (.cells #[.bool false, .int .i64 (fi k), .int .i64 (la k)] 46) := ⟨_, rfl⟩
                  rw [← hW6]
                  have c1 : Hid (∀ j, j < ng + 1 → W6.cell? ⟨w.heap.size, j, none⟩ = some (.int .i64 (bs b0 gg j))) := fun j hj => by
                    rw [hW6]
                    refine cell_al _ (cell_al _ ?_)
                    rw [World.cell?_setCell_other _ _ _ _ (fun e => hwB (by have := congrArg Addr.block e; simpa using this))]
                    exact BR.out j hj
                  have c2 : W6.cell? ⟨wr.heap.size, 2, none⟩ = some (.int .i64 (la k)) := by
                    rw [hW6]
                    refine cell_al _ ?_
                    have := World.cell?_alloc_new (wr.setCell ⟨w5.heap.size, k, none⟩ (.int .i64 (-1))) #[.bool false, .int .i64 (fi k), .int .i64 (la k)] 46 2
                    simpa using this
                  have FL6 := ((FL.out.set (.int .i64 (-1))).alloc (.cells #[.bool false, .int .i64 (fi k), .int .i64 (la k)] 46)).alloc (.cells #[.bool false, .int .i64 (fi k), .int .i64 (la k)] 46)
                  rw [← hW6] at FL6
                  have BL6 := ((BL.out.setCell (p := ⟨w5.heap.size, k, none⟩) (Nat.le_refl _) (.int .i64 (-1))).alloc (by simp; omega) (.cells #[.bool false, .int .i64 (fi k), .int .i64 (la k)] 46)).alloc (by simp; omega) (.cells #[.bool false, .int .i64 (fi k), .int .i64 (la k)] 46)
                  rw [← hW6] at BL6
                  have NL6 : Hid (oI (wantF (bs b0 gg) (ng + 1) (fun i => (fstI (fi i)).toNat) (fun i => (IntKind.u64.wrap (la i)).toNat) dr k) = -1 → Fill W6 w5.heap.size 3 nr (k + 1) (fun i => .int .i64 (oI (wantF (bs b0 gg) (ng + 1) (fun i => (fstI (fi i)).toNat) (fun i => (IntKind.u64.wrap (la i)).toNat) dr i)))) := fun hv => by
                    rw [hW6]
                    exact ((FL.out.step' (v := .int .i64 (-1)) (by show Value.int .i64 (oI _) = _; rw [hv])).alloc _).alloc _
                  obtain ⟨v6, q6⟩ := FL6.cell hlt
                  have q7 := FL6.free k
                  have F6 := hide FL6
                  have B6 := hide BL6
                  clear FL6 BL6 hW6 q0 q1 r0 r1 r2
                  go_cut [24, 25] from 147 to 159 (fun s24 s25 wx => s24 = .int .i64 (oI (kk (bs b0 gg) (fstI (fi k)) (ng + 1))) ∧ wx = W6)
                  case first =>
                    go_wp2_with fail
                    go_loopg [24, 25] (ng + 1) (fun g vk vj wx => ∃ j : Nat, j ≤ ng + 1 ∧ g = ng + 1 - j ∧ vj = .int .i64 j ∧ vk = .int .i64 (oI (kk (bs b0 gg) (fstI (fi k)) j)) ∧ wx = W6)
                    case atStart => exact ⟨0, Nat.zero_le _, rfl, rfl, rfl, rfl⟩
                    case round =>
                      obtain ⟨j, hj, rfl, rfl, rfl, rfl⟩ := hrel
                      by_cases hjl : j < ng + 1
                      · have e1 := c1.out j hjl
                        have hjz : (j : Int) < (ng : Int) + 1 := by omega
                        by_cases hle : bs b0 gg j ≤ fstI (fi k)
                        · have E := hide (kk_succ (bs b0 gg) (fstI (fi k)) j)
                          have HLE := hide hle
                          go_wp2
                          go_roundg (ng + 1 - (j + 1))
                          case measure => go_light; omega
                          case rel => go_light; exact ⟨j + 1, by omega, rfl, by go_num, by rw [E.out, if_pos HLE.out]; rfl, rfl⟩
                        · have E : Hid (kk (bs b0 gg) (fstI (fi k)) (j + 1) = kk (bs b0 gg) (fstI (fi k)) j) := by show _ = _; rw [kk_succ, if_neg hle]
                          go_wp2
                          go_roundg (ng + 1 - (j + 1))
                          case measure => go_light; omega
                          case rel => go_light; exact ⟨j + 1, by omega, rfl, by go_num, by rw [E.out], rfl⟩
                      · obtain rfl : j = ng + 1 := by omega
                        have hjz : ¬ ((ng + 1 : Nat) : Int) < (ng : Int) + 1 := by omega
                        go_wp2
                        go_meet
                        go_light
                        exact ⟨rfl, rfl⟩
                  case rest =>
                    obtain ⟨rfl, rfl⟩ := hcut
                    cases hkk : kk (bs b0 gg) (fstI (fi k)) (ng + 1) with
                    | none =>
                      have E := hide (win_none (l := la k) hkk)
                      rw [show oI none = -1 from rfl]
                      clear hkk
                      go_wp2
                      go_roundg (nr - (k + 1))
                      case measure => go_light; omega
                      case rel => go_light; exact ⟨k + 1, by omega, rfl, by go_num, B6.out, NL6.out (by rw [HW.out, E.out]; rfl)⟩
                    | some m =>
                      have hm := kk_lt _ _ _ _ hkk
                      rw [show oI (some m) = (m : Int) from rfl]
                      by_cases hl : la k < endOf (bs b0 gg) (ng + 1) m
                      · have E := hide (win_some hkk hl)
                        clear hkk
                        by_cases hm1 : m + 1 < ng + 1
                        · have e2 := c1.out _ hm1
                          have hmz : (m : Int) + 1 < (ng : Int) + 1 := by omega
                          have hl' : la k < bs b0 gg (m + 1) := by unfold endOf at hl; rw [if_pos hm1] at hl; exact hl
                          clear hl
                          go_wp2
                          go_roundg (nr - (k + 1))
                          case measure => go_light; omega
                          case rel => go_light; exact ⟨k + 1, by omega, rfl, by go_num, B6.out.setCell (Nat.le_refl _) _, F6.out.step' (v := .int .i64 m) (by show Value.int .i64 (oI _) = _; rw [HW.out, E.out]; rfl)⟩
                        · have hmz : ¬ (m : Int) + 1 < (ng : Int) + 1 := by omega
                          have hl' : la k < 9223372036854775807 := by unfold endOf at hl; rw [if_neg hm1] at hl; exact hl
                          clear hl
                          go_wp2
                          go_roundg (nr - (k + 1))
                          case measure => go_light; omega
                          case rel => go_light; exact ⟨k + 1, by omega, rfl, by go_num, B6.out.setCell (Nat.le_refl _) _, F6.out.step' (v := .int .i64 m) (by show Value.int .i64 (oI _) = _; rw [HW.out, E.out]; rfl)⟩
                      · have E := hide (win_past hkk hl)
                        clear hkk
                        by_cases hm1 : m + 1 < ng + 1
                        · have e2 := c1.out _ hm1
                          have hmz : (m : Int) + 1 < (ng : Int) + 1 := by omega
                          have hl' : ¬ la k < bs b0 gg (m + 1) := by unfold endOf at hl; rw [if_pos hm1] at hl; exact hl
                          clear hl
                          go_wp2
                          go_roundg (nr - (k + 1))
                          case measure => go_light; omega
                          case rel => go_light; exact ⟨k + 1, by omega, rfl, by go_num, B6.out, NL6.out (by rw [HW.out, E.out]; rfl)⟩
                        · have hmz : ¬ (m : Int) + 1 < (ng : Int) + 1 := by omega
                          have hl' : ¬ la k < 9223372036854775807 := by unfold endOf at hl; rw [if_neg hm1] at hl; exact hl
                          clear hl
                          go_wp2
                          go_roundg (nr - (k + 1))
                          case measure => go_light; omega
                          case rel => go_light; exact ⟨k + 1, by omega, rfl, by go_num, B6.out, NL6.out (by rw [HW.out, E.out]; rfl)⟩
              · obtain rfl : nr = k := by omega
                go_wp2
                go_meet
                go_light
                exact ⟨rfl, hbel, hfl.full⟩
          case rest =>
            rename World => w6
            obtain ⟨rfl, belq, wrow⟩ := hcut
            have WR := hide wrow
            have BQ := hide belq
            clear wrow belq
            go_upto_if 185 with fail
            go_cut [28] from 181 to 187 (fun s28 wx => s28 = .int .i64 (stop0 nr N0) ∧ w6 = wx)
            case first =>
              by_cases hc : N0 < nr
              · have hz : (N0 : Int) < (nr : Int) := by omega
                have E := hide (stop0_lt hc)
                clear hc
                go_wp2
                go_meet
                go_light
                exact ⟨by rw [E.out], rfl⟩
              · have hz : ¬ (N0 : Int) < (nr : Int) := by omega
                have E := hide (stop0_ge hc)
                clear hc
                go_wp2
                go_meet
                go_light
                exact ⟨by rw [E.out], rfl⟩
            case rest =>
              obtain ⟨rfl, rfl⟩ := hcut
              obtain ⟨WF, HWFD⟩ : ∃ WF, Hid (WF = wantF (bs b0 gg) (ng + 1) (fun i => (fstI (fi i)).toNat) (fun i => (IntKind.u64.wrap (la i)).toNat) dr) := ⟨_, rfl⟩
              have WR' : Hid (∀ i, i < nr → w6.cell? ⟨w5.heap.size, i, none⟩ = some (.int .i64 (oI (WF i)))) := fun i hi => by rw [HWFD.out]; exact WR.out.cell hi
              go_upto_block 10 with fail
              go_cut [27, 28, 29, 30] from 189 to 207 (fun s27 s28 _ _ wx => s27 = .int .i64 (oI (scan WF (nr - N0) N0 none).1) ∧ s28 = .int .i64 (scan WF (nr - N0) N0 none).2 ∧ w6 = wx)
              case first =>
                go_wp2_with fail
                go_loopg [27, 28, 29, 30] (nr - N0) (fun g ve vs vi _ wx => ∃ (a : Nat) (s : Option Nat), N0 ≤ a ∧ (a ≤ nr ∨ a = N0) ∧ g = nr - a ∧ ve = .int .i64 (oI s) ∧ vs = .int .i64 (stop0 nr N0) ∧ vi = .int .i64 a ∧ scan WF (nr - N0) N0 none = scan WF (nr - a) a s ∧ w6 = wx)
                case atStart => exact ⟨N0, none, by omega, .inr rfl, rfl, rfl, rfl, rfl, rfl, rfl⟩
                case round =>
                  obtain ⟨a, s, ha, ha2, rfl, rfl, rfl, rfl, hsc, rfl⟩ := hrel
                  have SC := hide hsc
                  clear hsc
                  by_cases hlt : a < nr
                  · have hz : (a : Int) < (nr : Int) := by omega
                    have r1 := WR'.out a hlt
                    have hm : nr - a = (nr - (a + 1)) + 1 := by omega
                    cases hw : WF a with
                    | none =>
                      have X : Hid (scan WF (nr - N0) N0 none = scan WF (nr - (a + 1)) (a + 1) s) := by show _ = _; rw [SC.out, hm, scan_none hw]
                      rw [hw, show oI none = -1 from rfl] at r1
                      clear hw hm
                      go_wp2
                      go_roundg (nr - (a + 1))
                      case measure => go_light; omega
                      case rel => go_light; exact ⟨a + 1, s, by omega, .inl (by omega), rfl, rfl, rfl, by go_num, X.out, rfl⟩
                    | some c =>
                      rw [hw, show oI (some c) = (c : Int) from rfl] at r1
                      have hc0 : ¬ (c : Int) < 0 := by omega
                      cases s with
                      | none =>
                        have X : Hid (scan WF (nr - N0) N0 none = scan WF (nr - (a + 1)) (a + 1) (some c)) := by show _ = _; rw [SC.out, hm, scan_first hw]
                        rw [show oI none = -1 from rfl]
                        clear hw hm
                        go_wp2
                        go_roundg (nr - (a + 1))
                        case measure => go_light; omega
                        case rel => go_light; exact ⟨a + 1, some c, by omega, .inl (by omega), rfl, rfl, rfl, by go_num, X.out, rfl⟩
                      | some d =>
                        rw [show oI (some d) = (d : Int) from rfl]
                        have hd0 : ¬ (d : Int) < 0 := by omega
                        by_cases e : c = d
                        · subst e
                          have X : Hid (scan WF (nr - N0) N0 none = scan WF (nr - (a + 1)) (a + 1) (some c)) := by show _ = _; rw [SC.out, hm, scan_same hw]
                          clear hw hm
                          go_wp2
                          go_roundg (nr - (a + 1))
                          case measure => go_light; omega
                          case rel => go_light; exact ⟨a + 1, some c, by omega, .inl (by omega), rfl, rfl, rfl, by go_num, X.out, rfl⟩
                        · have X : Hid (scan WF (nr - N0) N0 none = (some d, a)) := by show _ = _; rw [SC.out, hm, scan_stop hw e]
                          have hne : ((c : Int) != (d : Int)) = true := by simp; omega
                          clear hw hm
                          go_wp2
                          go_meet
                          go_light
                          exact ⟨by rw [X.out]; rfl, by rw [X.out], rfl⟩
                  · have X : Hid (scan WF (nr - N0) N0 none = (s, a)) := by show _ = _; rw [SC.out, show nr - a = 0 by omega, scan_zero]
                    have hz : ¬ (a : Int) < (nr : Int) := by omega
                    have E : Hid (stop0 nr N0 = a) := by show _ = _; unfold stop0; split <;> omega
                    go_wp2
                    go_meet
                    go_light
                    exact ⟨by rw [X.out], by rw [X.out, E.out], rfl⟩
              case rest =>
                obtain ⟨rfl, rfl, rfl⟩ := hcut
                have A6 := hide (HA5.out.next BQ.out HA5.out.size)
                have Q6 := hide (HQ5.out.below BQ.out hQlt5)
                have z6 : w5.heap.size ≤ w6.heap.size := BQ.out.size
                have hcs6 : Hid (∀ j, j < ng + 1 → w6.cell? ⟨sc, j, none⟩ = some (.pointer (some ⟨w.heap.size + 2 + j, 0, none⟩))) := fun j hj => by rw [BQ.out.cell (p := ⟨sc, j, none⟩) hsc5]; exact hcs5.out j hj
                have C6 := hide (CP5.out.below BQ.out)
                clear HA5 HQ5 BQ hcs5 CP5 WR WR'
                have HLT := hide (scan_lt WF (ng + 1) (fun i k h => by rw [HWFD.out] at h; exact wantF_lt h) (nr - N0) N0 none (fun k h => by simp at h))
                have hB7 : Hid (∀ o, Below w6.heap.size w6 (w6.alloc o)) := fun o => (Below.refl _ _).alloc (Nat.le_refl _) o
                have hA6z : w.heap.size + 2 + (ng + 1) ≤ w6.heap.size := A6.out.size
                have hQ6z : w3.heap.size < w6.heap.size := by omega
                go_wp2_with fail
                refine (run_any w6.heap.size (w.heap.size + 1) (w.heap.size + 2) (ng + 1) w3.heap.size nr N0 (bs b0 gg) rbf gbf nnf ccf (fun i => (fstI (fi i)).toNat) (fun i => (IntKind.u64.wrap (la i)).toNat) dr _ (by exact (A6.out.next (hB7.out _) A6.out.size).segs) (by simp) (by exact Q6.out.below (hB7.out _) hQ6z) (by simp) (by simp; omega) (by simp; omega) (by simp; omega)).mono ?_
                rintro e w8 ⟨rfl, bel8⟩
                rw [← HWFD.out]
                have bel68 : Below w6.heap.size w6 w8 := (hB7.out _).trans (bel8.mono (by simp))
                have A8 := hide (A6.out.next bel68 A6.out.size)
                have Q8 := hide (Q6.out.below bel68 hQ6z)
                have hcs8 : Hid (∀ j, j < ng + 1 → w8.cell? ⟨sc, j, none⟩ = some (.pointer (some ⟨w.heap.size + 2 + j, 0, none⟩))) := fun j hj => by rw [bel68.cell (p := ⟨sc, j, none⟩) (by show sc < w6.heap.size; omega)]; exact hcs6.out j hj
                have C8 := hide (C6.out.below bel68)
                have st8 : w8.cell? ⟨w6.heap.size, 17, none⟩ = some (.slice (some ⟨w.heap.size + 1, 0, none⟩) (ng + 1) (ng + 1)) := by rw [bel8.cell (p := ⟨w6.heap.size, 17, none⟩) (by simp)]; simp
                have z8 : w6.heap.size < w8.heap.size := by have := bel8.size; simp at this; omega
                clear bel68 bel8 hcs6 C6 Q6 A6 hB7
                generalize scan WF (nr - N0) N0 none = r at HLT ⊢
                obtain ⟨s, a⟩ := r
                have HS : Hid (∀ k, s = some k → k < ng + 1) := HLT.out
                clear HLT HWFD
                have n38 := neq_same38
                go_upto_if 222 with fail
                go_cut [8] from 221 to 230 (fun s8 wx => s8 = .bool false ∧ w8 = wx)
                case first =>
                  cases s with
                  | none =>
                    rw [show ptrOf (w.heap.size + 2) ((none : Option Nat), a).1 = .pointer none from rfl, show oI ((none : Option Nat), a).1 = -1 from rfl]
                    go_wp2
                    go_meet
                    go_light
                    exact ⟨rfl, rfl⟩
                  | some d =>
                    have hd := HS.out d rfl
                    have r1 := hcs8.out d hd
                    have hdz : (d : Int) < (ng : Int) + 1 := by omega
                    have hd0 : ¬ (d : Int) < 0 := by omega
                    rw [show ptrOf (w.heap.size + 2) (some d, a).1 = .pointer (some ⟨w.heap.size + 2 + d, 0, none⟩) from rfl, show oI (some d, a).1 = (d : Int) from rfl]
                    go_wp2
                    go_meet
                    go_light
                    exact ⟨rfl, rfl⟩
                case rest =>
                  obtain ⟨rfl, rfl⟩ := hcut
                  go_upto_block 12 with fail
                  go_cut [34] from 241 to 270 (fun _ wx => ∃ q, wx = w8.drewN q)
                  case first =>
                    go_wp2_with fail
                    go_loopg [241, 34] (ng + 1) (fun g i _ wx => ∃ k : Nat, k ≤ ng + 1 ∧ g = ng + 1 - k ∧ i = .int .i64 k ∧ ∃ q, wx = w8.drewN q)
                    case atStart => exact ⟨0, Nat.zero_le _, rfl, rfl, 0, rfl⟩
                    case round =>
                      obtain ⟨k, hk, rfl, rfl, q, rfl⟩ := hrel
                      by_cases hlt : k < ng + 1
                      · have r1 := A8.out.segs.row k hlt
                        have r2 := A8.out.segs.at0 k hlt
                        have r3 := hcs8.out k hlt
                        have r4 := A8.out.brow k hlt
                        have hz : (k : Int) < (ng : Int) + 1 := by omega
                        go_wp2
                        go_quiet (fail)
                        go_wp2
                        go_roundg (ng + 1 - (k + 1))
                        case measure => go_light; omega
                        case rel => go_light; exact ⟨k + 1, by omega, rfl, by go_num, _, rfl⟩
                      · obtain rfl : k = ng + 1 := by omega
                        go_wp2
                        go_meet
                        go_light
                        exact ⟨q, rfl⟩
                  case rest =>
                    obtain ⟨q7, rfl⟩ := hcut
                    have n47 := neq_same47
                    obtain ⟨a19, c19, rfl, h19⟩ := C8.out
                    go_upto_block 14 with fail
                    go_cut [35] from 273 to 317 (fun _ wx => Below w8.heap.size w8 wx)
                    case first =>
                      go_wp2_with fail
                      go_loopg [273, 35, 36, 37] nr (fun g i _ _ _ wr => ∃ k : Nat, k ≤ nr ∧ g = nr - k ∧ i = .int .i64 k ∧ Below w8.heap.size w8 wr)
                      case atStart => exact ⟨0, Nat.zero_le _, rfl, rfl, below_drewN (Below.refl _ _) q7⟩
                      case round =>
                        obtain ⟨k, hk, rfl, rfl, hbel⟩ := hrel
                        by_cases hlt : k < nr
                        · obtain rfl := h2 (by omega)
                          obtain ⟨qc, rfl, hqc, hqcell⟩ := h19 (by omega)
                          have hbr : rb < w.heap.size := World.block_lt_of_cell? _ _ (HG20.out k hlt)
                          have bw := A8.out.bel.trans (hbel.mono (by omega))
                          have r0 : wr.cell? ⟨rb, ro + k * 3, none⟩ = some (.bool (dr k)) := by rw [bw.cell (p := ⟨rb, ro + k * 3, none⟩) hbr]; exact HG20.out k hlt
                          have r1 : wr.cell? ⟨rb, ro + k * 3 + 1, none⟩ = some (.int .i64 (fi k)) := by rw [bw.cell (p := ⟨rb, ro + k * 3 + 1, none⟩) hbr]; exact HG21.out k hlt
                          have r2 : wr.cell? ⟨rb, ro + k * 3 + 2, none⟩ = some (.int .i64 (la k)) := by rw [bw.cell (p := ⟨rb, ro + k * 3 + 2, none⟩) hbr]; exact HG22.out k hlt
                          have hz : (k : Int) < (nr : Int) := by omega
                          have Qr := Q8.out.below hbel (by omega)
                          have s1 : ∀ o, (wr.alloc o).cell? ⟨w3.heap.size, k * 2, none⟩ = some (.pointer (some ⟨rbf k, 0, none⟩)) := fun o => cell_al o (Qr.ptr k hlt)
                          have s3 : ∀ o, (wr.alloc o).cell? ⟨w3.heap.size, k * 2 + 1, none⟩ = some (.slice none 0 0) := fun o => cell_al o (Qr.nul k hlt)
                          have s4 : ∀ o, (wr.alloc o).cell? ⟨qc, k * 2, none⟩ = some (.pointer (some ⟨rbf k, 0, none⟩)) := fun o => cell_al o (by
                            rw [hbel.cell (p := ⟨qc, k * 2, none⟩) hqc, hqcell (k * 2) (by omega)]
                            unfold qf
                            rw [if_pos (by omega), show k * 2 / 2 = k by omega])
                          have n53 : ∀ w, (binOp .neq 53 (.slice none 0 0) (.slice none 0 0)).run Yba.prog w = .ok (.bool false) w := fun _ => by kernel_rfl
                          have n23 : ∀ w, (binOp .neq 23 (.slice none 0 0) (.slice none 0 0)).run Yba.prog w = .ok (.bool false) w := fun _ => by kernel_rfl
                          have BL := hide hbel
                          cases hd : dr k with
                          | true =>
                            have s5 : ∀ o, (wr.alloc o).cell? ⟨rbf k, 1, none⟩ = some (.slice none 0 0) := fun o => cell_al o (Qr.drop k hlt hd)
                            rw [hd] at r0
                            clear hd Qr bw hbel
                            go_wp2
                            go_quiet (fail)
                            go_wp2
                            go_roundg (nr - (k + 1))
                            case measure => go_light; omega
                            case rel => go_light; exact ⟨k + 1, by omega, rfl, by go_num, below_drewN (BL.out.alloc BL.out.size _) _⟩
                          | false =>
                            have hk9 := Qr.keep k hlt hd
                            have s5 : ∀ o, (wr.alloc o).cell? ⟨rbf k, 1, none⟩ = some (.slice (some ⟨gbf k, 0, none⟩) (plc (fstI (fi k)).toNat (IntKind.u64.wrap (la k)).toNat).length (ccf k)) := fun o => cell_al o (by rw [hk9.len]; exact hk9.places)
                            have BY := hide hk9.byts
                            have GL := hide (Qr.glt k hlt)
                            rw [hd] at r0
                            have hf0 := (HWF.out k hlt).1
                            have hf1 := (HWF.out k hlt).2
                            have hp := fstI_bd (fi k) hf0 hf1
                            have hp0 := hp.1
                            have hp1 := hp.2
                            clear hd Qr bw hbel hk9 hp n23
                            go_wp2
                            go_quiet (fail)
                            go_wp2
                            go_region_with (first | (go_at_call 9; refine (first_law _ _ _ _ hf0 hf1).mono ?_; rintro e w9 ⟨rfl, rfl⟩) | (go_at_call 8; refine (places_any _ _ _ hp0 hp1).mono ?_; rintro e w10 ⟨g, c, rfl, hg1, hg2, hby, hcap, bel10⟩; have by1 := hide (byts_way BY.out GL.out bel10)) | (go_at_call 11; refine (bytesEqual_any _ _ _ _ _ _ _ (conv_byts by1.out) (conv_byts hby)).mono ?_; rintro e w11 ⟨rfl, rfl⟩))
                            all_goals
                              have B10 := hide (below_way BL.out BL.out.size bel10)
                              clear by1 hby hcap hg1 hg2 bel10 s1 s3 s4 s5
                              go_wp2
                              go_roundg (nr - (k + 1))
                              case measure => go_light; omega
                              case rel => go_light; exact ⟨k + 1, by omega, rfl, by go_num, B10.out⟩
                        · obtain rfl : nr = k := by omega
                          go_wp2
                          go_meet
                          go_light
                          exact hbel
                    case rest =>
                      have bel9 : Below w8.heap.size w8 wc := hcut
                      have BF := hide (A8.out.bel.trans (bel9.mono (by omega)))
                      clear bel9 hcut
                      go_wp2
                      go_ret
                      exact ⟨rfl, BF.out⟩
end Go.Proofs.Ybulkdhhq
