/-
  The walk of forkstream.LawS5425BWhole (function 4).
-/
import Derived.Test.YbulkdhieC5
namespace Go.Proofs.Ybulkdhie
open Go.RowKit Go.Conc Go.Proofs.Ybulkdhie.Lone

set_option maxRecDepth 100000 in
set_option maxHeartbeats 1600000 in
theorem lawB_any (a0 a1 : Option Addr) (n c0 m c1 kb ko vb vo : Nat) (ks : Nat → Bool) (vs : Nat → Int) (w : World) (hn : n ≤ 4096)
    (h0 : 0 < n → a0 = some ⟨kb, ko, none⟩) (gk : ∀ j, j < n → w.cell? ⟨kb, ko + j, none⟩ = some (.bool (ks j)))
    (h1 : 0 < m → a1 = some ⟨vb, vo, none⟩) (gv : ∀ j, j < m → w.cell? ⟨vb, vo + j, none⟩ = some (.int .i64 (vs j))) :
    Calls Yba.prog 4 #[.slice a0 n c0, .slice a1 m c1] w fun e w' => e = .returned (.bool true) ∧ Below w.heap.size w w' := by
  have hm1 := make25 n hn
  have HGK := hideC gk
  have HGV := hideC gv
  have hz : ¬ (4096 : Int) < (n : Int) := by omega
  clear gk gv
  go_enter Yba.func4, Yba.ntmps4
  go_upto_block 0 with fail
  clear hm1
  go_cut [8, 9, 10, 11] from 25 to 39 (fun _ _ _ _ wc => Sent w.heap.size n ks (valAt m vs) n w wc)
  case first =>
    go_wp2_with fail
    go_loopg [8, 9, 10, 11] n (fun g i _ _ _ wr => ∃ k : Nat, k ≤ n ∧ g = n - k ∧ i = .int .i64 k ∧ Sent w.heap.size n ks (valAt m vs) k w wr)
    case atStart => exact ⟨0, Nat.zero_le _, rfl, rfl, Sent.start n ks (valAt m vs) w⟩
    case round =>
      obtain ⟨k, hk, rfl, rfl, hs⟩ := hrel
      by_cases hlt : k < n
      · obtain rfl := h0 (by omega)
        have hbk : kb < w.heap.size := World.block_lt_of_cell? _ _ (HGK.out k hlt)
        have r0 : wr.cell? ⟨kb, ko + k, none⟩ = some (.bool (ks k)) := by rw [hs.bel.cell (p := ⟨kb, ko + k, none⟩) hbk]; exact HGK.out k hlt
        have hbw : kb < wr.heap.size := by have := hs.sz; omega
        have r1 : ∀ o, (wr.alloc o).cell? ⟨kb, ko + k, none⟩ = some (.bool (ks k)) := fun o => by rw [World.cell?_alloc_lt _ _ _ hbw]; exact r0
        have HV : Hid (∀ o1 o2 j, j < m → ((wr.alloc o1).alloc o2).cell? ⟨vb, vo + j, none⟩ = some (.int .i64 (vs j))) := fun o1 o2 j hj => by
          have hb := World.block_lt_of_cell? _ _ (HGV.out j hj)
          rw [World.cell?_alloc_lt _ _ _ (by have := hs.sz; simp at hb ⊢; omega), World.cell?_alloc_lt _ _ _ (by have := hs.sz; simp at hb ⊢; omega), hs.bel.cell (p := ⟨vb, vo + j, none⟩) hb]
          exact HGV.out j hj
        have hz2 : (k : Int) < (n : Int) := by omega
        have HS := hideC hs
        clear hs r0
        go_upto_region 12 with (go_at_call 8; refine (val_any a1 m c1 vb vo k vs _ (by omega) h1 (by exact HV.out _ _)).mono ?_; rintro e w3 ⟨rfl, rfl⟩)
        obtain ⟨s, r, tm, hch⟩ := HS.out.chan (.cells #[.int .i64 k] 3) (.cells #[.bool (ks k)] 4) (.cells #[.int .i64 (valAt m vs k)] 3)
        have hst := HS.out.step (s + 1) r tm
        have hsz := HS.out.sz
        generalize ((wr.alloc (.cells #[.int .i64 k] 3)).alloc (.cells #[.bool (ks k)] 4)).alloc (.cells #[.int .i64 (valAt m vs k)] 3) = W at hch hst ⊢
        refine wp_region_ops ?_
        show OpsW _ _ _ [0, 1, 2] _ _
        refine OpsW.value (v := .chan (some w.heap.size)) (w' := W) rfl rfl (by simp [go_sem]) ?_
        refine OpsW.value (v := clo (w.heap.size + 1) (w.heap.size + 2) k) (w' := W) rfl rfl (by simp [go_sem, clo, hsz, Instr.makeFunc]) ?_
        refine OpsW.send (c := w.heap.size) (v := clo (w.heap.size + 1) (w.heap.size + 2) k) (z := .tuple #[]) (w' := W) rfl rfl (by simp [execOp, scase, Act.eval, Act.put]) hch (by rw [sendBuf_size]; omega) ?_
        rw [sendBuf_push]
        refine OpsW.nil ?_
        simp only [Act.put, List.setIfInBounds_toArray]
        generalize W.setChan w.heap.size n (sendBuf (w.heap.size + 1) (w.heap.size + 2) (k + 1)) false (s + 1) r tm = wx at hst ⊢
        have HST := hideC hst
        clear hst hch hsz W
        go_wp2_with fail
        go_roundg (n - (k + 1))
        case measure => go_light; omega
        case rel => go_light; exact ⟨k + 1, hlt, rfl, by go_num, HST.out⟩
      · obtain rfl : n = k := by omega
        go_wp2
        go_meet
        go_light
        exact hs
  case rest =>
    rename World => wc
    obtain ⟨s, r, tm, hch⟩ := hcut.ch
    have hrd := served_ready hcut s r tm
    obtain ⟨w1, hw1⟩ : ∃ w1, w1 = wc.setChan w.heap.size n (sendBuf (w.heap.size + 1) (w.heap.size + 2) n) true s r tm := ⟨_, rfl⟩
    have hcl : ∀ ats ty, (Builtin.close_ ats ty #[.chan (some w.heap.size)]).run Yba.prog wc = .ok (.tuple #[]) w1 := fun ats ty => by rw [hw1]; exact run_close_open ats ty hch
    have hm2 := make28 n hn
    have e1 : w1.heap.size = wc.heap.size := by rw [hw1]; exact size_setChan ..
    have CELLS : Hid ((((w1.alloc (.chan n #[] false 0 0 false)).alloc (.cells #[.chan (some w.heap.size), .chan (some wc.heap.size), .bool false, .nilIface] 30)).alloc (.cells #[.int .u64 0, .int .u32 0] 40)).heap[wc.heap.size + 1 + 1]? = some (.cells #[.int .u64 0, .int .u32 0] 40 (0, 0))) := by
      have t3 := (three w1 (.chan n #[] false 0 0 false) (.cells #[.chan (some w.heap.size), .chan (some wc.heap.size), .bool false, .nilIface] 30) (.cells #[.int .u64 0, .int .u32 0] 40)).2.2.2.1
      rw [e1] at t3
      exact t3
    have CUT := hideC hcut
    have RD := hideC hrd
    have HW1 := hideC hw1
    clear hcut hrd hw1 hch
    go_upto_block 2 with (first
      | (go_at_call 10; (refine (wg_add (wc.heap.size + 1 + 1) _ (by simp only [World.cell?]; rw [CELLS.out]; rfl) (by simp only [World.cell?]; rw [CELLS.out]; rfl) (by simp only [World.frozen?]; rw [CELLS.out]; rfl)).mono ?_; rintro e w4 ⟨rfl, hw4⟩; have h4 : w4 = served w.heap.size n s r tm wc := (by rw [hw4, HW1.out]; rfl); clear hw4; subst h4))
      | (go_at_call 11; refine (serve_any w.heap.size (w.heap.size + 1) (w.heap.size + 2) wc.heap.size (wc.heap.size + 1) (wc.heap.size + 2) (wc.heap.size + 3) n ks (valAt m vs) s r tm _ hn (by omega) (by omega) (by have := CUT.out.sz; omega) (by omega) (by omega) (by omega) (by exact RD.out.1) (by exact RD.out.2.1) (by exact RD.out.2.2.1) (by exact RD.out.2.2.2.1) (by exact RD.out.2.2.2.2.1)).mono ?_; rintro e w5 ⟨rfl, hinv, hfr, hem, hwg⟩; have DONE := hideC (done_of RD.out.2.2.2.2.2 CUT.out.sz hinv hfr hem (by have := RD.out.1.szb; have := CUT.out.sz; omega)); clear hinv hfr hem)
      | (go_at_call 12; refine (wg_wait (wc.heap.size + 1 + 1) _ (by exact hwg)).mono ?_; rintro e w6 ⟨rfl, h6⟩; have h6 := h6.symm; subst h6)
      | fail)
    have D := DONE.out
    have hsz := CUT.out.sz
    have KK : Hid (∀ j, j < n → w5.cell? ⟨kb, ko + j, none⟩ = some (.bool (ks j))) := fun j hj => by
      rw [D.bel.cell (p := ⟨kb, ko + j, none⟩) (World.block_lt_of_cell? _ _ (HGK.out j hj))]; exact HGK.out j hj
    have VV : Hid (∀ j, j < m → w5.cell? ⟨vb, vo + j, none⟩ = some (.int .i64 (vs j))) := fun j hj => by
      rw [D.bel.cell (p := ⟨vb, vo + j, none⟩) (World.block_lt_of_cell? _ _ (HGV.out j hj))]; exact HGV.out j hj
    clear D RD CUT HW1 CELLS hcl hm2 e1 hwg HGK HGV hsz
    go_cut [14, 15, 16] from 50 to 62 (fun a b _ wx => a = .bool (ret ks n) ∧ b = rais ks (valAt m vs) n ∧ wx = w5)
    case first =>
      go_wp2_with fail
      go_loopg [14, 15, 16] n (fun g a b i wr => ∃ k : Nat, k ≤ n ∧ g = n - k ∧ i = .int .i64 k ∧ a = .bool (ret ks k) ∧ b = rais ks (valAt m vs) k ∧ wr = w5)
      case atStart => exact ⟨0, Nat.zero_le _, rfl, rfl, rfl, rfl, rfl⟩
      case round =>
        obtain ⟨k, hk, rfl, rfl, rfl, rfl, hwr⟩ := hrel
        have hwr := hwr.symm
        subst hwr
        by_cases hlt : k < n
        · obtain rfl := h0 (by omega)
          have r0 := KK.out k hlt
          have hz2 : (k : Int) < (n : Int) := by omega
          cases hb : ks k with
          | true =>
            rw [hb] at r0
            go_wp2_with (go_at_call 8; refine (val_any a1 m c1 vb vo k vs _ (by omega) h1 (by exact VV.out)).mono ?_; rintro e w6 ⟨rfl, h6⟩; have h6 := h6.symm; subst h6)
            go_roundg (n - (k + 1))
            case measure => go_light; omega
            case rel => go_light; exact ⟨k + 1, hlt, rfl, by go_num, by simp [ret, hb], by simp [rais, hb], rfl⟩
          | false =>
            rw [hb] at r0
            go_wp2
            go_roundg (n - (k + 1))
            case measure => go_light; omega
            case rel => go_light; exact ⟨k + 1, hlt, rfl, by go_num, by simp [ret, hb], by simp [rais, hb], rfl⟩
        · obtain rfl : n = k := by omega
          go_wp2
          go_meet
          go_light
          exact ⟨rfl, rfl, rfl⟩
    case rest =>
      obtain ⟨rfl, rfl, hwx⟩ := hcut
      have hwx := hwx.symm
      subst hwx
      obtain ⟨la, lc, g, l1, l2, l3⟩ := DONE.out.log
      have x1 := DONE.out.x1
      have x2 := DONE.out.x2
      have x3 := DONE.out.x3
      have n1 := DONE.out.len1
      have n2 := DONE.out.len2
      have q1 := rais_eql ks (valAt m vs) n
      have q2 := rais_guard ks (valAt m vs) n
      have LL := hideC l3
      clear l3
      go_upto_block 4 with fail
      go_wp2_with fail
      go_loopg [17] n (fun g i wr => ∃ k : Nat, k ≤ n ∧ g = n - k ∧ i = .int .i64 k ∧ wr = w5)
      case atStart => exact ⟨0, Nat.zero_le _, rfl, rfl, rfl⟩
      case round =>
        obtain ⟨k, hk, rfl, rfl, hwr⟩ := hrel
        have hwr := hwr.symm
        subst hwr
        by_cases hlt : k < n
        · obtain rfl := l2 (by omega)
          have r0 := LL.out k hlt
          rw [Nat.zero_add] at r0
          have hz2 : (k : Int) < (n : Int) := by omega
          go_wp2
          go_roundg (n - (k + 1))
          case measure => go_light; omega
          case rel => go_light; exact ⟨k + 1, hlt, rfl, by go_num, rfl⟩
        · obtain rfl : n = k := by omega
          cases hb : ret ks n with
          | true =>
            rw [hb] at x2
            go_wp2
            go_ret
            exact ⟨rfl, DONE.out.bel⟩
          | false =>
            rw [hb] at x2
            go_wp2
            go_ret
            exact ⟨rfl, DONE.out.bel⟩
end Go.Proofs.Ybulkdhie
