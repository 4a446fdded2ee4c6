/-
  The search for the segment: cmp.Compare (22), holding$1 (21), slices.BinarySearchFunc (20), holding (16), slices.Index (25), end (19), stands (18), within (14), run (10).
-/
import Derived.Test.YbulkdhhqC2
import Derived.LaidEqlPtr
namespace Go.Proofs.Ybulkdhhq
open Go.RowKit

/-- cmp.Compare on ints. -/
def cmpI (x y : Int) : Int := if x < y then -1 else if y < x then 1 else 0

theorem compare_any (x y : Int) (w : World) :
    Calls Yba.prog 22 #[.int .i64 x, .int .i64 y] w fun e w' => e = .returned (.int .i64 (cmpI x y)) ∧ w' = w := by
  by_cases h1 : x < y
  · have e : Hid (cmpI x y = -1) := by show cmpI x y = _; unfold cmpI; rw [if_pos h1]
    go_enter Yba.func22, Yba.ntmps22
    go_wp2
    go_ret
    exact ⟨by rw [e.out]; rfl, rfl⟩
  · by_cases h2 : y < x
    · have e : Hid (cmpI x y = 1) := by show cmpI x y = _; unfold cmpI; rw [if_neg h1, if_pos h2]
      go_enter Yba.func22, Yba.ntmps22
      go_wp2
      go_ret
      exact ⟨by rw [e.out]; rfl, rfl⟩
    · have e : Hid (cmpI x y = 0) := by show cmpI x y = _; unfold cmpI; rw [if_neg h1, if_neg h2]
      go_enter Yba.func22, Yba.ntmps22
      go_wp2
      go_ret
      exact ⟨by rw [e.out]; rfl, rfl⟩

theorem holding1_any (b : Nat) (x y : Int) (w : World) (h : w.cell? ⟨b, 0, none⟩ = some (.int .i64 x)) :
    Calls Yba.prog 21 #[.pointer (some ⟨b, 0, none⟩), .int .i64 y] w fun e w' => e = .returned (.int .i64 (cmpI x y)) ∧ w' = w := by
  go_enter Yba.func21, Yba.ntmps21
  go_wp2_with fail
  refine (compare_any _ _ _).mono ?_
  rintro e w' ⟨rfl, rfl⟩
  go_wp2
  go_ret
  exact ⟨rfl, rfl⟩

/-- What the segments look like in memory: a row of pointers to blocks S, S + 1, ..; each begins with its base; the bases go up. -/
structure Segs (w : World) (sb S nb : Nat) (base : Nat → Int) : Prop where
  pos : 0 < nb
  le : nb ≤ 4097
  row : ∀ j, j < nb → w.cell? ⟨sb, j, none⟩ = some (.pointer (some ⟨S + j, 0, none⟩))
  at0 : ∀ j, j < nb → w.cell? ⟨S + j, 0, none⟩ = some (.int .i64 (base j))
  blk : ∀ j, j < nb → ∃ c, w.heap[S + j]? = some (.cells c 43 (0, 0))
  up : ∀ i j, i < j → j < nb → base i < base j

/-- '==' and '!=' on two pointers of one type into blocks of cells. -/
theorem ptr_equal_same {P : Program} {tp te : TypeId} {j : TypeInfo} (a : Addr) (w : World) (hp : P.underlying tp = some (.pointer te)) (hte : P.info? te = some j) (d : Nat) :
    (Op.equalIn (d + 1) tp (.pointer (some a)) (.pointer (some a))).run P w = .ok true w := by
  simp [Op.equalIn, run_underlying hp, sizeOf, typeInfo, hte, run_sameAddr_same]
theorem ptr_equal_other {P : Program} {tp te : TypeId} {j : TypeInfo} {a b : Addr} {ca cb : Array Value} {ta tb : TypeId} (w : World) (hp : P.underlying tp = some (.pointer te)) (hte : P.info? te = some j) (hsz : j.size ≠ 0)
    (hne : a ≠ b) (ha : w.heap[a.block]? = some (.cells ca ta (0, 0))) (hb : w.heap[b.block]? = some (.cells cb tb (0, 0))) (d : Nat) :
    (Op.equalIn (d + 1) tp (.pointer (some a)) (.pointer (some b))).run P w = .ok false w := by
  simp [Op.equalIn, run_underlying hp, sizeOf, typeInfo, hte, hsz, run_sameAddr_other w hne ha hb]
theorem run_neq_ptr_same {P : Program} {tp te : TypeId} {j : TypeInfo} (a : Addr) (w : World) (hp : P.underlying tp = some (.pointer te)) (hte : P.info? te = some j) :
    (binOp .neq tp (.pointer (some a)) (.pointer (some a))).run P w = .ok (.bool false) w := by
  simp only [binOp]
  simp [Op.equal, Op.maxDepth, ptr_equal_same a w hp hte 9999]
theorem run_neq_ptr_other {P : Program} {tp te : TypeId} {j : TypeInfo} {a b : Addr} {ca cb : Array Value} {ta tb : TypeId} (w : World) (hp : P.underlying tp = some (.pointer te)) (hte : P.info? te = some j) (hsz : j.size ≠ 0)
    (hne : a ≠ b) (ha : w.heap[a.block]? = some (.cells ca ta (0, 0))) (hb : w.heap[b.block]? = some (.cells cb tb (0, 0))) :
    (binOp .neq tp (.pointer (some a)) (.pointer (some b))).run P w = .ok (.bool true) w := by
  simp only [binOp]
  simp [Op.equal, Op.maxDepth, ptr_equal_other w hp hte hsz hne ha hb 9999]

theorem Yba.info43 : (Yba.prog.info? 43).map (fun i => decide (i.size ≠ 0)) = some true := by kernel_rfl

theorem Segs.eql {w : World} {sb S nb : Nat} {base : Nat → Int} (h : Segs w sb S nb base) (i j : Nat) (hi : i < nb) (hj : j < nb) :
    (binOp .eql 38 (.pointer (some ⟨S + i, 0, none⟩)) (.pointer (some ⟨S + j, 0, none⟩))).run Yba.prog w = .ok (.bool (decide (i = j))) w := by
  obtain ⟨t, ht, hs⟩ := Option.map_eq_some_iff.1 Yba.info43
  by_cases e : i = j
  · subst e
    rw [run_eql_ptr_same w ⟨S + i, 0, none⟩ Yba.underlying38 ht]
    simp
  · obtain ⟨ci, hi'⟩ := h.blk i hi
    obtain ⟨cj, hj'⟩ := h.blk j hj
    rw [run_eql_ptr_other w Yba.underlying38 ht (by simpa using hs) (fun e2 => e (by have := congrArg Addr.block e2; simp at this; omega)) hi' hj']
    simp [e]

theorem Segs.neq {w : World} {sb S nb : Nat} {base : Nat → Int} (h : Segs w sb S nb base) (i j : Nat) (hi : i < nb) (hj : j < nb) :
    (binOp .neq 38 (.pointer (some ⟨S + i, 0, none⟩)) (.pointer (some ⟨S + j, 0, none⟩))).run Yba.prog w = .ok (.bool (decide (i ≠ j))) w := by
  obtain ⟨t, ht, hs⟩ := Option.map_eq_some_iff.1 Yba.info43
  by_cases e : i = j
  · subst e
    rw [run_neq_ptr_same ⟨S + i, 0, none⟩ w Yba.underlying38 ht]
    simp
  · obtain ⟨ci, hi'⟩ := h.blk i hi
    obtain ⟨cj, hj'⟩ := h.blk j hj
    rw [run_neq_ptr_other w Yba.underlying38 ht (by simpa using hs) (fun e2 => e (by have := congrArg Addr.block e2; simp at this; omega)) hi' hj']
    simp [e]

set_option maxHeartbeats 800000 in
theorem search_any (sb S nb : Nat) (base : Nat → Int) (x : Int) (w : World) (h : Segs w sb S nb base) :
    Calls Yba.prog 20 #[.slice (some ⟨sb, 0, none⟩) nb nb, .int .i64 x, .func (.func 21) #[] #[]] w fun e w' => ∃ i : Nat, i ≤ nb ∧ (∀ j, j < i → base j < x) ∧ (∀ j, i ≤ j → j < nb → x ≤ base j) ∧ e = .returned (.tuple #[.int .i64 i, .bool (decide (i < nb ∧ base i = x))]) ∧ w' = w := by
  have hnb := h.le
  have H := hide h
  clear h
  go_enter Yba.func20, Yba.ntmps20
  go_wp2
  go_loopg [9, 10, 11] nb (fun g i j _ wr => ∃ a b : Nat, a ≤ b ∧ b ≤ nb ∧ g = b - a ∧ i = .int .i64 a ∧ j = .int .i64 b ∧ wr = w ∧ (∀ t, t < a → base t < x) ∧ (∀ t, b ≤ t → t < nb → x ≤ base t))
  case atStart => exact ⟨0, nb, by omega, by omega, rfl, rfl, rfl, rfl, fun t ht => absurd ht (Nat.not_lt_zero _), fun t h1 h2 => by omega⟩
  case round =>
    obtain ⟨a, b, hab, hb, rfl, rfl, rfl, rfl, hlo, hhi⟩ := hrel
    have HLO := hide hlo
    have HHI := hide hhi
    clear hlo hhi
    by_cases hlt : a < b
    · have hz : (a : Int) < (b : Int) := by omega
      have hmn : (a + b) / 2 < nb := by omega
      have hmz : ((a : Int) + (b : Int)) / 2 < (nb : Int) := by omega
      have r1 := H.out.row _ hmn
      have r2 := H.out.at0 _ hmn
      have UP := hide H.out.up
      clear H
      by_cases hc : base ((a + b) / 2) < x
      · have hcm : cmpI (base ((a + b) / 2)) x < 0 := by unfold cmpI; rw [if_pos hc]; omega
        go_wp2_with (go_at_call 21; refine (holding1_any _ _ _ _ r2).mono ?_; rintro e w' ⟨rfl, rfl⟩)
        go_roundg (b - ((a + b) / 2 + 1))
        case measure => go_light; omega
        case rel =>
          go_light
          refine ⟨(a + b) / 2 + 1, b, by omega, hb, rfl, by go_num, rfl, rfl, fun t ht => ?_, HHI.out⟩
          by_cases e : t = (a + b) / 2
          · rw [e]; exact hc
          · exact Int.lt_trans (UP.out t ((a + b) / 2) (by omega) hmn) hc
      · have hcm : ¬ cmpI (base ((a + b) / 2)) x < 0 := by unfold cmpI; rw [if_neg hc]; split <;> omega
        go_wp2_with (go_at_call 21; refine (holding1_any _ _ _ _ r2).mono ?_; rintro e w' ⟨rfl, rfl⟩)
        go_roundg ((a + b) / 2 - a)
        case measure => go_light; omega
        case rel =>
          go_light
          refine ⟨a, (a + b) / 2, by omega, by omega, rfl, rfl, by go_num, rfl, HLO.out, fun t h1 h2 => ?_⟩
          by_cases e : t = (a + b) / 2
          · rw [e]; omega
          · have := UP.out ((a + b) / 2) t (by omega) h2
            omega
    · obtain rfl : a = b := by omega
      by_cases han : a < nb
      · have hz : (a : Int) < (nb : Int) := by omega
        have r1 := H.out.row _ han
        have r2 := H.out.at0 _ han
        clear H
        by_cases hc : base a = x
        · have hcm : (cmpI (base a) x == 0) = true := by unfold cmpI; rw [if_neg (by omega), if_neg (by omega)]; rfl
          have HD : Hid (decide (a < nb ∧ base a = x) = true) := by show decide _ = true; simp [han, hc]
          have HC := hide hc
          clear hc
          go_wp2_with (go_at_call 21; refine (holding1_any _ _ _ _ r2).mono ?_; rintro e w' ⟨rfl, rfl⟩)
          go_ret2
          exact ⟨a, hb, HLO.out, HHI.out, by rw [HD.out]; rfl, rfl⟩
        · have hcm : (cmpI (base a) x == 0) = false := by unfold cmpI; split; rfl; split; rfl; omega
          have HD : Hid (decide (a < nb ∧ base a = x) = false) := by show decide _ = false; simp [hc]
          go_wp2_with (go_at_call 21; refine (holding1_any _ _ _ _ r2).mono ?_; rintro e w' ⟨rfl, rfl⟩)
          go_ret2
          exact ⟨a, hb, HLO.out, HHI.out, by rw [HD.out]; rfl, rfl⟩
      · have HD : Hid (decide (a < nb ∧ base a = x) = false) := by show decide _ = false; simp [han]
        clear H
        go_wp2
        go_ret2
        exact ⟨a, hb, HLO.out, HHI.out, by rw [HD.out]; rfl, rfl⟩
end Go.Proofs.Ybulkdhhq
