/-
  holdfast.LawS5429AWhole: slices.Equal (8) and slices.Clone (6) on keys.
-/
import Derived.Test.YbulkdhkiA3
import Derived.Maps.AppendAt
import Derived.OwnWalk
namespace Go.Proofs.Ybulkdhki
open Go.RowKit
attribute [-go_sem] loadVar storeVar

set_option maxRecDepth 100000 in
theorem neq_same (j : Nat) (hj : j < 256) (w : World) : (binOp .neq 40 (keyVal j) (keyVal j)).run Yba.prog w = .ok (.bool false) w := by
  obtain ⟨r, h1, h2⟩ := run_equal_deep (P := Yba.prog) w (m := 2) (by omega) (by kernel_rfl) wide40 (keyOf_kl hj) (keyOf_kl hj)
  have hr : r = true := h2.2 rfl
  subst hr
  show Sem.run Yba.prog (do pure (Value.bool (!(← Op.equal 40 (keyVal j) (keyVal j))))) w = _
  simp [h1]
theorem guard_same (j : Nat) (x y : Operand) (w : World) : (eqGuard .neq 40 x y (keyVal j) (keyVal j)).run Yba.prog w = .ok () w := by
  simp [eqGuard, keyVal]

set_option maxRecDepth 100000 in
set_option maxHeartbeats 1600000 in
/-- slices.Equal of two slices that hold the same keys. -/
theorem equal_any (a1 a2 : Option Addr) (n c1 c2 b1 o1 b2 o2 : Nat) (tr : Nat → Nat) (w : World) (hn : n ≤ 1048576) (htr : ∀ i, i < n → tr i < 256)
    (h1 : 0 < n → a1 = some ⟨b1, o1, none⟩) (k1 : ∀ i, i < n → KeyAt w b1 (o1 + i * 32) (tr i)) (h2 : 0 < n → a2 = some ⟨b2, o2, none⟩) (k2 : ∀ i, i < n → KeyAt w b2 (o2 + i * 32) (tr i)) :
    Calls Yba.prog 8 #[.slice a1 n c1, .slice a2 n c2] w fun e w' => e = .returned (.bool true) ∧ ∃ q, w' = w.drewN q := by
  have K1 := hide k1
  have K2 := hide k2
  have hz : (n : Int) ≤ 1048576 := by omega
  clear k1 k2
  go_enter Yba.func8, Yba.ntmps8
  go_upto_block 0 with fail
  go_wp2_with fail
  go_loopg [5, 13] n (fun g _ i wr => ∃ k : Nat, k ≤ n ∧ g = n - k ∧ i = .int .i64 k ∧ ∃ q, wr = w.drewN q)
  case atStart => exact ⟨0, Nat.zero_le _, rfl, rfl, 0, rfl⟩
  case round =>
    obtain ⟨k, hk, rfl, rfl, q, hwr⟩ := hrel
    by_cases hlt : k < n
    · obtain rfl := h1 (by omega)
      obtain rfl := h2 (by omega)
      have hz2 : (k : Int) < (n : Int) := by omega
      have l1 : (loadVar 40 ⟨b1, o1 + k * 32, none⟩).run Yba.prog wr.drew = .ok (keyVal (tr k)) wr.drew := KeyAt.loadV (w := wr.drew) ((K1.out k hlt).kept (by rw [hwr]; rfl))
      have l2 : (loadVar 40 ⟨b2, o2 + k * 32, none⟩).run Yba.prog wr.drew = .ok (keyVal (tr k)) wr.drew := KeyAt.loadV (w := wr.drew) ((K2.out k hlt).kept (by rw [hwr]; rfl))
      have e1 := neq_same (tr k) (htr k hlt)
      have e2 := guard_same (tr k)
      have HW := hide hwr
      clear hwr
      go_upto_region 6 with fail
      go_region
      go_wp2_with fail
      go_roundg (n - (k + 1))
      case measure => go_light; omega
      case rel => go_light; exact ⟨k + 1, hlt, rfl, by go_num, q + 1, by rw [HW.out]; rfl⟩
    · obtain rfl : n = k := by omega
      have HW := hide hwr
      clear hwr
      go_wp2
      go_ret
      exact ⟨rfl, q, HW.out⟩

/-! ### slices.Clone -/
def flat (tr : Nat → Nat) (j : Nat) : Value := (keyCells (tr (j / 32))).getD (j % 32) undef
theorem keyCells_at (i c : Nat) (hc : c < 32) : (keyCells i)[c]? = some ((keyCells i).getD c undef) := by
  have : c < (keyCells i).size := hc
  simp [Array.getD, this]
theorem flat_at (tr : Nat → Nat) (i c : Nat) (hc : c < 32) : flat tr (i * 32 + c) = (keyCells (tr i)).getD c undef := by
  have e1 : (i * 32 + c) / 32 = i := by omega
  have e2 : (i * 32 + c) % 32 = c := by omega
  simp [flat, e1, e2]
theorem flat_one (tr : Nat → Nat) (j : Nat) : (flat tr j).oneCell' = true := by
  have h := Array.all_eq_true_iff_forall_mem.1 (keyCells_one (tr (j / 32))) (flat tr j) (by
    have := keyCells_at (tr (j / 32)) (j % 32) (Nat.mod_lt _ (by omega))
    exact Array.mem_of_getElem? this)
  exact h

theorem keys_flat {w : World} {b o n : Nat} {tr : Nat → Nat} (h : ∀ i, i < n → KeyAt w b (o + i * 32) (tr i)) (j : Nat) (hj : j < n * 32) : w.cell? ⟨b, o + j, none⟩ = some (flat tr j) := by
  have h1 := h (j / 32) (by omega) (j % 32) (flat tr j) (by
    have := keyCells_at (tr (j / 32)) (j % 32) (Nat.mod_lt _ (by omega))
    simpa [flat] using this)
  have e : o + j / 32 * 32 + j % 32 = o + j := by omega
  rwa [e] at h1

theorem flat_keys {w : World} {b n : Nat} {tr : Nat → Nat} (h : ∀ j, j < n * 32 → w.cell? ⟨b, j, none⟩ = some (flat tr j)) (i : Nat) (hi : i < n) : KeyAt w b (0 + i * 32) (tr i) := fun c v hv => by
  have hc : c < 32 := by
    have := (List.getElem?_eq_some_iff.1 hv).1
    simpa [keyCells_size] using this
  have h1 := h (i * 32 + c) (by omega)
  rw [flat_at tr i c hc] at h1
  have h2 := keyCells_at (tr i) c hc
  have h3 : (keyCells (tr i))[c]? = some v := by simpa using hv
  rw [h2] at h3
  rw [Nat.zero_add, h1, h3]

theorem Yba.info40' : (Yba.prog.info? 40).map (fun i => (i.zero, i.size, i.bytes)) = some (some (.agg #[.int .u8 0, .int .u8 0, .int .u8 0, .int .u8 0, .int .u8 0, .int .u8 0, .int .u8 0, .int .u8 0, .int .u8 0, .int .u8 0, .int .u8 0, .int .u8 0, .int .u8 0, .int .u8 0, .int .u8 0, .int .u8 0, .int .u8 0, .int .u8 0, .int .u8 0, .int .u8 0, .int .u8 0, .int .u8 0, .int .u8 0, .int .u8 0, .int .u8 0, .int .u8 0, .int .u8 0, .int .u8 0, .int .u8 0, .int .u8 0, .int .u8 0, .int .u8 0]), 32, 32) := by kernel_rfl

theorem slice_nil (a : Addr) (n c : Nat) (w : World) : (binOp .eql 32 (.slice (some a) n c) (.slice none 0 0)).run Yba.prog w = .ok (.bool false) w := by
  have h2 : ∀ d : Nat, (Op.equalIn (d + 1) 32 (.slice (some a) n c) (.slice none 0 0)).run Yba.prog w = .ok false w := fun d => by
    simp [Op.equalIn, run_underlying Yba.underlying32]
  simp only [binOp]
  simp [Op.equal, Op.maxDepth, h2 9999]

theorem owns_empty (w : World) : (w.alloc (.cells #[] 40)).ownsRow w.heap.size 40 32 (.slice (some ⟨w.heap.size, 0, none⟩) 0 0) 0 [] :=
  ⟨rfl, .inr ⟨w.heap.size, 0, #[], rfl, Nat.le_refl _, heap_alloc_last _ _, Nat.le_refl _, Nat.zero_le _, rfl, rfl⟩⟩

set_option maxRecDepth 100000 in
set_option maxHeartbeats 1600000 in
theorem clone_any (tb n c : Nat) (tr : Nat → Nat) (w : World) (hn : n ≤ 1048576) (hk : ∀ i, i < n → KeyAt w tb (0 + i * 32) (tr i)) :
    Calls Yba.prog 6 #[.slice (some ⟨tb, 0, none⟩) n c] w fun e w' => w.grownBy w' none ∧ ∃ ca cc cb, e = .returned (.slice ca n cc) ∧ (0 < n → ca = some ⟨cb, 0, none⟩) ∧ ∀ i, i < n → KeyAt w' cb (0 + i * 32) (tr i) := by
  obtain ⟨i0, hi, hz0, hz1, hz2⟩ := info_parts Yba.info40'
  have hsrc : Hid (∀ j u, ((List.range (n * 32)).map (flat tr))[j]? = some u → (w.alloc (.cells #[] 40)).cell? ((⟨tb, 0, none⟩ : Addr).add j) = some u) := fun j u hj => by
    have hlt : j < n * 32 := by
      have := (List.getElem?_eq_some_iff.1 hj).1
      simpa using this
    rw [List.getElem?_map, List.getElem?_range hlt] at hj
    simp at hj
    subst hj
    have h1 := keys_flat hk j hlt
    rw [Addr.add_mid, World.cell?_alloc_lt _ _ _ (World.block_lt_of_cell? w _ h1)]
    exact h1
  have hone : Hid (∀ u ∈ (List.range (n * 32)).map (flat tr), u.oneCell' = true) := fun u hu => by
    simp at hu
    obtain ⟨k, _, rfl⟩ := hu
    exact flat_one tr k
  have hb1 : Hid (0 + n ≤ maxLen) := by show 0 + n ≤ maxLen; unfold maxLen; omega
  have hb2 : Hid ((0 + n) * 32 ≤ 140737488355328) := by show (0 + n) * 32 ≤ _; omega
  have hsn := slice_nil ⟨tb, 0, none⟩ n c
  clear hk
  go_enter Yba.func6, Yba.ntmps6
  go_wp2_with (at_builtin; refine wpList_append_own_at _ rfl _ _ 32 rfl w.heap.size 40 i0 _ 32 32 Yba.underlying32 hi hz0 hz1 hz2 rfl (by decide) _ _ _ rfl (owns_empty w) ⟨tb, 0, none⟩ n c ((List.range (n * 32)).map (flat tr)) rfl (by simp) hsrc.out hone.out hb1.out hb2.out (by simp) ?_; intro v' w1 hown' hgrow hnil hloc)
  go_ret
  have hg : w.grownBy w1 none := ⟨hgrow.os, hgrow.tape, hgrow.output, Nat.le_trans (by simp) hgrow.size, fun k hk _ => by
    rw [hgrow.block k (by simp; omega) (by simp [Value.ownBlock, Act.eval]; omega)]
    exact Below.heap_alloc w _ k hk⟩
  refine ⟨hg, ?_⟩
  rw [Nat.zero_add, List.nil_append] at hown'
  rcases hown'.2 with ⟨e, hn0⟩ | ⟨g, cap, cur, e, _⟩
  · subst hn0
    exact ⟨none, 0, 0, by rw [← e]; rfl, fun h => absurd h (by omega), fun i h => absurd h (by omega)⟩
  · have ho := hown'
    rw [e] at ho
    refine ⟨_, cap, g, by rw [← e]; rfl, fun _ => rfl, flat_keys (fun j hj => ?_)⟩
    rw [ho.cellAt j hj, List.getElem?_map, List.getElem?_range hj]
    rfl
end Go.Proofs.Ybulkdhki
