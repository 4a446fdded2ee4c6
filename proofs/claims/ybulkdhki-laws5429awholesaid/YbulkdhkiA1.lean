/-
  holdfast.LawS5429AWhole: ranging over such a map; loads and stores of whole keys.
-/
import Derived.Test.YbulkdhkiA0
import Derived.Deep.MidRow
import Derived.Deep.WholeRow
namespace Go.Proofs.Ybulkdhki
open Go.Maps (Keyed)

def RangeF (w : World) (b r n : Nat) (f : Nat → Option Value) (lf : Nat → Bool) (g : Nat) : Prop :=
  ∃ D left, w.ranges Yba.prog 40 R0 b r n D left g ∧ Rep D f ∧ (∀ j, j < 256 → left (kl j) = lf j) ∧ ∀ l, left l = true → ∃ j, j < 256 ∧ l = kl j

theorem same_kl {i j : Nat} (hi : i < 256) (hj : j < 256) : (kl i).sameKey (kl j) = decide (i = j) := by
  by_cases e : i = j
  · subst e; simp [WideAt.sameKey_self (kl_key hi)]
  · rw [Maps.sameKey_ne (fun c => e (kl_inj hi hj c))]; simp [e]

section
variable {w w' : World} {b r n g : Nat} {f : Nat → Option Value} {lf : Nat → Bool}
theorem RangeF.owns (h : RangeF w b r n f lf g) : MapF w b n f := let ⟨D, _, h1, h2, _⟩ := h; ⟨D, h1.owns, h2⟩
theorem RangeF.ne (h : RangeF w b r n f lf g) : r ≠ b := let ⟨_, _, h1, _⟩ := h; h1.ne
theorem RangeF.lt (h : RangeF w b r n f lf g) : r < w.heap.size := let ⟨_, _, h1, _⟩ := h; h1.lt
theorem RangeF.kept {row : Option Nat} (h : RangeF w b r n f lf g) (hg : w.grownBy w' row) (hb : some b ≠ row) (hr : some r ≠ row) : RangeF w' b r n f lf g :=
  let ⟨D, left, h1, h2, h3⟩ := h; ⟨D, left, h1.kept hg hb hr, h2, h3⟩
theorem MapF.range {t e : TypeId} (h : MapF w b n f) (ht : Yba.prog.underlying t = some (.map 40 e)) :
    ∃ w' g, (Instr.range t (.map (some b))).run Yba.prog w = .ok (.pointer (some ⟨w.heap.size, 0, none⟩)) w' ∧ RangeF w' b w.heap.size n f (fun j => (f j).isSome) g ∧ w.grownBy w' none ∧ w'.heap.size = w.heap.size + 1 ∧ g ≤ n := by
  obtain ⟨D, h1, h2⟩ := h
  obtain ⟨w', hr, h3, h4, h5⟩ := h1.range keyed40 ht
  exact ⟨w', _, hr, ⟨D, _, h3, h2, fun j hj => h2.has j hj, fun l hl => h2.all l hl⟩, h4, h5, h1.size_le⟩

theorem RangeF.next (h : RangeF w b r n f lf g) (ty : TypeId) :
    (g = 0 ∧ (∀ j, j < 256 → lf j = false) ∧ (Instr.next (.pointer (some ⟨r, 0, none⟩)) false ty).run Yba.prog w = .ok (.tuple #[.bool false]) w) ∨
    ∃ j v w' g', j < 256 ∧ lf j = true ∧ f j = some v ∧ (Instr.next (.pointer (some ⟨r, 0, none⟩)) false ty).run Yba.prog w = .ok (.tuple #[.bool true, keyVal j, v]) w' ∧
      RangeF w' b r n f (upd lf j false) g' ∧ g' < g ∧ w.grownBy w' (some r) ∧ w'.heap.size = w.heap.size ∧ (Instr.entry (.pointer (some ⟨r, 0, none⟩))).run Yba.prog w' = .ok (.tuple #[keyVal j, v]) w' := by
  obtain ⟨D, left, h1, h2, h3, h4⟩ := h
  rcases h1.next keyed40 ty with ⟨hg, hl, hr⟩ | ⟨key, v, l, y, w', g', hk, hl, hv, hat, hr, h5, hlt, hgr, hs, hen⟩
  · exact .inl ⟨hg, fun j hj => by rw [← h3 j hj]; exact hl _, hr⟩
  · obtain ⟨j, hj, rfl⟩ := h4 l hl
    obtain rfl := keyed40.inj hk (keyOf_kl hj)
    obtain rfl := R0_inv hv
    have hhas : Maps.has D (kl j) = true := Maps.has_true_of_atKey hat
    rw [h2.has j hj] at hhas
    obtain ⟨u, hu⟩ := Option.isSome_iff_exists.1 hhas
    have e := (hat (.held v)).symm.trans (h2.at_ j u hj hu (.held v))
    simp at e
    subst e
    refine .inr ⟨j, v, w', g', hj, by rw [← h3 j hj]; exact hl, hu, hr, ⟨D, _, h5, h2, fun i hi => ?_, fun l' hl' => ?_⟩, hlt, hgr, hs, hen⟩
    · simp only [h3 i hi, same_kl hi hj, upd]
      by_cases e : i = j <;> simp [e]
    · simp only [Bool.and_eq_true] at hl'
      exact h4 l' hl'.1

theorem RangeF.drop {t e : TypeId} (h : RangeF w b r n f lf g) (ht : Yba.prog.underlying t = some (.map 40 e)) {j : Nat} (hj : j < 256) (ty : TypeId) :
    ∃ w' g', (Builtin.delete_ #[t, 40] ty #[.map (some b), keyVal j]).run Yba.prog w = .ok (.tuple #[]) w' ∧ RangeF w' b r n (upd f j none) (upd lf j false) g' ∧ g' ≤ g ∧ w.grownBy w' (some b) ∧ w'.heap.size = w.heap.size := by
  obtain ⟨D, left, h1, h2, h3, h4⟩ := h
  have htd := h1.owns.tidy keyed40
  obtain ⟨w', g', hr, h5, hle, hmt⟩ := h1.drop keyed40 ht (keyOf_kl hj) ty
  refine ⟨w', g', hr, ⟨_, _, h5, h2.del htd hj, fun i hi => ?_, fun l hl => ?_⟩, hle, hmt.grown, ?_⟩
  · simp only [h3 i hi, same_kl hi hj, upd]
    by_cases e : i = j <;> simp [e]
  · simp only [Bool.and_eq_true] at hl
    exact h4 l hl.1
  · obtain ⟨es, c, es', c', _, rfl⟩ := hmt
    simp [Go.ChangeMaps.setBlock]
end

/-! ### whole keys in memory -/
theorem info40 : (Yba.prog.info? 40).map (·.size) = some 32 := by kernel_rfl
theorem keyCells_one (j : Nat) : (keyCells j).all (·.oneCell') = true := by simp [keyCells, Value.oneCell']

/-- The key of byte j lies in block b from offset o on. -/
def KeyAt (w : World) (b o j : Nat) : Prop := w.rangeAt b o (keyCells j).toList

theorem KeyAt.load {w : World} {b o j : Nat} (h : KeyAt w b o j) : (Instr.loadAt 40 (.pointer (some ⟨b, o, none⟩))).run Yba.prog w = .ok (keyVal j) w := by
  have := run_loadAt_mid (P := Yba.prog) w b o 40 (keyCells j).toList _ h Yba.underlying40 rfl info40
  simpa [keyVal] using this

theorem keyAt_block {w : World} {b j : Nat} {t : TypeId} (h : w.heap[b]? = some (.cells (keyCells j) t (0, 0))) : KeyAt w b 0 j := fun i v hv => by
  rw [cell_of_row w b (0 + i) _ t _ h]
  simpa using hv

theorem KeyAt.kept {w w' : World} {b o j : Nat} (h : KeyAt w b o j) (hb : w'.heap[b]? = w.heap[b]?) : KeyAt w' b o j := fun i v hv => by
  rw [World.cell?_of_block (w := w) hb]; exact h i v hv

theorem store_new (w : World) (c : Array Value) (hc : c.size = 32) (j : Nat) :
    (Instr.storeAt 40 (.pointer (some ⟨w.heap.size, 0, none⟩)) (keyVal j)).run Yba.prog (w.alloc (.cells c 40)) = .ok () (w.alloc (.cells (keyCells j) 40)) :=
  run_storeAt_new w 40 c (keyCells j) (by rw [keyCells_size]; exact info40) (by rw [hc, keyCells_size]) (keyCells_one j)

theorem store_mid (w : World) (b o j : Nat) (h : w.there b o 32) : (Instr.storeAt 40 (.pointer (some ⟨b, o, none⟩)) (keyVal j)).run Yba.prog w = .ok () (w.setCells b o (keyCells j).toList) :=
  run_storeAt_mid w b o 40 (keyCells j) (by rw [keyCells_size]; exact h) (by rw [keyCells_size]; exact info40) (keyCells_one j)
end Go.Proofs.Ybulkdhki
