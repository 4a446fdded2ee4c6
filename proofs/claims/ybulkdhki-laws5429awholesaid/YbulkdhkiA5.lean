/-
  holdfast.LawS5429AWhole (3): lemmas: what the call builds.
-/
import Derived.Test.YbulkdhkiA4
import Derived.Test.YbulkdhkiB4
import Derived.Deep.RegionHeld
import Derived.Carry
namespace Go.Proofs.Ybulkdhki
open Go.RowKit

/-! ### the Validator -/
theorem fold_size (off : Nat) : ∀ (l : List (Value × Nat)) (cs : Array Value), (l.foldl (fun cs p => cs.setIfInBounds (off + p.2) p.1) cs).size = cs.size
  | [], _ => rfl
  | p :: l, cs => by rw [List.foldl_cons, fold_size off l]; simp
theorem fold_other (off i : Nat) : ∀ (l : List (Value × Nat)) (cs : Array Value), (∀ p ∈ l, off + p.2 ≠ i) → (l.foldl (fun cs p => cs.setIfInBounds (off + p.2) p.1) cs)[i]? = cs[i]?
  | [], _, _ => rfl
  | p :: l, cs, h => by
    rw [List.foldl_cons, fold_other off i l _ (fun q hq => h q (by simp [hq]))]
    exact Array.getElem?_setIfInBounds_ne (h p (by simp))

def places59 : Array (Nat × Nat) := #[(0, 1), (1, 32), (33, 1), (34, 1), (35, 1), (36, 69), (105, 3), (108, 1), (109, 1), (110, 1), (111, 1), (112, 1), (113, 1), (114, 8707), (8821, 1), (8822, 1), (8823, 1), (8824, 1), (8825, 1), (8826, 1)]

theorem zero_agg {t : TypeId} {n : Nat} (h : (Yba.prog.info? t).map (fun i => match i.zero with | some (.agg z) => z.size + 1 | _ => 0) = some (n + 1)) : ∃ Z : Array Value, Z.size = n ∧ ∀ w, (zeroValue t).run Yba.prog w = .ok (.agg Z) w := by
  obtain ⟨i, hi, hz⟩ := Option.map_eq_some_iff.1 h
  cases hq : i.zero with
  | none => rw [hq] at hz; cases hz
  | some v =>
    rw [hq] at hz
    cases v with
    | agg z => exact ⟨z, by simpa using hz, fun w => by simp [zeroValue, typeInfo, hi, hq]⟩
    | _ => cases hz
theorem zero59 : ∃ Z : Array Value, Z.size = 8827 ∧ ∀ w, (zeroValue 59).run Yba.prog w = .ok (.agg Z) w := zero_agg (by kernel_rfl)
theorem zero38 : ∃ Z : Array Value, Z.size = 69 ∧ ∀ w, (zeroValue 38).run Yba.prog w = .ok (.agg Z) w := zero_agg (by kernel_rfl)
theorem zero71 : ∃ Z : Array Value, Z.size = 131 ∧ ∀ w, (zeroValue 71).run Yba.prog w = .ok (.agg Z) w := zero_agg (by kernel_rfl)

set_option maxRecDepth 100000 in
theorem build38 (sq : Int) : ∃ L : Array Value, L.size = 69 ∧ L[0]? = some (.int .u32 sq) ∧ ∀ w, (Instr.build 38 #[(0, .int .u32 sq)]).run Yba.prog w = .ok (.agg L) w := by
  obtain ⟨Z, hs, hZ⟩ := zero38
  have hne : Z ≠ #[] := fun e => by subst e; simp at hs
  refine ⟨Z.setIfInBounds 0 (.int .u32 sq), by simp [hs], by simp [hs], fun w => ?_⟩
  simp [go_sem, hZ, hne]

set_option maxRecDepth 100000 in
theorem build71 (s : Int) : ∃ L : Array Value, ∀ w, (Instr.build 71 #[(0, .int .u32 s)]).run Yba.prog w = .ok (.agg L) w := by
  obtain ⟨Z, hs, hZ⟩ := zero71
  have hne : Z ≠ #[] := fun e => by subst e; simp at hs
  refine ⟨Z.setIfInBounds 0 (.int .u32 s), fun w => ?_⟩
  simp [go_sem, hZ, hne]

set_option maxRecDepth 100000 in
theorem build59 (b1 b2 b3 : Nat) (L : Array Value) (sq : Int) (hL : L.size = 69) (hL0 : L[0]? = some (.int .u32 sq)) : ∃ C : Array Value, C[34]? = some (.map (some b1)) ∧ C[35]? = some (.map (some b2)) ∧ C[36]? = some (.int .u32 sq) ∧ C[111]? = some (.map (some b3)) ∧
    ∀ w, (Instr.build 59 #[(3, .map (some b1)), (4, .map (some b2)), (10, .map (some b3)), (5, .agg L)]).run Yba.prog w = .ok (.agg C) w := by
  obtain ⟨Z, hs, hZ⟩ := zero59
  refine ⟨L.toList.zipIdx.foldl (fun cs p => cs.setIfInBounds (36 + p.2) p.1) (((Z.setIfInBounds 34 (.map (some b1))).setIfInBounds 35 (.map (some b2))).setIfInBounds 111 (.map (some b3))), ?_, ?_, ?_, ?_, fun w => ?_⟩
  · rw [fold_other _ _ _ _ (fun p _ => by omega)]; simp [hs]
  · rw [fold_other _ _ _ _ (fun p _ => by omega)]; simp [hs]
  · cases hl : L.toList with
    | nil =>
      have : L.toList.length = 69 := by simpa using hL
      rw [hl] at this; simp at this
    | cons x r =>
      have hx : x = .int .u32 sq := by
        have h1 : L.toList[0]? = some (.int .u32 sq) := by simpa using hL0
        rw [hl] at h1; simpa using h1
      rw [List.zipIdx_cons, List.foldl_cons, fold_other _ _ _ _ (fun p hp => by
        have := List.le_snd_of_mem_zipIdx hp
        omega)]
      simp [hs, hx]
  · rw [fold_other _ _ _ _ (fun p hp => by
      have h1 := List.snd_lt_of_mem_zipIdx hp
      have h2 : L.toList.length = 69 := by simpa using hL
      omega)]
    simp [hs]
  · simp [go_sem, hZ, hs, hL]
    have e : (69 : Nat) = L.zipIdx.size := by simp [hL]
    rw [e, ← Array.foldl_toList]
    simp

/-! ### the arrays of 256, the slice of keys -/
theorem zero61 : ∃ Z : Array Value, (∀ i, i < 256 → Z[i]? = some (.bool false)) ∧ Z.size = 256 ∧ ∀ w, (zeroValue 61).run Yba.prog w = .ok (.agg Z) w :=
  ⟨Array.replicate 256 (.bool false), fun i hi => by simp [hi], by simp, fun w => zero_run (by kernel_rfl) w⟩
theorem zero62 : ∃ Z : Array Value, (∀ i, i < 256 → Z[i]? = some (.int .u32 0)) ∧ Z.size = 256 ∧ ∀ w, (zeroValue 62).run Yba.prog w = .ok (.agg Z) w :=
  ⟨Array.replicate 256 (.int .u32 0), fun i hi => by simp [hi], by simp, fun w => zero_run (by kernel_rfl) w⟩
theorem zero66 : ∃ Z : Array Value, (∀ i, i < 256 → Z[i]? = some (.pointer none)) ∧ Z.size = 256 ∧ ∀ w, (zeroValue 66).run Yba.prog w = .ok (.agg Z) w :=
  ⟨Array.replicate 256 (.pointer none), fun i hi => by simp [hi], by simp, fun w => zero_run (by kernel_rfl) w⟩

theorem make32 (n : Nat) (hn : n ≤ 1048576) : ∃ Z : Array Value, Z.size = n * 32 ∧ ∀ w, (Instr.makeSlice 32 (.int .i64 (n : Int)) (.int .i64 (n : Int))).run Yba.prog w = .ok (.slice (some ⟨w.heap.size, 0, none⟩) n n) (w.alloc (.cells Z 40)) := by
  obtain ⟨i, hi, hz, hs, hb⟩ := info_parts Yba.info40'
  obtain ⟨z, hz⟩ : ∃ z, i.zero = some z := ⟨_, hz⟩
  refine ⟨madeCells z.cells (n * 32), by simp [madeCells], fun w => ?_⟩
  have hr := run_make (P := Yba.prog) w 32 40 i _ Yba.underlying32 hi hz .i64 .i64 n n (by omega) (Int.le_refl _) (by rw [hb]; omega) (by omega)
  simp only [Int.toNat_natCast, hs] at hr
  exact hr

/-- 256 cells of block b, each as g says. -/
def Arr (w : World) (b : Nat) (g : Nat → Value) : Prop := (∀ j, j < 256 → w.cell? ⟨b, j, none⟩ = some (g j)) ∧ ∀ j, w.frozen? ⟨b, j, none⟩ = false
theorem arr_new (w : World) (Z : Array Value) (t : TypeId) (v : Value) (h : ∀ i, i < 256 → Z[i]? = some v) : Arr (w.alloc (.cells Z t)) w.heap.size (fun _ => v) :=
  ⟨fun j hj => by rw [cell_new]; exact h j hj, fun j => frozen_new w Z t j⟩
theorem Arr.lt {w : World} {b : Nat} {g : Nat → Value} (h : Arr w b g) : b < w.heap.size := World.block_lt_of_cell? _ _ (h.1 0 (by omega))
theorem Arr.fr {S : Nat → Prop} {w w' : World} {b : Nat} {g : Nat → Value} (h : Arr w b g) (hf : Fr S w w') (hs : ¬ S b) : Arr w' b g :=
  ⟨fun j hj => hf.cell (h.1 j hj) hs, fun j => by rw [World.frozen?_of_block (w := w) (hf.block b h.lt hs)]; exact h.2 j⟩
theorem Arr.set {w : World} {b : Nat} {g : Nat → Value} (h : Arr w b g) (j : Nat) (hj : j < 256) (v : Value) : Arr (w.setCell ⟨b, j, none⟩ v) b (upd g j v) :=
  ⟨fun i hi => by
    by_cases e : i = j
    · subst e; rw [upd_same]; exact World.cell?_setCell_same w _ _ (h.1 i hi)
    · rw [upd_other _ _ e, World.cell?_setCell_other _ ⟨b, j, none⟩ ⟨b, i, none⟩ _ (fun c => e (by simpa using c.symm))]; exact h.1 i hi,
   fun i => by simp [h.2 i]⟩
theorem MapF.fr {S : Nat → Prop} {w w' : World} {b n : Nat} {f : Nat → Option Value} (h : MapF w b n f) (hf : Fr S w w') (hs : ¬ S b) : MapF w' b n f := by
  have hlt := h.lt
  obtain ⟨D, ⟨es, clock, hb, h2⟩, h3⟩ := h
  exact ⟨D, ⟨es, clock, (hf.block b hlt hs).trans hb, h2⟩, h3⟩
theorem Fr.setCell {S : Nat → Prop} {a w : World} (h : Fr S a w) (p : Addr) (u : Value) (hp : S p.block) : Fr S a (w.setCell p u) := by
  have hb := Below.setCell (Below.refl 0 w) (p := p) (Nat.zero_le _) u
  exact h.trans ⟨hb.os, hb.tape, hb.output, hb.size, fun k _ hs => Below.heap_setCell w p u k (fun e => hs (e ▸ hp))⟩

theorem neq_ptr (q : Option Addr) (w : World) : (binOp .neq 65 (.pointer q) (.pointer q)).run Yba.prog w = .ok (.bool false) w := by
  have h0 : (Yba.prog.info? 71).map (fun i => decide (i.size = 131)) = some true := by kernel_rfl
  obtain ⟨j, hj, _⟩ := Option.map_eq_some_iff.1 h0
  have h : ∀ d : Nat, (Op.equalIn (d + 1) 65 (.pointer q) (.pointer q)).run Yba.prog w = .ok true w := fun d => by
    cases q with
    | none => simp [Op.equalIn, run_underlying Yba.underlying65]
    | some a => simp [Op.equalIn, run_underlying Yba.underlying65, sizeOf, typeInfo, hj, run_sameAddr_same]
  simp only [binOp]
  simp [Op.equal, Op.maxDepth, h 9999]
end Go.Proofs.Ybulkdhki
