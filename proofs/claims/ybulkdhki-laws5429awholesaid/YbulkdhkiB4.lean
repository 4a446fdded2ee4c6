/-
  The walk of holdfast.LawS5429BWhole (function 4).
-/
import Derived.Test.YbulkdhkiB3
import Derived.Deep.OwnRows
import Derived.Deep.LoopGhost
import Derived.Deep.CutRange
import Derived.Deep.CutBlock
namespace Go.Proofs.Ybulkdhki
open Go.RowKit

theorem Yba.info108 : (Yba.prog.info? 108).map (fun i => (i.zero, i.size, i.bytes)) = some (some (.agg #[.int .u64 0, .pointer none]), 2, 16) := by kernel_rfl
theorem Yba.info103 : (Yba.prog.info? 103).map (fun i => (i.zero, i.size, i.bytes)) = some (some (.pointer none), 1, 8) := by kernel_rfl

abbrev rowS (n : Nat) : Obj := .cells (madeCells #[.int .u64 0, .pointer none] (n * 2)) 108
abbrev rowP (n : Nat) : Obj := .cells (madeCells #[.pointer none] n) 103
abbrev rcd (B n : Nat) (nx : Int) : Obj := .cells #[.int .u32 nx, .int .u32 0, .slice (some ⟨B, 0, none⟩) n n, .pointer none, .pointer none] 97

/-- The law's own xor. -/
def xr (t : Int) : Int := bits BinOp.xor IntKind.u64 t 11400714819323198485

theorem make_slots (n : Nat) (hn : n ≤ 65536) (w : World) : (Instr.makeSlice 82 (.int .i64 (n : Int)) (.int .i64 (n : Int))).run Yba.prog w = .ok (.slice (some ⟨w.heap.size, 0, none⟩) n n) (w.alloc (rowS n)) := by
  obtain ⟨i, hi, hzz⟩ := Option.map_eq_some_iff.1 Yba.info108
  simp only [Prod.mk.injEq] at hzz
  obtain ⟨hz, hs, hb⟩ := hzz
  have hr := run_make (P := Yba.prog) w 82 108 i _ Yba.underlying82 hi hz .i64 .i64 n n (by omega) (Int.le_refl _) (by rw [hb]; omega) (by omega)
  simp only [Int.toNat_natCast, hs] at hr
  exact hr
theorem make_ptrs (n : Nat) (hn : n ≤ 65536) (w : World) : (Instr.makeSlice 99 (.int .i64 (n : Int)) (.int .i64 (n : Int))).run Yba.prog w = .ok (.slice (some ⟨w.heap.size, 0, none⟩) n n) (w.alloc (rowP n)) :=
  run_make_row' (P := Yba.prog) 99 103 (.pointer none) 8 Yba.underlying99 Yba.info103 rfl .i64 .i64 n (by omega) (by omega) w

theorem made_at (z : Array Value) (n i : Nat) (v : Value) (hi : i < n) (hv : z[i % z.size]! = v) : (madeCells z n)[i]? = some v := by
  simp [madeCells, hi, hv]

theorem cell_new (w : World) (c : Array Value) (t : TypeId) (i : Nat) : (w.alloc (.cells c t)).cell? ⟨w.heap.size, i, none⟩ = c[i]? := by
  unfold World.cell?; rw [Deep.blk_alloc_new]; simp
theorem frozen_new (w : World) (c : Array Value) (t : TypeId) (i : Nat) : (w.alloc (.cells c t)).frozen? ⟨w.heap.size, i, none⟩ = false := by
  unfold World.frozen?; rw [Deep.blk_alloc_new]; simp
theorem shape_new (w : World) (c : Array Value) (t : TypeId) : (w.alloc (.cells c t)).shape? w.heap.size = some (t, c.size) := by
  unfold World.shape?; rw [Deep.blk_alloc_new]

/-- What stands at the first loop's door. -/
theorem mem_start (w : World) (n : Nat) (nx nw ft : Int) (ts : Nat → Int) :
    Mem w.heap.size n nx nw none none ft (fun _ => none) (fun _ => none) (fun _ => 0) ts (((w.alloc (rowS n)).alloc (.cells #[.int .u32 nx, .int .u32 nw, .slice (some ⟨w.heap.size, 0, none⟩) n n, .pointer none, .pointer none] 97)).alloc (rowP n)) := by
  have z1 : (w.alloc (rowS n)).heap.size = w.heap.size + 1 := by simp
  have e1 : ∀ (i : Nat) (v : Value), (#[.int .u32 nx, .int .u32 nw, .slice (some ⟨w.heap.size, 0, none⟩) n n, .pointer none, .pointer none] : Array Value)[i]? = some v → (((w.alloc (rowS n)).alloc (.cells #[.int .u32 nx, .int .u32 nw, .slice (some ⟨w.heap.size, 0, none⟩) n n, .pointer none, .pointer none] 97)).alloc (rowP n)).cell? ⟨w.heap.size + 1, i, none⟩ = some v := fun i v h => by
    rw [World.cell?_alloc_lt _ _ _ (by show w.heap.size + 1 < _; simp), ← z1, cell_new]; exact h
  have e0 : ∀ (i : Nat) (v : Value), (madeCells #[.int .u64 0, .pointer none] (n * 2))[i]? = some v → (((w.alloc (rowS n)).alloc (.cells #[.int .u32 nx, .int .u32 nw, .slice (some ⟨w.heap.size, 0, none⟩) n n, .pointer none, .pointer none] 97)).alloc (rowP n)).cell? ⟨w.heap.size, i, none⟩ = some v := fun i v h => by
    rw [World.cell?_alloc_lt _ _ _ (by show w.heap.size < _; simp; omega), World.cell?_alloc_lt _ _ _ (by show w.heap.size < _; simp), cell_new]; exact h
  have e2 : ∀ (i : Nat) (v : Value), (madeCells #[.pointer none] n)[i]? = some v → (((w.alloc (rowS n)).alloc (.cells #[.int .u32 nx, .int .u32 nw, .slice (some ⟨w.heap.size, 0, none⟩) n n, .pointer none, .pointer none] 97)).alloc (rowP n)).cell? ⟨w.heap.size + 2, i, none⟩ = some v := fun i v h => by
    have z2 : ((w.alloc (rowS n)).alloc (.cells #[.int .u32 nx, .int .u32 nw, .slice (some ⟨w.heap.size, 0, none⟩) n n, .pointer none, .pointer none] 97)).heap.size = w.heap.size + 2 := by simp
    rw [← z2, cell_new]; exact h
  refine ⟨by simp, e1 _ _ rfl, e1 _ _ rfl, e1 _ _ rfl, e1 _ _ rfl, e1 _ _ rfl, fun i hi => e0 _ _ (made_at _ _ _ _ (by omega) (by simp)), fun i hi => e0 _ _ (made_at _ _ _ _ (by omega) (by simp [Nat.add_mod])), fun i hi => e2 _ _ (made_at _ _ _ _ hi (by simp [Nat.mod_one])), fun _ _ _ h => (nomatch h), fun _ _ _ h => (nomatch h), fun _ h => (nomatch h), fun _ h => (nomatch h), fun k o hk => ?_⟩
  have z2 : ((w.alloc (rowS n)).alloc (.cells #[.int .u32 nx, .int .u32 nw, .slice (some ⟨w.heap.size, 0, none⟩) n n, .pointer none, .pointer none] 97)).heap.size = w.heap.size + 2 := by simp
  obtain rfl | rfl | rfl : k = 0 ∨ k = 1 ∨ k = 2 := by omega
  · rw [World.frozen?_alloc_past _ _ _ (by simp; omega), World.frozen?_alloc_past _ _ _ (by simp), Nat.add_zero, frozen_new]
  · rw [World.frozen?_alloc_past _ _ _ (by simp), ← z1, frozen_new]
  · rw [← z2, frozen_new]

/-- The round's own stores: a new copy in ptrs and in the slot. -/
theorem Mem.put {B n k : Nat} {nx nw ft : Int} {fp form : Option Addr} {ps : Nat → Option Addr} {fs ts : Nat → Int} {w : World} (h : Mem B n nx nw fp form ft ps ps fs ts w) (hk : k < n) (hp : ps k = none) (arr : Array Value) (ha : arr.size = 66) (h65 : arr[65]? = some (.int .u64 (ts k))) :
    Mem B n nx nw fp form ft (fun i => if i = k then some ⟨w.heap.size, 0, none⟩ else ps i) (fun i => if i = k then some ⟨w.heap.size, 0, none⟩ else ps i) fs ts (((w.alloc (.cells arr 111)).setCell ⟨B + 2, k, none⟩ (.pointer (some ⟨w.heap.size, 0, none⟩))).setCell ⟨B, k * 2 + 1, none⟩ (.pointer (some ⟨w.heap.size, 0, none⟩))) := by
  have hz := h.size
  have h1 := h.agree ((Agree.refl w).alloc (.cells arr 111))
  have h2 := h1.setPtr k w.heap.size hz (by simp) (by rw [shape_new, ha]) (by rw [cell_new]; exact h65) hp ((Agree.refl _).setCell ⟨B + 2, k, none⟩ (.pointer (some ⟨w.heap.size, 0, none⟩))) (World.cell?_setCell_same _ _ _ (h1.ptrs k hk))
  exact h2.setSigned k (some ⟨w.heap.size, 0, none⟩) (fun a ha => by simpa using ha) ((Agree.refl _).setCell ⟨B, k * 2 + 1, none⟩ (.pointer (some ⟨w.heap.size, 0, none⟩))) (World.cell?_setCell_same _ _ _ (h2.signed k hk))

theorem fits_new {w : World} {arr : Array Value} {t : TypeId} {n : Nat} (ha : arr.size = n) (hn : 0 < n) : Fits (w.alloc (.cells arr t)) t n (some ⟨w.heap.size, 0, none⟩) := fun a e => ⟨w.heap.size, by simpa using e.symm, by rw [shape_new, ha], hn⟩
theorem Fits.setCell {w : World} {t n x} (h : Fits w t n x) (a : Addr) (v : Value) : Fits (w.setCell a v) t n x := fun b hb => by
  obtain ⟨c, e, hs, hn⟩ := h b hb
  exact ⟨c, e, by rw [shape_setCell]; exact hs, hn⟩

theorem zero_run {t : TypeId} {z : Value} (h : (Yba.prog.info? t).map (fun i => i.zero) = some (some z)) (w : World) : (zeroValue t).run Yba.prog w = .ok z w := by
  obtain ⟨i, hi, hz⟩ := Option.map_eq_some_iff.1 h
  simp [zeroValue, typeInfo, hi, hz]
theorem zero111 : ∃ Z : Array Value, Z.size = 66 ∧ ∀ w, (zeroValue 111).run Yba.prog w = .ok (.agg Z) w :=
  ⟨Array.replicate 64 (.int .u8 0) ++ #[.string ⟨#[]⟩, .int .u64 0], by simp, fun w => zero_run (by kernel_rfl) w⟩
theorem zero116 : ∃ Z : Array Value, Z.size = 34 ∧ ∀ w, (zeroValue 116).run Yba.prog w = .ok (.agg Z) w :=
  ⟨#[.slice none 0 0] ++ Array.replicate 32 (.int .u8 0) ++ #[.int .u64 0], by simp, fun w => zero_run (by kernel_rfl) w⟩

theorem fits_new' {w : World} {arr : Array Value} {t : TypeId} {n : Nat} (ha : arr.size = n) (hn : 0 < n) (a : Addr) (v : Value) : Fits ((w.setCell a v).alloc (.cells arr t)) t n (some ⟨w.heap.size, 0, none⟩) := fun b e => ⟨w.heap.size, by simpa using e.symm, by have := shape_new (w.setCell a v) arr t; rw [ha] at this; simpa using this, hn⟩

theorem Mem.put' {B n k : Nat} {nx nw ft : Int} {fp form : Option Addr} {ps : Nat → Option Addr} {fs ts : Nat → Int} {w : World} (h : Mem B n nx nw fp form ft ps ps fs ts w) (hk : k < n) (hp : ps k = none) (arr : Array Value) (ha : arr.size = 66) (h65 : arr[65]? = some (.int .u64 (ts k))) :
    Mem B n nx nw fp form ft (fun i => if i = k then some ⟨w.heap.size, 0, none⟩ else ps i) (fun i => if i = k then some ⟨w.heap.size, 0, none⟩ else ps i) fs ts (((w.setCell ⟨B + 1 + 1, k, none⟩ (.pointer (some ⟨w.heap.size, 0, none⟩))).alloc (.cells arr 111)).setCell ⟨B, k * 2 + 1, none⟩ (.pointer (some ⟨w.heap.size, 0, none⟩))) := by
  have h2 := h.put hk hp arr ha h65
  rw [World.setCell_alloc_past _ _ _ _ h.size] at h2
  exact h2
theorem upd_none {k x : Nat} {ps : Nat → Option Addr} (h : ∀ i, k ≤ i → ps i = none) (i : Nat) (hi : k + 1 ≤ i) : (fun i => if i = k then some (⟨x, 0, none⟩ : Addr) else ps i) i = none := by
  simp only [if_neg (show ¬ i = k by omega)]
  exact h i (by omega)

theorem upd_xr {k : Nat} {fs ts : Nat → Int} (h : ∀ i, i < k → fs i = xr (ts i)) (i : Nat) (hi : i < k + 1) : (fun i => if i = k then xr (ts k) else fs i) i = xr (ts i) := by
  by_cases e : i = k
  · subst e; simp
  · simp only [if_neg e]; exact h i (by omega)

theorem ptr_equal_same {P : Program} {tp te : TypeId} {j : TypeInfo} (a : Addr) (w : World) (hp : P.underlying tp = some (.pointer te)) (hte : P.info? te = some j) (d : Nat) :
    (Op.equalIn (d + 1) tp (.pointer (some a)) (.pointer (some a))).run P w = .ok true w := by
  simp [Op.equalIn, run_underlying hp, sizeOf, typeInfo, hte, run_sameAddr_same]
theorem ptr_equal_nil {P : Program} {tp te : TypeId} (w : World) (hp : P.underlying tp = some (.pointer te)) (d : Nat) :
    (Op.equalIn (d + 1) tp (.pointer none) (.pointer none)).run P w = .ok true w := by
  simp [Op.equalIn, run_underlying hp]
theorem neq_ptr_self {P : Program} {tp te : TypeId} (hp : P.underlying tp = some (.pointer te)) (hte : (P.info? te).map (fun i => decide (i.size ≠ 0)) = some true) (x : Option Addr) (w : World) :
    (binOp .neq tp (.pointer x) (.pointer x)).run P w = .ok (.bool false) w := by
  obtain ⟨j, hj, _⟩ := Option.map_eq_some_iff.1 hte
  cases x with
  | none =>
    simp only [binOp]
    simp [Op.equal, Op.maxDepth, ptr_equal_nil w hp 9999]
  | some a =>
    simp only [binOp]
    simp [Op.equal, Op.maxDepth, ptr_equal_same a w hp hj 9999]
theorem neqF (x : Option Addr) (w : World) : (binOp .neq 92 (.pointer x) (.pointer x)).run Yba.prog w = .ok (.bool false) w := neq_ptr_self Yba.underlying92 Yba.info116 x w
theorem neqS (x : Option Addr) (w : World) : (binOp .neq 103 (.pointer x) (.pointer x)).run Yba.prog w = .ok (.bool false) w := neq_ptr_self Yba.underlying103 Yba.info111 x w

/-- The form's own store. -/
theorem Mem.putForm {B n : Nat} {nx nw ft : Int} {ps : Nat → Option Addr} {fs ts : Nat → Int} {w : World} (h : Mem B n nx nw none none ft ps ps fs ts w) (arr : Array Value) (ha : arr.size = 34) (h33 : arr[33]? = some (.int .u64 ft)) :
    Mem B n nx nw (some ⟨w.heap.size, 0, none⟩) (some ⟨w.heap.size, 0, none⟩) ft ps ps fs ts ((w.alloc (.cells arr 116)).setCell ⟨B + 1, 4, none⟩ (.pointer (some ⟨w.heap.size, 0, none⟩))) := by
  have hz := h.size
  have h1 := h.agree ((Agree.refl w).alloc (.cells arr 116))
  have h2 := h1.newForm w.heap.size hz (by simp) (by rw [shape_new, ha]) (by rw [cell_new]; exact h33)
  exact h2.setForm (some ⟨w.heap.size, 0, none⟩) (fun a e => e) ((Agree.refl _).setCell ⟨B + 1, 4, none⟩ (.pointer (some ⟨w.heap.size, 0, none⟩))) (World.cell?_setCell_same _ _ _ h1.cform)
end Go.Proofs.Ybulkdhki
