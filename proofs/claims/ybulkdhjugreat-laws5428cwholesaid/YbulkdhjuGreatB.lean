/-
  gtypeOf (4) and the law (3).
-/
import Derived.Test.YbulkdhjuGreatA
import Derived.Deep.RegionHeld
namespace Go.Proofs.YbulkdhjuGreat
open Go.RowKit

set_option maxHeartbeats 1600000 in
set_option maxRecDepth 100000 in
theorem gtype_any (lb : Nat) (nm pre t c y e3 e4 e5 e6 e7 e8 e9 gt ts : ByteArray) (w : World) (hl : w.cell? ⟨lb, 6, none⟩ = some (.string pre)) (hp : pre.size ≤ 1048576) :
    Calls Ybaz.prog 4 #[.pointer (some ⟨lb, 0, none⟩), .string nm, .agg #[.string t, .string c, .string y, .string e3, .string e4, .string e5, .string e6, .string e7, .string e8, .string e9], .string gt, .string ts] w
      fun e w' => e = .returned (.agg #[.string nm, .string t, .string (strp y (pre ++ { data := #[95] })), .string t, .string gt, .string ts]) ∧ Below w.heap.size w w' := by
  have hlb : lb < w.heap.size := block_lt_of_cell hl
  have hpz : pre.size + 1 ≤ 9223372036854775807 := by omega
  go_enter Ybaz.func4, Ybaz.ntmps4
  go_wp2_with fail
  have g1 : ∀ o p, ((w.alloc o).alloc p).cell? ⟨lb, 6, none⟩ = some (.string pre) := fun o p => by
    rw [World.cell?_alloc_lt _ _ _ (by show lb < _; simp; omega), World.cell?_alloc_lt _ _ _ (by exact hlb)]; exact hl
  go_region_held (fun w' => w'.cell? ⟨w.heap.size, 0, none⟩ = some (.string t) ∧ w'.cell? ⟨w.heap.size, 2, none⟩ = some (.string y) ∧ w'.cell? ⟨lb, 6, none⟩ = some (.string pre)) (go_keep) ((go_at_call 6; refine (trim_any _ _ _).mono ?_; rintro e w' ⟨rfl, rfl⟩))
  all_goals
    go_wp2
    exact bodyPost_ret (v := .agg #[.string nm, .string t, .string (strp y (pre ++ { data := #[95] })), .string t, .string gt, .string ts]) (by simp [results, Ybaz.results4, go_sem]) rfl ⟨rfl, (((Below.refl _ _).alloc (Nat.le_refl _) _).alloc (by simp) _).drew⟩

theorem neq_same (x0 x1 x2 x3 x4 x5 : ByteArray) (w : World) : (binOp .neq 38 (.agg #[.string x0, .string x1, .string x2, .string x3, .string x4, .string x5]) (.agg #[.string x0, .string x1, .string x2, .string x3, .string x4, .string x5])).run Ybaz.prog w = .ok (.bool false) w := by
  have hS : Ybaz.prog.underlying 38 = some (.struct (Ybaz.prog.fieldsOf 38)) := by kernel_rfl
  have hp : Ybaz.prog.stoodInHeld 38 = false := by kernel_rfl
  have he : (Op.equalIn (9999 + 1) 38 (.agg #[.string x0, .string x1, .string x2, .string x3, .string x4, .string x5]) (.agg #[.string x0, .string x1, .string x2, .string x3, .string x4, .string x5])).run Ybaz.prog w = .ok true w := by
    rw [run_equalIn_struct w 9999 38 _ _ hS hp]
    simp only [Program.fieldsOf, Ybaz.underlying38]
    have u9 := Ybaz.underlying9
    go_simp
  simp only [binOp]
  simp [Op.equal, Op.maxDepth, he]

set_option maxHeartbeats 1600000 in
set_option maxRecDepth 100000 in
theorem law_any (a0 a1 a2 a3 a4 a5 a6 a7 : ByteArray) (w : World) (h : a0.size + a1.size + a2.size + a3.size + a4.size + a5.size + a6.size + a7.size ≤ 1048576) :
    Calls Ybaz.prog 3 #[.string a0, .string a1, .string a2, .string a3, .string a4, .string a5, .string a6, .string a7] w fun e w' => e = .returned (.bool true) ∧ Below w.heap.size w w' := by
  have nq := neq_same
  go_enter Ybaz.func3, Ybaz.ntmps3
  go_wp2_with fail
  refine (gtype_any _ _ a1 _ _ _ _ _ _ _ _ _ _ _ _ _ (by simp) (by omega)).mono ?_
  rintro e w1 ⟨rfl, bel1⟩
  have c0 := bel1.cell (p := ⟨w.heap.size, 6, none⟩) (by simp; omega)
  have c1 := bel1.cell (p := ⟨w.heap.size, 3, none⟩) (by simp; omega)
  have c2 := bel1.cell (p := ⟨w.heap.size + 1, 2, none⟩) (by simp)
  have c3 := bel1.cell (p := ⟨w.heap.size + 1, 0, none⟩) (by simp)
  simp only [go_sem] at c0 c1 c2 c3
  have d0 : w1.cell? ⟨w.heap.size, 6, none⟩ = some (.string a1) := c0.trans rfl
  have d1 : w1.cell? ⟨w.heap.size, 3, none⟩ = some (.string a0) := c1.trans rfl
  have d2 : w1.cell? ⟨w.heap.size + 1, 2, none⟩ = some (.string a3) := c2.trans rfl
  have d3 : w1.cell? ⟨w.heap.size + 1, 0, none⟩ = some (.string a2) := c3.trans rfl
  have hz : w.heap.size + 1 < w1.heap.size := by have := bel1.size; simp at this; omega
  have B1 := hide (((Below.refl w.heap.size w).alloc (Nat.le_refl _) _).alloc (by simp) _ |>.trans (bel1.mono (by simp; omega)))
  have al : ∀ (o p : Obj) (q b k : Nat) (v : Value), w1.cell? ⟨b, k, none⟩ = some v → (((w1.alloc o).drewN q).alloc p).cell? ⟨b, k, none⟩ = some v := fun o p q b k v hv => by
    have h1 : b < w1.heap.size := block_lt_of_cell hv
    rw [World.cell?_alloc_lt _ _ _ (by show b < (w1.alloc o).heap.size; simp; omega)]
    show (w1.alloc o).cell? _ = _
    rw [World.cell?_alloc_lt _ _ _ (by exact h1)]
    exact hv
  have f0 := fun o p q => al o p q _ _ _ d0
  have f1 := fun o p q => al o p q _ _ _ d1
  have f2 := fun o p q => al o p q _ _ _ d2
  have f3 := fun o p q => al o p q _ _ _ d3
  clear c0 c1 c2 c3 bel1 d0 d1 d2 d3 al
  go_wp2_with fail
  refine (strip_any _ _ _ (by omega)).mono ?_
  rintro e w2 ⟨rfl, q, rfl⟩
  go_wp2
  go_ret
  exact ⟨rfl, (below_drewN (B1.out.alloc (by omega) _) _).alloc (by show w.heap.size ≤ (w1.alloc _).heap.size; simp; omega) _⟩
end Go.Proofs.YbulkdhjuGreat
