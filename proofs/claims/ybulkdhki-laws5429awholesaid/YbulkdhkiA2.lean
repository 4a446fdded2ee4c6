/-
  holdfast.LawS5429AWhole: a region walked operation by operation; zzs5429akey (5).
-/
import Derived.Test.YbulkdhkiA1
import Derived.Test.YbulkdhkiB1
import Derived.Deep.LoopGhost
import Derived.Deep.CutBlock
import Derived.Deep.CutRange
import Derived.Deep.Light
import Derived.Deep.QuietTactic
import Derived.BigQuiet
import Derived.RegionTactic
import Derived.Deep.RegionWith
namespace Go.Proofs.Ybulkdhki
open Go.RowKit

/-! ### a region's operations one by one -/
def OpsW (P : Program) (ops : Array Oper) (Q : Exit → Act → World → Prop) (l : List Nat) (a : Act) (w : World) : Prop :=
  ∀ (b : Frame) (k : List Item) (cs : List Frame), ∃ e a' w', Q e a' w' ∧ Arrives P (lone (b.at a (.inRegion ops l :: k)) cs w) b k cs e a' w'
section
variable {P : Program} {ops : Array Oper} {Q : Exit → Act → World → Prop} {i : Nat} {rest l : List Nat} {a : Act} {w w' : World} {o : Oper} {v : Value}
theorem OpsW.of_wp (h : wpOps P ops Q l a w) : OpsW P ops Q l a w := fun b k cs => wp_ops l a w h b k cs
theorem OpsW.nil (h : Q .normal a w) : OpsW P ops Q [] a w := OpsW.of_wp h
theorem finish_ops (b : Frame) (k : List Item) (ho : ops[i]? = some o) (v : Value) :
    (b.at a (.inRegion ops (i :: rest) :: k)).finish v = b.at (a.put o.dst v) (.inRegion ops rest :: k) := by
  rw [Frame.finish_at, ho]; rfl
theorem OpsW.value (ho : ops[i]? = some o) (hw : Region.wanted o (yielded ops a.tmps) = true) (hr : (execOp a.eval o).run P w = .ok (.value v) w')
    (h : OpsW P ops Q rest (a.put o.dst v) w') : OpsW P ops Q (i :: rest) a w := by
  intro b k cs
  obtain ⟨e, a', w'', hq, harr⟩ := h b k cs
  refine ⟨e, a', w'', hq, .of_steps (.one (step_lone_go ?_)) harr⟩
  rw [stepG_op ho hw, ← finish_ops b k ho v]
  simp [stepG.apply, hr]
theorem OpsW.skip (ho : ops[i]? = some o) (hw : Region.wanted o (yielded ops a.tmps) = true) (hr : (execOp a.eval o).run P w = .ok .skip w')
    (h : OpsW P ops Q rest (a.put o.dst undef) w') : OpsW P ops Q (i :: rest) a w := by
  intro b k cs
  obtain ⟨e, a', w'', hq, harr⟩ := h b k cs
  refine ⟨e, a', w'', hq, .of_steps (.one (step_lone_go ?_)) harr⟩
  rw [stepG_op ho hw, ← finish_ops b k ho undef]
  simp [stepG.apply, hr]
theorem wp_region_ops {id : Nat} (h : OpsW P ops Q (List.range ops.size) a w) : (Code.region id ops false).wp P Q a w :=
  fun b k cs => let ⟨e, a', w', q, r⟩ := h b k cs; ⟨e, a', w', q, .of_steps (.one step_region) r⟩
end

theorem xor255 : ((List.range 256).all fun j => decide (bits .xor .u8 IntKind.u8.max (j : Int) = 255 - (j : Int))) = true := by kernel_rfl
theorem bits_xor (j : Nat) (hj : j < 256) : bits .xor .u8 (if IntKind.u8.signed = true then -1 else IntKind.u8.max) (j : Int) = 255 - (j : Int) := by
  have h := List.all_eq_true.1 xor255 j (by simpa using hj)
  have h2 : bits .xor .u8 IntKind.u8.max (j : Int) = 255 - (j : Int) := of_decide_eq_true h
  exact h2

theorem wp_gen {P : Program} {c : Code} {Q : Exit → Act → World → Prop} {a : Act} {w : World} (h : ∀ W, W = w → c.wp P Q a W) : c.wp P Q a w := h w rfl

theorem two (w : World) (o0 o1 : Obj) : (∀ j, j < w.heap.size → ((w.alloc o0).alloc o1).heap[j]? = w.heap[j]?) ∧ ((w.alloc o0).alloc o1).heap[w.heap.size]? = some o0 ∧ ((w.alloc o0).alloc o1).heap[w.heap.size + 1]? = some o1 := by
  have s1 : (w.alloc o0).heap.size = w.heap.size + 1 := by simp
  refine ⟨fun j hj => ?_, ?_, ?_⟩
  · rw [Below.heap_alloc _ _ j (by omega), Below.heap_alloc _ _ j hj]
  · rw [Below.heap_alloc _ _ _ (by omega)]; exact heap_alloc_last _ _
  · rw [← s1]; exact heap_alloc_last _ _

theorem below_setCells {B : Nat} {a : World} (b : Nat) (hb : B ≤ b) : ∀ (vs : List Value) (o : Nat) (w : World), Below B a w → Below B a (w.setCells b o vs)
  | [], _, _, h => h
  | v :: r, o, _, h => below_setCells b hb r (o + 1) _ (h.setCell (p := ⟨b, o, none⟩) hb v)

theorem grown_of_below {w w' : World} (h : Below w.heap.size w w') : w.grownBy w' none := ⟨h.os, h.tape, h.output, h.size, fun k hk _ => h.block k hk⟩
theorem below_of_grown {w w' : World} (h : w.grownBy w' none) : Below w.heap.size w w' := ⟨h.os, h.tape, h.output, h.size, fun k hk => h.block k hk (by simp)⟩

theorem there_block {w : World} {b : Nat} {c : Array Value} {t : TypeId} (h : w.heap[b]? = some (.cells c t (0, 0))) (o n : Nat) (hn : o + n ≤ c.size) : w.there b o n := fun j hj => by
  rw [cell_of_row w b (o + j) c t _ h]
  refine ⟨by simp; omega, by simp [World.frozen?, h]⟩

set_option maxRecDepth 100000 in
set_option maxHeartbeats 1600000 in
theorem key_any (j : Nat) (hj : j < 256) (w : World) :
    Calls Yba.prog 5 #[.int .u8 j] w fun e w' => e = .returned (keyVal j) ∧ w.grownBy w' none := by
  have hx := bits_xor j hj
  go_enter Yba.func5, Yba.ntmps5
  go_upto_region 4 with fail
  refine wp_gen fun W hW => ?_
  have hb : Below w.heap.size w W := by rw [hW]; exact ((Below.refl _ w).alloc (Nat.le_refl _) _).alloc (by simp) _
  have h1 : W.heap[w.heap.size + 1]? = some (.cells (keyCells j) 40 (0, 0)) := by rw [hW]; exact (two w _ _).2.2
  have h0 : ∃ c, W.heap[w.heap.size]? = some (.cells c 40 (0, 0)) ∧ c.size = 32 := by rw [hW]; exact ⟨_, (two w _ _).2.1, rfl⟩
  clear hW
  obtain ⟨c, h0, hc⟩ := h0
  have l1 := (keyAt_block h1).load
  have th := there_block h0 0 32 (by omega)
  have l2 := store_mid W w.heap.size 0 j th
  have l3 : KeyAt (W.setCells w.heap.size 0 (keyCells j).toList) w.heap.size 0 j := World.rangeAt_setCells_same W _ _ _ th
  have l4 : (loadVar 40 ⟨w.heap.size, 0, none⟩).run Yba.prog (W.setCells w.heap.size 0 (keyCells j).toList) = .ok (keyVal j) (W.setCells w.heap.size 0 (keyCells j).toList) := by
    simpa [Instr.loadAt, Instr.sureAddr] using l3.load
  have hb2 := below_setCells w.heap.size (Nat.le_refl _) (keyCells j).toList 0 W hb
  generalize W.setCells w.heap.size 0 (keyCells j).toList = W2 at l2 l3 l4 hb2
  refine wp_region_ops ?_
  show OpsW _ _ _ [0, 1] _ _
  refine OpsW.value (v := keyVal j) (w' := W) rfl rfl (by simp [execOp, Act.eval, l1]) ?_
  refine OpsW.skip (w' := W2) rfl rfl (by simp [execOp, Act.eval, Act.put, l2]) ?_
  refine OpsW.nil ?_
  clear l1 l2 l3
  go_wp2
  refine ⟨rfl, keyVal j, ?_, rfl, grown_of_below hb2⟩
  simp [results, Yba.results5, Act.put, asAddr, l4]
end Go.Proofs.Ybulkdhki
