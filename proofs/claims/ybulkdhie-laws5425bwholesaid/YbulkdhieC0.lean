/-
  A send into a buffer with room and a receive, in the kit's walk of one goroutine ('Code.wp' is said over the machine's own steps, so one step of the machine by Derived/Conc/LoneCalls is enough).
-/
import Derived.Conc.LoneCalls
import Derived.Recover
namespace Go.Proofs.Ybulkdhie.Lone
open Go Go.Conc

/-- The rest of a region, said over the machine's steps (as 'wp_ops' yields it). -/
def OpsW (P : Program) (ops : Array Oper) (Q : Exit → Act → World → Prop) (l : List Nat) (a : Act) (w : World) : Prop :=
  ∀ (b : Frame) (k : List Item) (cs : List Frame), ∃ e a' w', Q e a' w' ∧ Arrives P (lone (b.at a (.inRegion ops l :: k)) cs w) b k cs e a' w'

section
variable {P : Program} {ops : Array Oper} {Q : Exit → Act → World → Prop} {i : Nat} {rest l : List Nat} {a : Act} {w w' : World} {o : Oper} {v : Value}

theorem OpsW.of_wp (h : wpOps P ops Q l a w) : OpsW P ops Q l a w := fun b k cs => wp_ops l a w h b k cs

theorem finish_ops (b : Frame) (k : List Item) (ho : ops[i]? = some o) (v : Value) :
    (b.at a (.inRegion ops (i :: rest) :: k)).finish v = b.at (a.put o.dst v) (.inRegion ops rest :: k) := by
  rw [Frame.finish_at, ho]; rfl

theorem OpsW.value (ho : ops[i]? = some o) (hw : Region.wanted o (yielded ops a.tmps) = true) (hr : (execOp a.eval o).run P w = .ok (.value v) w')
    (h : OpsW P ops Q rest (a.put o.dst v) w') : OpsW P ops Q (i :: rest) a w := by
  intro b k cs
  obtain ⟨e, a', w'', hq, harr⟩ := h b k cs
  refine ⟨e, a', w'', hq, .of_steps (.one (step_lone_go ?_)) harr⟩
  rw [stepG_op ho hw, ← finish_ops b k ho v]
  simp [stepG.apply, hr]

theorem OpsW.skip (ho : ops[i]? = some o) (hw : Region.wanted o (yielded ops a.tmps) = true) (hr : (execOp a.eval o).run P w = .ok .skip w')
    (h : OpsW P ops Q rest (a.put o.dst undef) w') : OpsW P ops Q (i :: rest) a w := by
  intro b k cs
  obtain ⟨e, a', w'', hq, harr⟩ := h b k cs
  refine ⟨e, a', w'', hq, .of_steps (.one (step_lone_go ?_)) harr⟩
  rw [stepG_op ho hw, ← finish_ops b k ho undef]
  simp [stepG.apply, hr]

theorem comm_step {cases : Array CommCase} {blocking : Bool} {shape : CommShape} (ho : ops[i]? = some o) (hw : Region.wanted o (yielded ops a.tmps) = true)
    (hr : (execOp a.eval o).run P w = .ok (.comm cases blocking shape) w') (b : Frame) (k : List Item) (cs : List Frame) :
    ∃ es, stepG P true (G (b.at a (.inRegion ops (i :: rest) :: k)) cs) w = .comm (G (b.at a (.inRegion ops (i :: rest) :: k)) cs) cases blocking shape w' es := by
  by_cases hk : b.kind = .early
  · have h := stepG_op (P := P) (b := b) (k := k) (cs := cs) (w := w) (rest := rest) ho hw
    refine ⟨seen P b.fn #[], (show _ = _ from h).trans ?_⟩
    simp [stepG.apply, hr, GStep.after, G, hk, Frame.at]
  · exact ⟨_, stepG_comm ho hw hk hr⟩

theorem OpsW.send {c cap s r : Nat} {buf : Array Value} {z : Value} {tm : Bool} (ho : ops[i]? = some o) (hw : Region.wanted o (yielded ops a.tmps) = true)
    (hr : (execOp a.eval o).run P w = .ok (.comm #[scase c v z] true .send) w') (hc : w'.heap[c]? = some (.chan cap buf false s r tm)) (hroom : buf.size < cap)
    (h : OpsW P ops Q rest (a.put o.dst undef) (w'.setChan c cap (buf.push v) false (s + 1) r tm)) : OpsW P ops Q (i :: rest) a w := by
  intro b k cs
  obtain ⟨e, a', w'', hq, harr⟩ := h b k cs
  obtain ⟨es, hes⟩ := comm_step (P := P) (w := w) (rest := rest) ho hw hr b k cs
  have hst := step_lone_send_room hes hc hroom
  rw [finish_ops b k ho undef] at hst
  exact ⟨e, a', w'', hq, .of_steps (.one hst) harr⟩

theorem OpsW.recv {c cap s r : Nat} {buf : Array Value} {z : Value} {tm closed : Bool} (ok : Bool) (ho : ops[i]? = some o) (hw : Region.wanted o (yielded ops a.tmps) = true)
    (hr : (execOp a.eval o).run P w = .ok (.comm #[rcase c z] true (.recv ok)) w') (hc : w'.heap[c]? = some (.chan cap buf closed s r tm)) (hsome : 0 < buf.size)
    (h : OpsW P ops Q rest (a.put o.dst (got ok (buf.getD 0 undef) true)) (w'.setChan c cap (buf.extract 1 buf.size) closed s (r + 1) tm)) : OpsW P ops Q (i :: rest) a w := by
  intro b k cs
  obtain ⟨e, a', w'', hq, harr⟩ := h b k cs
  obtain ⟨es, hes⟩ := comm_step (P := P) (w := w) (rest := rest) ho hw hr b k cs
  have hst := step_lone_recv_buf ok hes hc hsome
  rw [finish_ops b k ho _] at hst
  exact ⟨e, a', w'', hq, .of_steps (.one hst) harr⟩

theorem OpsW.shut {c cap s r : Nat} {z : Value} {tm : Bool} (ok : Bool) (ho : ops[i]? = some o) (hw : Region.wanted o (yielded ops a.tmps) = true)
    (hr : (execOp a.eval o).run P w = .ok (.comm #[rcase c z] true (.recv ok)) w') (hc : w'.heap[c]? = some (.chan cap #[] true s r tm))
    (h : OpsW P ops Q rest (a.put o.dst (got ok z false)) w') : OpsW P ops Q (i :: rest) a w := by
  intro b k cs
  obtain ⟨e, a', w'', hq, harr⟩ := h b k cs
  obtain ⟨es, hes⟩ := comm_step (P := P) (w := w) (rest := rest) ho hw hr b k cs
  have hst := step_lone_recv_shut ok hes hc
  rw [finish_ops b k ho _] at hst
  exact ⟨e, a', w'', hq, .of_steps (.one hst) harr⟩

theorem wp_region_ops {id : Nat} (h : OpsW P ops Q (List.range ops.size) a w) : (Code.region id ops false).wp P Q a w :=
  fun b k cs => let ⟨e, a', w', q, r⟩ := h b k cs; ⟨e, a', w', q, .of_steps (.one step_region) r⟩

theorem wp_region_ops_draw {id : Nat} (h : ∀ t, OpsW P ops Q (Region.schedule (P.follows .mixedOrders) ops t) a { w with drawn := w.drawn + 1 }) : (Code.region id ops true).wp P Q a w :=
  fun b k cs => let ⟨e, a', w', q, r⟩ := h _ b k cs; ⟨e, a', w', q, .of_steps (.one step_region_draw) r⟩

theorem wpS_region_draw {id : Nat} {Q : Exit → Act → List Frame → World → Prop} {cs : List Frame}
    (h : ∀ t, wpOpsS P ops Q (Region.schedule (P.follows .mixedOrders) ops t) a cs { w with drawn := w.drawn + 1 }) : (Code.region id ops true).wpS P Q a cs w :=
  fun b k hb hr => let ⟨e, a', cs', w', q, r⟩ := wp_opsS _ a cs _ (h _) b k hb hr; ⟨e, a', cs', w', q, .of_steps (.one step_region_draw) r⟩
end
end Go.Proofs.Ybulkdhie.Lone
