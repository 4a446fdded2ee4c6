/-
  forkstream.LawS5425BWhole: sync.WaitGroup's Add(1), Done, Wait in the run of one goroutine, each as a contract with the exact world.
-/
import Derived.Test.YbulkdhieProg
import Derived.Test.YbulkdhieC0
import Derived.Conc.SmallLaws
import Derived.Laws.LoneSync
import Derived.WalkKit
import Derived.WalkSpells
import Derived.WalkLawsBesides
import Derived.KernelRfl
import Derived.Deep.CutBlock
namespace Go.Proofs.Ybulkdhie
open Go.RowKit

theorem hideC {p : Prop} (h : p) : Hid p := h

section
variable {P : Program}
/-- A deferred call of a function without a body that yields a value and leaves the world: the frame goes on. -/
theorem step_defer_value {fr : Frame} {cs : List Frame} {w : World} {d : Deferred} {ds : List Deferred} {fv : Fn} {cap : Array Value} {v : Value}
    (hm : fr.mode = .returning) (hd : fr.defers = d :: ds) (ht : d.target = .fn fv cap) (hi : (invoke d.target d.args).run P w = .ok (.value v) w) :
    step P (lone fr cs w) = .next (lone { fr with defers := ds } cs w) := by
  obtain ⟨t, a⟩ := d
  simp only at ht hi
  subst ht
  refine step_lone_go ?_
  simp [stepG, unwind, callDeferred, hm, hd, hi]

/-- What is asked at the end of a body that has deferred just one such call, and leaves by a return. -/
def postX (P : Program) (fn : Func) (d : Deferred) (R : Ending → World → Prop) : Exit → Act → World → Prop
  | .normal, a, w | .ret, a, w => a.defers = [d] ∧ ∃ v, (results fn a.tmps).run P w = .ok v w ∧ R (.returned v) w
  | _, _, _ => False

theorem calls_of_wp_deferX {f : FuncId} {fn : Func} {c : Code} {args : Array Value} {w : World} {R : Ending → World → Prop} (d : Deferred) {fv : Fn} {cap : Array Value} {vd : Value}
    (ht : d.target = .fn fv cap) (hi : ∀ w, (invoke d.target d.args).run P w = .ok (.value vd) w)
    (hf : P.funcs[f]? = some fn) (hb : fn.body = some c)
    (h : c.wp P (postX P fn d R) { tmps := args ++ Array.replicate (fn.ntmps - args.size) undef, defers := [] } w) : Calls P f args w R := by
  intro cs
  let b : Frame := { (default : Frame) with fn := f, kind := .normal }
  have henter : Frame.enter P f args .normal =
      b.at { tmps := args ++ Array.replicate (fn.ntmps - args.size) undef, defers := [] } [.code c] := by
    simp [Frame.enter, Frame.at, hf, hb, b]
  obtain ⟨e, a', w', hq, harr⟩ := h b [] cs
  rw [← henter] at harr
  cases e with
  | normal =>
    obtain ⟨hd, v, hr, hR⟩ := hq
    have h1 := step_defer_value (P := P) (fr := { b.at a' [] with mode := .returning }) (cs := cs) (w := w') rfl hd ht (hi w')
    exact ⟨.returned v, w', _, hR, Steps.trans harr (Steps.trans (.one step_end) (.one h1)), rfl, rfl, rfl, rfl, fn, hf, hr⟩
  | ret =>
    obtain ⟨hd, v, hr, hR⟩ := hq
    obtain ⟨todo, hs⟩ := harr
    have h1 := step_defer_value (P := P) (fr := { b.at a' todo with mode := .returning }) (cs := cs) (w := w') rfl hd ht (hi w')
    exact ⟨.returned v, w', _, hR, Steps.trans hs (.one h1), rfl, rfl, rfl, rfl, fn, hf, hr⟩
  | panic chain => exact hq.elim
  | exit id => exact hq.elim
  | goto l => exact hq.elim
  | outgrown => exact hq.elim
end

/-- internal/race.Disable -/
theorem race22 (w : World) : (callFunc 22 #[]).run Yba.prog w = .ok (.value (.tuple #[])) w :=
  run_call_mark0 Yba.func22 (by kernel_rfl) (by kernel_rfl) (by kernel_rfl) .disable (by kernel_rfl) w
/-- internal/race.Enable -/
theorem race23 (w : World) : (callFunc 23 #[]).run Yba.prog w = .ok (.value (.tuple #[])) w :=
  run_call_mark0 Yba.func23 (by kernel_rfl) (by kernel_rfl) (by kernel_rfl) .enable (by kernel_rfl) w

theorem race21 (a : Addr) (w : World) : (callFunc 21 #[.pointer (some a)]).run Yba.prog w = .ok (.value (.tuple #[])) w :=
  run_call_marked Yba.func21 (by kernel_rfl) (by kernel_rfl) (by kernel_rfl) .releaseMerge (by kernel_rfl) a w
theorem race29 (a : Addr) (w : World) : (callFunc 29 #[.pointer (some a)]).run Yba.prog w = .ok (.value (.tuple #[])) w :=
  run_call_marked Yba.func29 (by kernel_rfl) (by kernel_rfl) (by kernel_rfl) .read (by kernel_rfl) a w
theorem race36 (a : Addr) (w : World) : (callFunc 36 #[.pointer (some a)]).run Yba.prog w = .ok (.value (.tuple #[])) w :=
  run_call_marked Yba.func36 (by kernel_rfl) (by kernel_rfl) (by kernel_rfl) .acquire (by kernel_rfl) a w
/-- internal/synctest.IsInBubble -/
theorem bubble24 (w : World) : (callFunc 24 #[]).run Yba.prog w = .ok (.value (.bool false)) w := by
  rw [run_callFunc_extern (P := Yba.prog) (e := fun _ => pure (.bool false)) Yba.func24 (by kernel_rfl) (by kernel_rfl) (by kernel_rfl) (by kernel_rfl)]
  rfl

/-- (*atomic.Uint64).Add -/
theorem add64 (b o : Nat) (x y s : Int) (w : World) (hc : w.cell? ⟨b, o, none⟩ = some (.int .u64 x)) (hz : w.frozen? ⟨b, o, none⟩ = false)
    (hs : (Op.intArith .add .u64 x y).run Yba.prog w = .ok (.int .u64 s) w) :
    Calls Yba.prog 28 #[.pointer (some ⟨b, o, none⟩), .int .u64 y] w fun e w' => e = .returned (.int .u64 s) ∧ w' = w.setCell ⟨b, o, none⟩ (.int .u64 s) := by
  have hl := run_call_add (P := Yba.prog) Yba.func43 (by kernel_rfl) (by kernel_rfl) (by kernel_rfl) .u64 (by kernel_rfl) hc hz hs
  go_enter Yba.func28, Yba.ntmps28
  go_wp2
  go_ret
  exact ⟨rfl, rfl⟩
/-- (*atomic.Uint64).Load -/
theorem load64 (b o : Nat) (y : Int) (w : World) (hc : w.cell? ⟨b, o, none⟩ = some (.int .u64 y)) :
    Calls Yba.prog 30 #[.pointer (some ⟨b, o, none⟩)] w fun e w' => e = .returned (.int .u64 y) ∧ w' = w := by
  have hl := run_call_load (P := Yba.prog) Yba.func44 (by kernel_rfl) (by kernel_rfl) (by kernel_rfl) .u64 (by kernel_rfl) hc
  go_enter Yba.func30, Yba.ntmps30
  go_wp2
  go_ret
  exact ⟨rfl, rfl⟩

theorem sz40 : (Yba.prog.info? 40).map (fun i => decide (i.size = 0)) = some false := by kernel_rfl
theorem sz38 : (Yba.prog.info? 38).map (fun i => decide (i.size = 0)) = some false := by kernel_rfl

theorem enable_deferred (w : World) : (invoke (.fn (.func 23) #[]) #[]).run Yba.prog w = .ok (.value (.tuple #[])) w := race23 w

set_option maxRecDepth 100000 in
set_option maxHeartbeats 4000000 in
/-- Add(1) of a WaitGroup at nought. -/
theorem wg_add (b : Nat) (w : World) (h0 : w.cell? ⟨b, 0, none⟩ = some (.int .u64 0)) (h1 : w.cell? ⟨b, 1, none⟩ = some (.int .u32 0)) (f0 : w.frozen? ⟨b, 0, none⟩ = false) :
    Calls Yba.prog 10 #[.pointer (some ⟨b, 0, none⟩), .int .i64 1] w fun e w' => e = .returned (.tuple #[]) ∧ w' = w.setCell ⟨b, 0, none⟩ (.int .u64 4294967296) := by
  have r22 := race22
  have r24 := bubble24
  have r29 := race29
  have hcv : ∀ w : World, w.cell? ⟨b, 1, none⟩ = some (.int .u32 0) → (convert 84 77 (.pointer (some ⟨b, 1, none⟩))).run Yba.prog w = .ok (.pointer (some ⟨b, 1, none⟩)) w :=
    fun w h => run_convert_to_unsafe Yba.underlying84 Yba.underlying77 sz38 h
  have h1' : (w.setCell ⟨b, 0, none⟩ (.int .u64 4294967296)).cell? ⟨b, 1, none⟩ = some (.int .u32 0) := (World.cell?_setCell_other _ ⟨b, 0, none⟩ ⟨b, 1, none⟩ _ (by simp)).trans h1
  have hcv1 := hcv _ h1'
  refine calls_of_wp_deferX { target := .fn (.func 23) #[], args := #[] } rfl enable_deferred Yba.func10 rfl ?_
  simp only [Yba.ntmps10, List.size_toArray, List.length_cons, List.length_nil, Nat.reduceAdd, Nat.reduceSub, Array.replicate_succ,
     Array.replicate_zero, List.push_toArray, List.append_toArray, List.nil_append, List.cons_append]
  go_wp2_with (first | (go_at_call 28; refine (add64 b 0 0 4294967296 4294967296 _ (by exact h0) (by exact f0) (by rfl)).mono ?_; rintro e w' ⟨rfl, rfl⟩) | fail)
  go_wp2
  exact ⟨rfl, _, results_none rfl _ _ _, rfl, rfl⟩

set_option maxRecDepth 100000 in
set_option maxHeartbeats 4000000 in
/-- Add(-1) of a WaitGroup at one. -/
theorem wg_sub (b : Nat) (w : World) (h0 : w.cell? ⟨b, 0, none⟩ = some (.int .u64 4294967296)) (f0 : w.frozen? ⟨b, 0, none⟩ = false) :
    Calls Yba.prog 10 #[.pointer (some ⟨b, 0, none⟩), .int .i64 (-1)] w fun e w' => e = .returned (.tuple #[]) ∧ w' = w.setCell ⟨b, 0, none⟩ (.int .u64 0) := by
  have r22 := race22
  have r24 := bubble24
  have r21 := race21
  have hcv : (convert 43 77 (.pointer (some ⟨b, 0, none⟩))).run Yba.prog w = .ok (.pointer (some ⟨b, 0, none⟩)) w :=
    run_convert_to_unsafe Yba.underlying43 Yba.underlying77 sz40 h0
  refine calls_of_wp_deferX { target := .fn (.func 23) #[], args := #[] } rfl enable_deferred Yba.func10 rfl ?_
  simp only [Yba.ntmps10, List.size_toArray, List.length_cons, List.length_nil, Nat.reduceAdd, Nat.reduceSub, Array.replicate_succ,
     Array.replicate_zero, List.push_toArray, List.append_toArray, List.nil_append, List.cons_append]
  go_wp2_with (first | (go_at_call 28; refine (add64 b 0 4294967296 18446744069414584320 0 _ (by exact h0) (by exact f0) (by rfl)).mono ?_; rintro e w' ⟨rfl, rfl⟩) | fail)
  go_wp2
  exact ⟨rfl, _, results_none rfl _ _ _, rfl, rfl⟩

set_option maxRecDepth 100000 in
/-- Done, deferred. -/
theorem wg_done (b : Nat) (u : FrameMode) (w : World) (h0 : w.cell? ⟨b, 0, none⟩ = some (.int .u64 4294967296)) (f0 : w.frozen? ⟨b, 0, none⟩ = false) :
    CallsD Yba.prog 34 #[.pointer (some ⟨b, 0, none⟩)] u w fun e u' w' => u' = u ∧ e = .returned (.tuple #[]) ∧ w' = w.setCell ⟨b, 0, none⟩ (.int .u64 0) := by
  go_enter_d Yba.func34, Yba.ntmps34
  go_wp2_with (first | (go_at_call 10; refine (wg_sub b _ (by exact h0) (by exact f0)).mono ?_; rintro e w' ⟨rfl, rfl⟩) | fail)
  go_wp2
  go_end0
  exact ⟨rfl, rfl⟩

set_option maxRecDepth 100000 in
set_option maxHeartbeats 4000000 in
/-- Wait of a WaitGroup at nought. -/
theorem wg_wait (b : Nat) (w : World) (h0 : w.cell? ⟨b, 0, none⟩ = some (.int .u64 0)) :
    Calls Yba.prog 12 #[.pointer (some ⟨b, 0, none⟩)] w fun e w' => e = .returned (.tuple #[]) ∧ w' = w := by
  have r22 := race22
  have r23 := race23
  have r36 := race36
  have hcv : (convert 43 77 (.pointer (some ⟨b, 0, none⟩))).run Yba.prog w = .ok (.pointer (some ⟨b, 0, none⟩)) w :=
    run_convert_to_unsafe Yba.underlying43 Yba.underlying77 sz40 h0
  go_enter Yba.func12, Yba.ntmps12
  go_wp2
  refine wp_loop_rounds 1 ?_
  rw [rounds_succ]
  go_wp2_with (first | (go_at_call 30; refine (load64 b 0 0 _ (by exact h0)).mono ?_; rintro e w' ⟨rfl, rfl⟩) | fail)
  go_wp2
  refine bodyPost_ret (results_none rfl _ _ _) rfl ?_
  exact ⟨rfl, rfl⟩
end Go.Proofs.Ybulkdhie
