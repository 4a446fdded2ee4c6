/-
  The proof of 'Rows.LawS5424CWholeSaid': the arguments opened, the walk (YbulkdhhqC7), the row's step.
-/
import Derived.Test.YbulkdhhqRows
import Derived.WalkKit
import Derived.ProofKit
import Derived.OpenShut
import Derived.ShutString
import Derived.ChangeOld
import Derived.Below
import Derived.Deep.Slices
import Derived.Deep.Strs
import Derived.Test.YbulkdhhqC7
namespace Go.Proofs.Ybulkdhhq.lawS5424CWhole
open Go.ChangeShapes Go.WideShapes Go.ChangeAt Go.RowKit Go.Deep
set_option linter.unusedVariables false

theorem own : ownKnob Yba.prog.godebug = none := by kernel_rfl
theorem laidOut : laidOutB Yba.prog = true := by kernel_rfl
theorem cells46 : Yba.prog.cellsOf 46 = 3 := by kernel_rfl
theorem cells4 : Yba.prog.cellsOf 4 = 1 := by kernel_rfl
theorem cells2 : Yba.prog.cellsOf 2 = 1 := by kernel_rfl

/-- What the walk is told of the slice of bytes. -/
def IsBytes (w : World) (a : Option Addr) (len : Nat) : Prop :=
  ∃ (b o : Nat) (f : Nat → Int), (0 < len → a = some ⟨b, o, none⟩) ∧ (∀ j, j < len → w.cell? ⟨b, o + j, none⟩ = some (.int .u8 (f j))) ∧ ∀ j, j < len → 0 ≤ f j ∧ f j ≤ 255

/-- What the walk is told of the slice of records. -/
def IsRecs (w : World) (a : Option Addr) (len : Nat) : Prop :=
  ∃ (b o : Nat) (dr : Nat → Bool) (fi la : Nat → Int), (0 < len → a = some ⟨b, o, none⟩) ∧ (∀ j, j < len → w.cell? ⟨b, o + j * 3, none⟩ = some (.bool (dr j))) ∧ (∀ j, j < len → w.cell? ⟨b, o + j * 3 + 1, none⟩ = some (.int .i64 (fi j))) ∧
    (∀ j, j < len → w.cell? ⟨b, o + j * 3 + 2, none⟩ = some (.int .i64 (la j))) ∧ (∀ j, j < len → -9223372036854775808 ≤ fi j ∧ fi j ≤ 9223372036854775807) ∧ ∀ j, j < len → -9223372036854775808 ≤ la j ∧ la j ≤ 9223372036854775807

theorem bytes_view {H : Type} {enc : TypeId × Value → H} {W : World} {a : Option Addr} {len cap fuel : Nat} {x : DataW H × List MemPlace}
    (hf : DataW.trod enc Yba.prog W 0 (fun _ => true) true fuel 23 (Value.slice a len cap).cells.toList = some x) : IsBytes W a len := by
  rcases open_ints Yba.underlying23 Yba.underlying5 (by kernel_rfl) hf with ⟨hcs, _⟩ | ⟨y, l, c, zs, hcs, _, hl, hm, hz, _, hcell, hwz⟩
  · simp [Value.cells] at hcs
    obtain ⟨rfl, rfl, rfl⟩ := hcs
    exact ⟨0, 0, fun _ => 0, fun h => absurd h (Nat.lt_irrefl _), fun j h => absurd h (Nat.not_lt_zero _), fun j h => absurd h (Nat.not_lt_zero _)⟩
  · simp [Value.cells] at hcs
    obtain ⟨rfl, rfl, rfl⟩ := hcs
    simp only [if_true] at hz
    obtain ⟨b, o, sp⟩ := y
    by_cases h0 : 0 < len
    · have hsp : sp = none := by simpa [Addr.add] using World.cell?_spot (hcell 0 (by omega))
      subst hsp
      refine ⟨b, o, fun j => zs.getD j 0, fun _ => rfl, fun j hj => by rw [← add_plain]; exact hcell j (by omega), fun j hj => ?_⟩
      have h5 := hwz (zs.getD j 0) (by
        rw [List.getD, List.getElem?_eq_getElem (by omega)]; simp)
      have e1 : IntKind.u8.min = 0 := rfl
      have e2 : IntKind.u8.max = 255 := rfl
      simpa [Lit.wf, e1, e2] using h5
    · exact ⟨0, 0, fun _ => 0, fun h => absurd h h0, fun j h => by omega, fun j h => by omega⟩

theorem recs_view {H : Type} {enc : TypeId × Value → H} {W : World} {a : Option Addr} {len cap fuel : Nat} {x : DataW H × List MemPlace}
    (hf : DataW.trod enc Yba.prog W 0 (fun _ => true) true fuel 36 (Value.slice a len cap).cells.toList = some x) : IsRecs W a len := by
  rcases open_slice Yba.underlying36 hf with ⟨hcs, _⟩ | ⟨y, l, c, m, n, D, Pl, hcs, _, hl, hm, hmm, _, hel⟩
  · simp [Value.cells] at hcs
    obtain ⟨rfl, rfl, rfl⟩ := hcs
    exact ⟨0, 0, fun _ => false, fun _ => 0, fun _ => 0, fun h => absurd h (Nat.lt_irrefl _), fun j h => absurd h (Nat.not_lt_zero _), fun j h => absurd h (Nat.not_lt_zero _), fun j h => absurd h (Nat.not_lt_zero _), fun j h => absurd h (Nat.not_lt_zero _), fun j h => absurd h (Nat.not_lt_zero _)⟩
  · simp [Value.cells] at hcs
    obtain ⟨rfl, rfl, rfl⟩ := hcs
    simp only [if_true] at hmm
    subst hmm
    rw [cells46] at hel
    obtain ⟨X, hX⟩ := choose_lt (α := Bool × Int × Int) (n := len) (p := fun i z => (W.cell? ((y.add (i * 3)).add 0) = some (.bool z.1) ∧ W.cell? ((y.add (i * 3)).add 1) = some (.int .i64 z.2.1) ∧ W.cell? ((y.add (i * 3)).add 2) = some (.int .i64 z.2.2)) ∧ (Lit.int .i64 z.2.1).wf = true ∧ (Lit.int .i64 z.2.2).wf = true) (fun i hi => by
      obtain ⟨cs', h1, h2⟩ := hel i (by omega)
      obtain ⟨_, hlen, hc⟩ := World.cells?_some h1
      match cs', hlen with
      | [c0, c1, c2], _ =>
        obtain ⟨y0, y1, y2, n', _, _, t0, t1, t2⟩ := trod_struct3 Yba.underlying46 h2
        simp [cells4, cells2] at t0 t1 t2
        obtain ⟨z0, e0, _⟩ := DataW.trod_bool Yba.underlying4 t0
        obtain ⟨z1, e1, _, w1⟩ := DataW.trod_int Yba.underlying2 t1
        obtain ⟨z2, e2, _, w2⟩ := DataW.trod_int Yba.underlying2 t2
        simp at e0 e1 e2
        subst e0 e1 e2
        exact ⟨(z0, z1, z2), ⟨hc 0 (by omega), hc 1 (by omega), hc 2 (by omega)⟩, w1, w2⟩)
    obtain ⟨b, o, sp⟩ := y
    by_cases h0 : 0 < len
    · have hsp : sp = none := by simpa [Addr.add] using World.cell?_spot (hX 0 h0).1.1
      subst hsp
      have bd : ∀ z : Int, (Lit.int .i64 z).wf = true → -9223372036854775808 ≤ z ∧ z ≤ 9223372036854775807 := fun z h => by
        have e1 : IntKind.i64.min = -9223372036854775808 := rfl
        have e2 : IntKind.i64.max = 9223372036854775807 := rfl
        simpa [Lit.wf, e1, e2] using h
      refine ⟨b, o, fun j => (X j).1, fun j => (X j).2.1, fun j => (X j).2.2, fun _ => rfl, fun j hj => ?_, fun j hj => ?_, fun j hj => ?_, fun j hj => bd _ (hX j hj).2.1, fun j hj => bd _ (hX j hj).2.2⟩
      · have := (hX j hj).1.1; rw [addr_add, addr_add, Nat.add_zero] at this; exact this
      · have := (hX j hj).1.2.1; rw [addr_add, addr_add] at this; exact this
      · have := (hX j hj).1.2.2; rw [addr_add, addr_add] at this; exact this
    · exact ⟨0, 0, fun _ => false, fun _ => 0, fun _ => 0, fun h => absurd h h0, fun j h => by omega, fun j h => by omega, fun j h => by omega, fun j h => by omega, fun j h => by omega⟩

set_option maxHeartbeats 800000 in
set_option maxRecDepth 100000 in
theorem walk (b0 : Int) (a1 : Option Addr) (len1 cap1 : Nat) (a2 : Option Addr) (len2 cap2 : Nat) (n : Int) (w : World) (w0 : (Lit.int .u16 b0).wf = true) (w1 : IsBytes w a1 len1) (w2 : IsRecs w a2 len2) (w3 : (Lit.int .i64 n).wf = true) :
    Calls Yba.prog 4 #[.int .u16 b0, .slice a1 len1 cap1, .slice a2 len2 cap2, .int .i64 n] w fun e w' => e = .returned (.bool true) ∧ Below w.heap.size w w' := by
  have e1 : IntKind.u16.min = 0 := rfl
  have e2 : IntKind.u16.max = 65535 := rfl
  have e3 : IntKind.i64.min = -9223372036854775808 := rfl
  have e4 : IntKind.i64.max = 9223372036854775807 := rfl
  have bb : 0 ≤ b0 ∧ b0 ≤ 65535 := by simpa [Lit.wf, e1, e2] using w0
  have bn : -9223372036854775808 ≤ n ∧ n ≤ 9223372036854775807 := by simpa [Lit.wf, e3, e4] using w3
  by_cases s1 : len1 ≤ 4096
  · by_cases s2 : len2 ≤ 4096
    · obtain ⟨gb, go, gg, h1, g1, wg⟩ := w1
      obtain ⟨rb, ro, dr, fi, la, h2, g20, g21, g22, wf, wl⟩ := w2
      exact lawC_any b0 a1 a2 len1 cap1 len2 cap2 gb go rb ro gg fi la dr n w s1 s2 bb.1 bb.2 bn.1 bn.2 h1 g1 wg h2 g20 g21 g22 wf wl
    · have q0 : ¬ (4096 : Int) < (len1 : Int) := by omega
      have q1 : (4096 : Int) < (len2 : Int) := by omega
      clear w0 w1 w2 w3 bb bn e1 e2 e3 e4 s1 s2
      go_enter Yba.func4, Yba.ntmps4
      go_wp2
      go_ret
      exact ⟨rfl, Below.refl _ _⟩
  · have q0 : (4096 : Int) < (len1 : Int) := by omega
    clear w0 w1 w2 w3 bb bn e1 e2 e3 e4 s1
    go_enter Yba.func4, Yba.ntmps4
    go_wp2
    go_ret
    exact ⟨rfl, Below.refl _ _⟩

set_option maxRecDepth 100000 in
theorem lifted (os : Os) (started : os.Started) (H : Type) (enc : TypeId × Value → H) :
    ReturnsInHanded {} Yba.checked os 4 .any (Rows.lawS5424CWholeSpec.pre6 enc Yba.prog Yba.f4 Rows.lawS5424CWholeRow.domain false) (Rows.lawS5424CWholeSpec.post enc Yba.prog Yba.f4 false true false false) := by
  refine returnsInHanded_of_change (C := Yba.checked) own started (by kernel_rfl) Yba.func4
    (ChangeSpec.witness6 (enc := enc) (C := Yba.checked) false ⟨#[], #[.int .u16 0, .slice none 0 0, .slice none 0 0, .int .i64 0], []⟩ 8 (by kernel_rfl) (by kernel_rfl) (by kernel_rfl) (by kernel_rfl)) ?_
  intro W base args ds gs before hval0 hW hcnd _
  have hval : ∀ (j : Nat) t v, Yba.f4.params[j]? = some t → args[j]? = some v → Value.okWide Yba.prog W .any base t v := hval0
  have hW' := hW
  obtain ⟨p, q, hA0, hV, rfl, hfz, hnd⟩ := hW
  have hA : DataW.TrodAll enc Yba.prog W 0 (fun _ => true) true Yba.f4.params.toList args.toList ds p := hA0
  rw [Yba.params4] at hA hval
  obtain ⟨v0, vs0, d0, ds0, p0, q0, hargs, rfl, rfl, h0, r0⟩ := trodAll_cons hA
  obtain ⟨v1, vs1, d1, ds1, p1, q1, rfl, rfl, rfl, h1, r1⟩ := trodAll_cons r0
  obtain ⟨v2, vs2, d2, ds2, p2, q2, rfl, rfl, rfl, h2, r2⟩ := trodAll_cons r1
  obtain ⟨v3, vs3, d3, ds3, p3, q3, rfl, rfl, rfl, h3, r3⟩ := trodAll_cons r2
  obtain ⟨rfl, rfl, rfl⟩ := trodAll_nil r3
  obtain rfl : args = #[v0, v1, v2, v3] := by cases args; simp_all
  obtain ⟨rfl, rfl⟩ := trodVars_none hV
  obtain ⟨a0, rfl, rfl, rfl, w0⟩ := open_int Yba.underlying35 (hval 0 35 v0 rfl rfl) h0
  obtain ⟨a1, len1, cap1, rfl⟩ := okWide_slice Yba.underlying23 (hval 1 23 v1 rfl rfl)
  have k1 := h1
  have lt1 : ∀ x ∈ p1, x.block < W.heap.size := by obtain ⟨m, hm⟩ := k1; exact DataW.trod_lt m _ _ _ hm
  have w1 : IsBytes W a1 len1 := by obtain ⟨fuel, hf⟩ := h1; exact bytes_view hf
  obtain ⟨a2, len2, cap2, rfl⟩ := okWide_slice Yba.underlying36 (hval 2 36 v2 rfl rfl)
  have k2 := h2
  have lt2 : ∀ x ∈ p2, x.block < W.heap.size := by obtain ⟨m, hm⟩ := k2; exact DataW.trod_lt m _ _ _ hm
  have w2 : IsRecs W a2 len2 := by obtain ⟨fuel, hf⟩ := h2; exact recs_view hf
  obtain ⟨a3, rfl, rfl, rfl, w3⟩ := open_int Yba.underlying3 (hval 3 3 v3 rfl rfl) h3
  clear hA0 hval0
  refine (walk a0 a1 len1 cap1 a2 len2 cap2 a3 W w0 w1 w2 w3).mono fun e W' ⟨he, bel⟩ => ?_
  subst he
  exact ⟨_, rfl, _, _, _, [], _, [], hW', trodAll_mk1 (shut_bool Yba.underlying4 _), (trodAll_cons_mk (shut_int Yba.underlying35 w0) (trodAll_cons_mk (Below.trod laidOut (by kernel_rfl) (of_decide_eq_true (by kernel_rfl)) k1 bel lt1) (trodAll_cons_mk (Below.trod laidOut (by kernel_rfl) (of_decide_eq_true (by kernel_rfl)) k2 bel lt2) (trodAll_cons_mk (shut_int Yba.underlying3 w3) trodAll_mk0)))), rfl, bel.frame _, fun h => by cases h⟩

theorem over : Rows.lawS5424CWholeRow.holds Yba.pinned (OpenSpec.ofChange Rows.lawS5424CWholeSpec) :=
  OpenClaim.holds_of_wide 4 Yba.f4 rfl rfl rfl rfl rfl rfl rfl ⟨rfl, rfl, rfl, rfl, rfl⟩ rfl rfl rfl rfl rfl (by kernel_rfl) Yba.func4 (by kernel_rfl)
    (of_decide_eq_true (by kernel_rfl)) (by unfold Func.isWrapper; first | (rw [if_pos (by decide +kernel)]; kernel_rfl) | (rw [if_neg (by decide +kernel)]; exact ⟨rfl, rfl⟩))
    (fun os started H enc _ => lifted os started H enc)

/-- THE STATEMENT -/
theorem proved : Rows.LawS5424CWholeSaid := over
end Go.Proofs.Ybulkdhhq.lawS5424CWhole
