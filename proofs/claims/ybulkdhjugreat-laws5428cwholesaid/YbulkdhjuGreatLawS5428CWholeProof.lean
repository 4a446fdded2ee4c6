/-
  The proof of 'Rows.LawS5428CWholeSaid': the given shell, its hole filled; the form's own reach is used: eight strings within it have lengths whose sum does not wrap.
-/
import Derived.Test.YbulkdhjuGreatRows
import Derived.WalkKit
import Derived.ProofKit
import Derived.OpenShut
import Derived.ShutString
import Derived.SizedLaws
import Derived.Below
import Derived.Test.YbulkdhjuGreatB
namespace Go.Proofs.YbulkdhjuGreat.lawS5428CWhole
open Go.ChangeShapes Go.WideShapes Go.ChangeAt Go.RowKit
open Go.ChangeMaps (open_string shut_string)
set_option linter.unusedVariables false      -- a walk need not use every 'w<i>' (that an integer argument fits its kind)

theorem own : ownKnob Ybaz.prog.godebug = none := by kernel_rfl

/-! ### THE WALK -/
set_option maxRecDepth 100000 in
theorem walk (a0 a1 a2 a3 a4 a5 a6 a7 : ByteArray) (w0 : a0.size ≤ 140737488351232) (w1 : a1.size ≤ 140737488351232) (w2 : a2.size ≤ 140737488351232) (w3 : a3.size ≤ 140737488351232) (w4 : a4.size ≤ 140737488351232) (w5 : a5.size ≤ 140737488351232) (w6 : a6.size ≤ 140737488351232) (w7 : a7.size ≤ 140737488351232) (w : World) :
    Calls Ybaz.prog 3 #[.string a0, .string a1, .string a2, .string a3, .string a4, .string a5, .string a6, .string a7] w fun e w' => e = .returned (.bool true) ∧ Below w.heap.size w w' := by
  by_cases h : a0.size + a1.size + a2.size + a3.size + a4.size + a5.size + a6.size + a7.size ≤ 1048576
  · exact law_any a0 a1 a2 a3 a4 a5 a6 a7 w h
  · have hz : (1048576 : Int) < (a0.size : Int) + a1.size + a2.size + a3.size + a4.size + a5.size + a6.size + a7.size := by omega
    clear h
    go_enter Ybaz.func3, Ybaz.ntmps3
    go_wp2
    go_ret
    exact ⟨rfl, Below.refl _ _⟩

/-! ### THE ROW's STEP: WRITTEN OUT: LEAVE IT -/
set_option maxRecDepth 100000 in
theorem lifted (os : Os) (started : os.Started) (H : Type) (enc : TypeId × Value → H) :
    ReturnsInHanded {} Ybaz.checked os 3 .any (Rows.lawS5428CWholeSpec.pre6 enc Ybaz.prog Ybaz.f3 Rows.lawS5428CWholeRow.domain false) (Rows.lawS5428CWholeSpec.post enc Ybaz.prog Ybaz.f3 false true false false) := by
  refine returnsInHanded_of_change_sized (C := Ybaz.checked) own started (by kernel_rfl) Ybaz.func3
    (ChangeSpec.witness6 (enc := enc) (C := Ybaz.checked) false ⟨#[], #[.string ByteArray.empty, .string ByteArray.empty, .string ByteArray.empty, .string ByteArray.empty, .string ByteArray.empty, .string ByteArray.empty, .string ByteArray.empty, .string ByteArray.empty], []⟩ 8 (by kernel_rfl) (by kernel_rfl) (by kernel_rfl) (by kernel_rfl)) ?_
  intro W base args ds gs before hval0 hW hcnd hsz0 _
  have hsz : (DataW.weightsEach Ybaz.prog (Ybaz.f3.params.toList ++ Rows.lawS5428CWholeSpec.plain.varTypes Ybaz.prog) (ds ++ gs)).all (· ≤ reachBytes) = true := hsz0
  clear hsz0
  have hval : ∀ (j : Nat) t v, Ybaz.f3.params[j]? = some t → args[j]? = some v → Value.okWide Ybaz.prog W .any base t v := hval0
  have hW' := hW
  obtain ⟨p, q, hA0, hV, rfl, hfz, hnd⟩ := hW
  have hA : DataW.TrodAll enc Ybaz.prog W 0 (fun _ => true) true Ybaz.f3.params.toList args.toList ds p := hA0
  rw [Ybaz.params3] at hA hval hsz
  obtain ⟨v0, vs0, d0, ds0, p0, q0, hargs, rfl, rfl, h0, r0⟩ := trodAll_cons hA
  obtain ⟨v1, vs1, d1, ds1, p1, q1, rfl, rfl, rfl, h1, r1⟩ := trodAll_cons r0
  obtain ⟨v2, vs2, d2, ds2, p2, q2, rfl, rfl, rfl, h2, r2⟩ := trodAll_cons r1
  obtain ⟨v3, vs3, d3, ds3, p3, q3, rfl, rfl, rfl, h3, r3⟩ := trodAll_cons r2
  obtain ⟨v4, vs4, d4, ds4, p4, q4, rfl, rfl, rfl, h4, r4⟩ := trodAll_cons r3
  obtain ⟨v5, vs5, d5, ds5, p5, q5, rfl, rfl, rfl, h5, r5⟩ := trodAll_cons r4
  obtain ⟨v6, vs6, d6, ds6, p6, q6, rfl, rfl, rfl, h6, r6⟩ := trodAll_cons r5
  obtain ⟨v7, vs7, d7, ds7, p7, q7, rfl, rfl, rfl, h7, r7⟩ := trodAll_cons r6
  obtain ⟨rfl, rfl, rfl⟩ := trodAll_nil r7
  obtain rfl : args = #[v0, v1, v2, v3, v4, v5, v6, v7] := by cases args; simp_all
  obtain ⟨rfl, rfl⟩ := trodVars_none hV
  obtain ⟨a0, rfl, rfl, rfl, w0⟩ := open_string Ybaz.underlying9 (hval 0 9 v0 rfl rfl) h0
  obtain ⟨a1, rfl, rfl, rfl, w1⟩ := open_string Ybaz.underlying9 (hval 1 9 v1 rfl rfl) h1
  obtain ⟨a2, rfl, rfl, rfl, w2⟩ := open_string Ybaz.underlying9 (hval 2 9 v2 rfl rfl) h2
  obtain ⟨a3, rfl, rfl, rfl, w3⟩ := open_string Ybaz.underlying9 (hval 3 9 v3 rfl rfl) h3
  obtain ⟨a4, rfl, rfl, rfl, w4⟩ := open_string Ybaz.underlying9 (hval 4 9 v4 rfl rfl) h4
  obtain ⟨a5, rfl, rfl, rfl, w5⟩ := open_string Ybaz.underlying9 (hval 5 9 v5 rfl rfl) h5
  obtain ⟨a6, rfl, rfl, rfl, w6⟩ := open_string Ybaz.underlying9 (hval 6 9 v6 rfl rfl) h6
  obtain ⟨a7, rfl, rfl, rfl, w7⟩ := open_string Ybaz.underlying9 (hval 7 9 v7 rfl rfl) h7
  clear hA0 hval0
  simp only [List.append_nil] at hW'
  have z0 : a0.size ≤ 140737488351232 := by
    have := sized_string hsz (j := 0) (t := 9) rfl rfl
    simpa [reachBytes] using this
  have z1 : a1.size ≤ 140737488351232 := by
    have := sized_string hsz (j := 1) (t := 9) rfl rfl
    simpa [reachBytes] using this
  have z2 : a2.size ≤ 140737488351232 := by
    have := sized_string hsz (j := 2) (t := 9) rfl rfl
    simpa [reachBytes] using this
  have z3 : a3.size ≤ 140737488351232 := by
    have := sized_string hsz (j := 3) (t := 9) rfl rfl
    simpa [reachBytes] using this
  have z4 : a4.size ≤ 140737488351232 := by
    have := sized_string hsz (j := 4) (t := 9) rfl rfl
    simpa [reachBytes] using this
  have z5 : a5.size ≤ 140737488351232 := by
    have := sized_string hsz (j := 5) (t := 9) rfl rfl
    simpa [reachBytes] using this
  have z6 : a6.size ≤ 140737488351232 := by
    have := sized_string hsz (j := 6) (t := 9) rfl rfl
    simpa [reachBytes] using this
  have z7 : a7.size ≤ 140737488351232 := by
    have := sized_string hsz (j := 7) (t := 9) rfl rfl
    simpa [reachBytes] using this
  refine (walk a0 a1 a2 a3 a4 a5 a6 a7 z0 z1 z2 z3 z4 z5 z6 z7 W).mono fun e W' ⟨he, bel⟩ => ?_
  subst he
  exact ⟨_, rfl, _, _, _, [], _, [], hW', trodAll_mk1 (shut_bool Ybaz.underlying4 _), (trodAll_cons_mk (shut_string Ybaz.underlying9 w0) (trodAll_cons_mk (shut_string Ybaz.underlying9 w1) (trodAll_cons_mk (shut_string Ybaz.underlying9 w2) (trodAll_cons_mk (shut_string Ybaz.underlying9 w3) (trodAll_cons_mk (shut_string Ybaz.underlying9 w4) (trodAll_cons_mk (shut_string Ybaz.underlying9 w5) (trodAll_cons_mk (shut_string Ybaz.underlying9 w6) (trodAll_cons_mk (shut_string Ybaz.underlying9 w7) trodAll_mk0)))))))), rfl, bel.frame _, fun h => by cases h⟩

theorem over : Rows.lawS5428CWholeRow.holds Ybaz.pinned (OpenSpec.ofChange Rows.lawS5428CWholeSpec) :=
  OpenClaim.holds_of_wide 3 Ybaz.f3 rfl rfl rfl rfl rfl rfl rfl ⟨rfl, rfl, rfl, rfl, rfl⟩ rfl rfl rfl rfl rfl (by kernel_rfl) Ybaz.func3 (by kernel_rfl)
    (of_decide_eq_true (by kernel_rfl)) (by unfold Func.isWrapper; first | (rw [if_pos (by decide +kernel)]; kernel_rfl) | (rw [if_neg (by decide +kernel)]; exact ⟨rfl, rfl⟩))
    (fun os started H enc _ => lifted os started H enc)

/-- ████ THE STATEMENT ████ -/
theorem proved : Rows.LawS5428CWholeSaid :=
  over
end Go.Proofs.YbulkdhjuGreat.lawS5428CWhole
