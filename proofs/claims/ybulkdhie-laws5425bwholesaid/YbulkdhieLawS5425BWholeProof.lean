/-
  The proof of 'Rows.LawS5425BWholeSaid': the arguments opened, the walk (YbulkdhieC6), the row's step.
-/
import Derived.Test.YbulkdhieRows
import Derived.WalkKit
import Derived.ProofKit
import Derived.OpenShut
import Derived.ShutString
import Derived.ChangeOld
import Derived.Below
import Derived.Deep.Slices
import Derived.Deep.Strs
import Derived.Test.YbulkdhieC6
namespace Go.Proofs.Ybulkdhie.lawS5425BWhole
open Go.ChangeShapes Go.WideShapes Go.ChangeAt Go.RowKit Go.Deep
set_option linter.unusedVariables false

theorem own : ownKnob Yba.prog.godebug = none := by kernel_rfl
theorem laidOut : laidOutB Yba.prog = true := by kernel_rfl
theorem cells4 : Yba.prog.cellsOf 4 = 1 := by kernel_rfl

theorem addr_add1 (b o j : Nat) : (⟨b, o, none⟩ : Addr).add j = ⟨b, o + j, none⟩ := by
  by_cases h : j = 0
  · subst h; simp [Addr.add]
  · simp [Addr.add, h]

/-- What the walk is told of the slice of numbers. -/
def IsNums (w : World) (a : Option Addr) (len : Nat) : Prop :=
  ∃ (b o : Nat) (f : Nat → Int), (0 < len → a = some ⟨b, o, none⟩) ∧ ∀ j, j < len → w.cell? ⟨b, o + j, none⟩ = some (.int .i64 (f j))

/-- What the walk is told of the slice of bools. -/
def IsBools (w : World) (a : Option Addr) (len : Nat) : Prop :=
  ∃ (b o : Nat) (f : Nat → Bool), (0 < len → a = some ⟨b, o, none⟩) ∧ ∀ j, j < len → w.cell? ⟨b, o + j, none⟩ = some (.bool (f j))

theorem nums_view {H : Type} {enc : TypeId × Value → H} {W : World} {a : Option Addr} {len cap fuel : Nat} {x : DataW H × List MemPlace}
    (hf : DataW.trod enc Yba.prog W 0 (fun _ => true) true fuel 24 (Value.slice a len cap).cells.toList = some x) : IsNums W a len := by
  rcases open_ints Yba.underlying24 Yba.underlying3 (by kernel_rfl) hf with ⟨hcs, _⟩ | ⟨y, l, c, zs, hcs, _, hl, hm, hz, _, hcell, hwz⟩
  · simp [Value.cells] at hcs
    obtain ⟨rfl, rfl, rfl⟩ := hcs
    exact ⟨0, 0, fun _ => 0, fun h => absurd h (Nat.lt_irrefl _), fun j h => absurd h (Nat.not_lt_zero _)⟩
  · simp [Value.cells] at hcs
    obtain ⟨rfl, rfl, rfl⟩ := hcs
    simp only [if_true] at hz
    obtain ⟨b, o, sp⟩ := y
    by_cases h0 : 0 < len
    · have hsp : sp = none := by simpa [Addr.add] using World.cell?_spot (hcell 0 (by omega))
      subst hsp
      exact ⟨b, o, fun j => zs.getD j 0, fun _ => rfl, fun j hj => by rw [← add_plain]; exact hcell j (by omega)⟩
    · exact ⟨0, 0, fun _ => 0, fun h => absurd h h0, fun j h => by omega⟩

theorem bools_view {H : Type} {enc : TypeId × Value → H} {W : World} {a : Option Addr} {len cap fuel : Nat} {x : DataW H × List MemPlace}
    (hf : DataW.trod enc Yba.prog W 0 (fun _ => true) true fuel 23 (Value.slice a len cap).cells.toList = some x) : IsBools W a len := by
  rcases open_slice Yba.underlying23 hf with ⟨hcs, _⟩ | ⟨y, l, c, m, n, D, Pl, hcs, _, hl, hm, hmm, _, hel⟩
  · simp [Value.cells] at hcs
    obtain ⟨rfl, rfl, rfl⟩ := hcs
    exact ⟨0, 0, fun _ => false, fun h => absurd h (Nat.lt_irrefl _), fun j h => absurd h (Nat.not_lt_zero _)⟩
  · simp [Value.cells] at hcs
    obtain ⟨rfl, rfl, rfl⟩ := hcs
    simp only [if_true] at hmm
    subst hmm
    rw [cells4] at hel
    obtain ⟨X, hX⟩ := choose_lt (α := Bool) (n := len) (p := fun i z => W.cell? ((y.add (i * 1)).add 0) = some (.bool z)) (fun i hi => by
      obtain ⟨cs', h1, h2⟩ := hel i (by omega)
      obtain ⟨_, hlen, hc⟩ := World.cells?_some h1
      match cs', hlen with
      | [c0], _ =>
        obtain ⟨z0, e0, _⟩ := DataW.trod_bool Yba.underlying4 h2
        simp at e0
        subst e0
        exact ⟨z0, hc 0 (by omega)⟩)
    obtain ⟨b, o, sp⟩ := y
    by_cases h0 : 0 < len
    · have hsp : sp = none := by simpa [Addr.add] using World.cell?_spot (hX 0 h0)
      subst hsp
      refine ⟨b, o, X, fun _ => rfl, fun j hj => ?_⟩
      have := hX j hj
      rw [addr_add1, addr_add1, Nat.add_zero, Nat.mul_one] at this
      exact this
    · exact ⟨0, 0, fun _ => false, fun h => absurd h h0, fun j h => by omega⟩

set_option maxHeartbeats 800000 in
set_option maxRecDepth 100000 in
theorem walk (a0 : Option Addr) (n c0 : Nat) (a1 : Option Addr) (m c1 : Nat) (w : World) (w0 : IsBools w a0 n) (w1 : IsNums w a1 m) :
    Calls Yba.prog 4 #[.slice a0 n c0, .slice a1 m c1] w fun e w' => e = .returned (.bool true) ∧ Below w.heap.size w w' := by
  by_cases s1 : n ≤ 4096
  · obtain ⟨kb, ko, ks, h0, gk⟩ := w0
    obtain ⟨vb, vo, vs, h1, gv⟩ := w1
    exact lawB_any a0 a1 n c0 m c1 kb ko vb vo ks vs w s1 h0 gk h1 gv
  · have q0 : (4096 : Int) < (n : Int) := by omega
    clear w0 w1 s1
    go_enter Yba.func4, Yba.ntmps4
    go_wp2
    go_ret
    exact ⟨rfl, Below.refl _ _⟩

set_option maxRecDepth 100000 in
theorem lifted (os : Os) (started : os.Started) (H : Type) (enc : TypeId × Value → H) :
    ReturnsInHanded {} Yba.checked os 4 .any (Rows.lawS5425BWholeSpec.pre6 enc Yba.prog Yba.f4 Rows.lawS5425BWholeRow.domain false) (Rows.lawS5425BWholeSpec.post enc Yba.prog Yba.f4 false true false false) := by
  refine returnsInHanded_of_change (C := Yba.checked) own started (by kernel_rfl) Yba.func4
    (ChangeSpec.witness6 (enc := enc) (C := Yba.checked) false ⟨#[], #[.slice none 0 0, .slice none 0 0], []⟩ 8 (by kernel_rfl) (by kernel_rfl) (by kernel_rfl) (by kernel_rfl)) ?_
  intro W base args ds gs before hval0 hW hcnd _
  have hval : ∀ (j : Nat) t v, Yba.f4.params[j]? = some t → args[j]? = some v → Value.okWide Yba.prog W .any base t v := hval0
  have hW' := hW
  obtain ⟨p, q, hA0, hV, rfl, hfz, hnd⟩ := hW
  have hA : DataW.TrodAll enc Yba.prog W 0 (fun _ => true) true Yba.f4.params.toList args.toList ds p := hA0
  rw [Yba.params4] at hA hval
  obtain ⟨v0, vs0, d0, ds0, p0, q0, hargs, rfl, rfl, h0, r0⟩ := trodAll_cons hA
  obtain ⟨v1, vs1, d1, ds1, p1, q1, rfl, rfl, rfl, h1, r1⟩ := trodAll_cons r0
  obtain ⟨rfl, rfl, rfl⟩ := trodAll_nil r1
  obtain rfl : args = #[v0, v1] := by cases args; simp_all
  obtain ⟨rfl, rfl⟩ := trodVars_none hV
  obtain ⟨a0, len0, cap0, rfl⟩ := okWide_slice Yba.underlying23 (hval 0 23 v0 rfl rfl)
  have k0 := h0
  have lt0 : ∀ x ∈ p0, x.block < W.heap.size := by obtain ⟨m, hm⟩ := k0; exact DataW.trod_lt m _ _ _ hm
  have w0 : IsBools W a0 len0 := by obtain ⟨fuel, hf⟩ := h0; exact bools_view hf
  obtain ⟨a1, len1, cap1, rfl⟩ := okWide_slice Yba.underlying24 (hval 1 24 v1 rfl rfl)
  have k1 := h1
  have lt1 : ∀ x ∈ p1, x.block < W.heap.size := by obtain ⟨m, hm⟩ := k1; exact DataW.trod_lt m _ _ _ hm
  have w1 : IsNums W a1 len1 := by obtain ⟨fuel, hf⟩ := h1; exact nums_view hf
  clear hA0 hval0
  refine (walk a0 len0 cap0 a1 len1 cap1 W w0 w1).mono fun e W' ⟨he, bel⟩ => ?_
  subst he
  exact ⟨_, rfl, _, _, _, [], _, [], hW', trodAll_mk1 (shut_bool Yba.underlying4 _), (trodAll_cons_mk (Below.trod laidOut (by kernel_rfl) (of_decide_eq_true (by kernel_rfl)) k0 bel lt0) (trodAll_cons_mk (Below.trod laidOut (by kernel_rfl) (of_decide_eq_true (by kernel_rfl)) k1 bel lt1) trodAll_mk0)), rfl, bel.frame _, fun h => by cases h⟩

theorem over : Rows.lawS5425BWholeRow.holds Yba.pinned (OpenSpec.ofChange Rows.lawS5425BWholeSpec) :=
  OpenClaim.holds_of_wide 4 Yba.f4 rfl rfl rfl rfl rfl rfl rfl ⟨rfl, rfl, rfl, rfl, rfl⟩ rfl rfl rfl rfl rfl (by kernel_rfl) Yba.func4 (by kernel_rfl)
    (of_decide_eq_true (by kernel_rfl)) (by unfold Func.isWrapper; first | (rw [if_pos (by decide +kernel)]; kernel_rfl) | (rw [if_neg (by decide +kernel)]; exact ⟨rfl, rfl⟩))
    (fun os started H enc _ => lifted os started H enc)

/-- THE STATEMENT -/
theorem proved : Rows.LawS5425BWholeSaid := over
end Go.Proofs.Ybulkdhie.lawS5425BWhole
