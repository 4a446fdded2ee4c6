/-
  The proof of 'Rows.LawS5429AWholeSaid': the arguments opened, the walk (YbulkdhkiA6), the row's step.
-/
import Derived.Test.YbulkdhkiRows
import Derived.WalkKit
import Derived.ProofKit
import Derived.OpenShut
import Derived.ShutString
import Derived.SizedLaws
import Derived.ChangeOld
import Derived.Below
import Derived.Deep.Slices
import Derived.Deep.Strs
import Derived.Test.YbulkdhkiA6
namespace Go.Proofs.Ybulkdhki.lawS5429AWhole
open Go.ChangeShapes Go.WideShapes Go.ChangeAt Go.RowKit Go.Deep
set_option linter.unusedVariables false

theorem own : ownKnob Yba.prog.godebug = none := by kernel_rfl
theorem laidOut : laidOutB Yba.prog = true := by kernel_rfl
theorem cells5 : Yba.prog.cellsOf 5 = 1 := by kernel_rfl
theorem cells4 : Yba.prog.cellsOf 4 = 1 := by kernel_rfl
theorem cells22 : Yba.prog.cellsOf 22 = 1 := by kernel_rfl
theorem cells64 : Yba.prog.cellsOf 64 = 2 := by kernel_rfl
theorem cells68 : Yba.prog.cellsOf 68 = 3 := by kernel_rfl

theorem addr_add1 (b o j : Nat) : (⟨b, o, none⟩ : Addr).add j = ⟨b, o + j, none⟩ := by
  by_cases h : j = 0
  · subst h; simp [Addr.add]
  · simp [Addr.add, h]

/-- What the walk is told of a slice of bytes. -/
def IsBytes (w : World) (a : Option Addr) (len : Nat) : Prop :=
  ∃ (b o : Nat) (f : Nat → Nat), (0 < len → a = some ⟨b, o, none⟩) ∧ ∀ j, j < len → w.cell? ⟨b, o + j, none⟩ = some (.int .u8 (f j : Nat)) ∧ f j < 256
/-- .. of the slice of ZzS5429AFrom. -/
def IsFroms (w : World) (a : Option Addr) (len : Nat) : Prop :=
  ∃ (b o : Nat) (f : Nat → Nat) (h : Nat → Int), (0 < len → a = some ⟨b, o, none⟩) ∧ ∀ j, j < len → w.cell? ⟨b, o + j * 2, none⟩ = some (.int .u8 (f j : Nat)) ∧ w.cell? ⟨b, o + j * 2 + 1, none⟩ = some (.int .u32 (h j)) ∧ f j < 256
/-- .. of the slice of ZzS5429AProp. -/
def IsProps (w : World) (a : Option Addr) (len : Nat) : Prop :=
  ∃ (b o : Nat) (f : Nat → Nat) (n : Nat → Bool) (s : Nat → Int), (0 < len → a = some ⟨b, o, none⟩) ∧ ∀ j, j < len → w.cell? ⟨b, o + j * 3, none⟩ = some (.int .u8 (f j : Nat)) ∧ w.cell? ⟨b, o + j * 3 + 1, none⟩ = some (.bool (n j)) ∧ w.cell? ⟨b, o + j * 3 + 2, none⟩ = some (.int .u32 (s j)) ∧ f j < 256

/-- How long the datum is. -/
def HasLen {H : Type} (d : DataW H) (len : Nat) : Prop := len = 0 ∨ ∃ elems spare, d = .slice elems spare ∧ elems.length = len

theorem byte_nat {z : Int} (h : (Lit.int .u8 z).wf = true) : z = ((z.toNat : Nat) : Int) ∧ z.toNat < 256 := by
  have e1 : IntKind.u8.min = 0 := rfl
  have e2 : IntKind.u8.max = 255 := rfl
  have : 0 ≤ z ∧ z ≤ 255 := by simpa [Lit.wf, e1, e2] using h
  omega

theorem bytes_view {H : Type} {enc : TypeId × Value → H} {W : World} {a : Option Addr} {len cap fuel : Nat} {x : DataW H × List MemPlace}
    (hf : DataW.trod enc Yba.prog W 0 (fun _ => true) true fuel 23 (Value.slice a len cap).cells.toList = some x) : IsBytes W a len ∧ HasLen x.1 len := by
  rcases open_slice Yba.underlying23 hf with ⟨hcs, _⟩ | ⟨y, l, c, m, n, D, Pl, hcs, _, hl, hm, hmm, hx, hel⟩
  · simp [Value.cells] at hcs
    obtain ⟨rfl, rfl, rfl⟩ := hcs
    exact ⟨⟨0, 0, fun _ => 0, fun h => absurd h (Nat.lt_irrefl _), fun j h => absurd h (Nat.not_lt_zero _)⟩, .inl rfl⟩
  · simp [Value.cells] at hcs
    obtain ⟨rfl, rfl, rfl⟩ := hcs
    simp only [if_true] at hmm
    subst hmm
    refine ⟨?_, .inr ⟨_, _, by rw [hx], by simp⟩⟩
    rw [cells5] at hel
    obtain ⟨X, hX⟩ := choose_lt (α := Int) (n := len) (p := fun i z => W.cell? ((y.add (i * 1)).add 0) = some (.int .u8 z) ∧ (Lit.int .u8 z).wf = true) (fun i hi => by
      obtain ⟨cs', h1, h2⟩ := hel i (by omega)
      obtain ⟨_, hlen, hc⟩ := World.cells?_some h1
      match cs', hlen with
      | [c0], _ =>
        obtain ⟨z0, e0, _, w0⟩ := DataW.trod_int Yba.underlying5 h2
        simp at e0
        subst e0
        exact ⟨z0, hc 0 (by omega), w0⟩)
    obtain ⟨b, o, sp⟩ := y
    by_cases h0 : 0 < len
    · have hsp : sp = none := by simpa [Addr.add] using World.cell?_spot (hX 0 h0).1
      subst hsp
      refine ⟨b, o, fun j => (X j).toNat, fun _ => rfl, fun j hj => ?_⟩
      have := (hX j hj).1
      rw [addr_add1, addr_add1, Nat.add_zero, Nat.mul_one] at this
      have hb := byte_nat (hX j hj).2
      exact ⟨by rw [this, ← hb.1], hb.2⟩
    · exact ⟨0, 0, fun _ => 0, fun h => absurd h h0, fun j h => by omega⟩

theorem froms_view {H : Type} {enc : TypeId × Value → H} {W : World} {a : Option Addr} {len cap fuel : Nat} {x : DataW H × List MemPlace}
    (hf : DataW.trod enc Yba.prog W 0 (fun _ => true) true fuel 24 (Value.slice a len cap).cells.toList = some x) : IsFroms W a len ∧ HasLen x.1 len := by
  rcases open_slice Yba.underlying24 hf with ⟨hcs, _⟩ | ⟨y, l, c, m, n, D, Pl, hcs, _, hl, hm, hmm, hx, hel⟩
  · simp [Value.cells] at hcs
    obtain ⟨rfl, rfl, rfl⟩ := hcs
    exact ⟨⟨0, 0, fun _ => 0, fun _ => 0, fun h => absurd h (Nat.lt_irrefl _), fun j h => absurd h (Nat.not_lt_zero _)⟩, .inl rfl⟩
  · simp [Value.cells] at hcs
    obtain ⟨rfl, rfl, rfl⟩ := hcs
    simp only [if_true] at hmm
    subst hmm
    refine ⟨?_, .inr ⟨_, _, by rw [hx], by simp⟩⟩
    rw [cells64] at hel
    obtain ⟨X, hX⟩ := choose_lt (α := Int × Int) (n := len) (p := fun i z => W.cell? ((y.add (i * 2)).add 0) = some (.int .u8 z.1) ∧ W.cell? ((y.add (i * 2)).add 1) = some (.int .u32 z.2) ∧ (Lit.int .u8 z.1).wf = true) (fun i hi => by
      obtain ⟨cs', h1, h2⟩ := hel i (by omega)
      obtain ⟨_, hlen, hc⟩ := World.cells?_some h1
      match cs', hlen with
      | [c0, c1], _ =>
        obtain ⟨y0, y1, n', _, _, t0, t1⟩ := trod_struct2 Yba.underlying64 h2
        simp [cells5, cells22] at t0 t1
        obtain ⟨z0, e0, _, w0⟩ := DataW.trod_int Yba.underlying5 t0
        obtain ⟨z1, e1, _, w1⟩ := DataW.trod_int Yba.underlying22 t1
        simp at e0 e1
        subst e0 e1
        exact ⟨(z0, z1), hc 0 (by omega), hc 1 (by omega), w0⟩)
    obtain ⟨b, o, sp⟩ := y
    by_cases h0 : 0 < len
    · have hsp : sp = none := by simpa [Addr.add] using World.cell?_spot (hX 0 h0).1
      subst hsp
      refine ⟨b, o, fun j => (X j).1.toNat, fun j => (X j).2, fun _ => rfl, fun j hj => ?_⟩
      have t0 := (hX j hj).1
      have t1 := (hX j hj).2.1
      rw [addr_add1, addr_add1, Nat.add_zero] at t0
      rw [addr_add1, addr_add1] at t1
      have hb := byte_nat (hX j hj).2.2
      exact ⟨by rw [t0, ← hb.1], t1, hb.2⟩
    · exact ⟨0, 0, fun _ => 0, fun _ => 0, fun h => absurd h h0, fun j h => by omega⟩

theorem props_view {H : Type} {enc : TypeId × Value → H} {W : World} {a : Option Addr} {len cap fuel : Nat} {x : DataW H × List MemPlace}
    (hf : DataW.trod enc Yba.prog W 0 (fun _ => true) true fuel 25 (Value.slice a len cap).cells.toList = some x) : IsProps W a len ∧ HasLen x.1 len := by
  rcases open_slice Yba.underlying25 hf with ⟨hcs, _⟩ | ⟨y, l, c, m, n, D, Pl, hcs, _, hl, hm, hmm, hx, hel⟩
  · simp [Value.cells] at hcs
    obtain ⟨rfl, rfl, rfl⟩ := hcs
    exact ⟨⟨0, 0, fun _ => 0, fun _ => false, fun _ => 0, fun h => absurd h (Nat.lt_irrefl _), fun j h => absurd h (Nat.not_lt_zero _)⟩, .inl rfl⟩
  · simp [Value.cells] at hcs
    obtain ⟨rfl, rfl, rfl⟩ := hcs
    simp only [if_true] at hmm
    subst hmm
    refine ⟨?_, .inr ⟨_, _, by rw [hx], by simp⟩⟩
    rw [cells68] at hel
    obtain ⟨X, hX⟩ := choose_lt (α := Int × Bool × Int) (n := len) (p := fun i z => W.cell? ((y.add (i * 3)).add 0) = some (.int .u8 z.1) ∧ W.cell? ((y.add (i * 3)).add 1) = some (.bool z.2.1) ∧ W.cell? ((y.add (i * 3)).add 2) = some (.int .u32 z.2.2) ∧ (Lit.int .u8 z.1).wf = true) (fun i hi => by
      obtain ⟨cs', h1, h2⟩ := hel i (by omega)
      obtain ⟨_, hlen, hc⟩ := World.cells?_some h1
      match cs', hlen with
      | [c0, c1, c2], _ =>
        obtain ⟨y0, y1, y2, n', _, _, t0, t1, t2⟩ := trod_struct3 Yba.underlying68 h2
        simp [cells5, cells4, cells22] at t0 t1 t2
        obtain ⟨z0, e0, _, w0⟩ := DataW.trod_int Yba.underlying5 t0
        obtain ⟨z1, e1, _⟩ := DataW.trod_bool Yba.underlying4 t1
        obtain ⟨z2, e2, _, w2⟩ := DataW.trod_int Yba.underlying22 t2
        simp at e0 e1 e2
        subst e0 e1 e2
        exact ⟨(z0, z1, z2), hc 0 (by omega), hc 1 (by omega), hc 2 (by omega), w0⟩)
    obtain ⟨b, o, sp⟩ := y
    by_cases h0 : 0 < len
    · have hsp : sp = none := by simpa [Addr.add] using World.cell?_spot (hX 0 h0).1
      subst hsp
      refine ⟨b, o, fun j => (X j).1.toNat, fun j => (X j).2.1, fun j => (X j).2.2, fun _ => rfl, fun j hj => ?_⟩
      have t0 := (hX j hj).1
      have t1 := (hX j hj).2.1
      have t2 := (hX j hj).2.2.1
      rw [addr_add1, addr_add1, Nat.add_zero] at t0
      rw [addr_add1, addr_add1] at t1 t2
      have hb := byte_nat (hX j hj).2.2.2
      exact ⟨by rw [t0, ← hb.1], t1, t2, hb.2⟩
    · exact ⟨0, 0, fun _ => 0, fun _ => false, fun _ => 0, fun h => absurd h h0, fun j h => by omega⟩

theorem len_le {H : Type} {ts : List TypeId} {ds : List (DataW H)} (h : (DataW.weightsEach Yba.prog ts ds).all (· ≤ reachBytes) = true) {j : Nat} {t e : TypeId} {d : DataW H} {len : Nat} (ht : ts[j]? = some t) (hd : ds[j]? = some d)
    (hu : Yba.prog.underlying t = some (.slice e)) (hb : decide (1 ≤ Yba.prog.bytesOf e) = true) (hv : HasLen d len) : len ≤ 140737488351232 := by
  rcases hv with rfl | ⟨elems, spare, rfl, rfl⟩
  · exact Nat.zero_le _
  · have h1 := sized_slice h ht hd hu
    have h2 : 1 ≤ Yba.prog.bytesOf e := of_decide_eq_true hb
    have h3 : elems.length ≤ (elems.length + spare.length) * Yba.prog.bytesOf e := Nat.le_trans (Nat.le_add_right _ _) (Nat.le_mul_of_pos_right _ h2)
    have e1 : reachBytes = 140737488351232 := rfl
    omega

set_option maxHeartbeats 800000 in
set_option maxRecDepth 100000 in
theorem walk (sq : Int) (a1 : Option Addr) (n1 c1 : Nat) (a2 : Option Addr) (n2 c2 : Nat) (a3 : Option Addr) (n3 c3 : Nat) (a4 : Option Addr) (n4 c4 : Nat) (w : World) (w1 : IsBytes w a1 n1) (w2 : IsFroms w a2 n2) (w3 : IsProps w a3 n3) (w4 : IsBytes w a4 n4)
    (l1 : n1 ≤ 140737488351232) (l2 : n2 ≤ 140737488351232) (l3 : n3 ≤ 140737488351232) (l4 : n4 ≤ 140737488351232) :
    Calls Yba.prog 3 #[.int .u32 sq, .slice a1 n1 c1, .slice a2 n2 c2, .slice a3 n3 c3, .slice a4 n4 c4] w fun e w' => e = .returned (.bool true) ∧ Below w.heap.size w w' := by
  by_cases s1 : n1 + n2 + n3 + n4 ≤ 1048576
  · obtain ⟨b1, o1, od, h1, g1⟩ := w1
    obtain ⟨b2, o2, fk, fh, h2, g2⟩ := w2
    obtain ⟨b3, o3, pk, pn, ps, h3, g3⟩ := w3
    obtain ⟨b4, o4, tr, h4, g4⟩ := w4
    exact lawA_any sq a1 a2 a3 a4 n1 c1 n2 c2 n3 c3 n4 c4 b1 o1 b2 o2 b3 o3 b4 o4 od fk tr pk fh ps pn w s1 h1 g1 h2 g2 h3 g3 h4 g4
  · have q0 : (1048576 : Int) < (n1 : Int) + n2 + n3 + n4 := by omega
    clear w1 w2 w3 w4 s1
    go_enter Yba.func3, Yba.ntmps3
    go_wp2
    go_ret
    exact ⟨rfl, Below.refl _ _⟩

set_option maxRecDepth 100000 in
theorem lifted (os : Os) (started : os.Started) (H : Type) (enc : TypeId × Value → H) :
    ReturnsInHanded {} Yba.checked os 3 .any (Rows.lawS5429AWholeSpec.pre6 enc Yba.prog Yba.f3 Rows.lawS5429AWholeRow.domain false) (Rows.lawS5429AWholeSpec.post enc Yba.prog Yba.f3 false true false false) := by
  refine returnsInHanded_of_change_sized (C := Yba.checked) own started (by kernel_rfl) Yba.func3
    (ChangeSpec.witness6 (enc := enc) (C := Yba.checked) false ⟨#[], #[.int .u32 0, .slice none 0 0, .slice none 0 0, .slice none 0 0, .slice none 0 0], []⟩ 8 (by kernel_rfl) (by kernel_rfl) (by kernel_rfl) (by kernel_rfl)) ?_
  intro W base args ds gs before hval0 hW hcnd hsz0 _
  have hsz : (DataW.weightsEach Yba.prog (Yba.f3.params.toList ++ Rows.lawS5429AWholeSpec.plain.varTypes Yba.prog) (ds ++ gs)).all (· ≤ reachBytes) = true := hsz0
  clear hsz0
  have hval : ∀ (j : Nat) t v, Yba.f3.params[j]? = some t → args[j]? = some v → Value.okWide Yba.prog W .any base t v := hval0
  have hW' := hW
  obtain ⟨p, q, hA0, hV, rfl, hfz, hnd⟩ := hW
  have hA : DataW.TrodAll enc Yba.prog W 0 (fun _ => true) true Yba.f3.params.toList args.toList ds p := hA0
  rw [Yba.params3] at hA hval hsz
  obtain ⟨v0, vs0, d0, ds0, p0, q0, hargs, rfl, rfl, h0, r0⟩ := trodAll_cons hA
  obtain ⟨v1, vs1, d1, ds1, p1, q1, rfl, rfl, rfl, h1, r1⟩ := trodAll_cons r0
  obtain ⟨v2, vs2, d2, ds2, p2, q2, rfl, rfl, rfl, h2, r2⟩ := trodAll_cons r1
  obtain ⟨v3, vs3, d3, ds3, p3, q3, rfl, rfl, rfl, h3, r3⟩ := trodAll_cons r2
  obtain ⟨v4, vs4, d4, ds4, p4, q4, rfl, rfl, rfl, h4, r4⟩ := trodAll_cons r3
  obtain ⟨rfl, rfl, rfl⟩ := trodAll_nil r4
  obtain rfl : args = #[v0, v1, v2, v3, v4] := by cases args; simp_all
  obtain ⟨rfl, rfl⟩ := trodVars_none hV
  obtain ⟨a0, rfl, rfl, rfl, w0⟩ := open_int Yba.underlying22 (hval 0 22 v0 rfl rfl) h0
  obtain ⟨a1, len1, cap1, rfl⟩ := okWide_slice Yba.underlying23 (hval 1 23 v1 rfl rfl)
  have k1 := h1
  have lt1 : ∀ x ∈ p1, x.block < W.heap.size := by obtain ⟨m, hm⟩ := k1; exact DataW.trod_lt m _ _ _ hm
  have w1 : IsBytes W a1 len1 ∧ HasLen d1 len1 := by obtain ⟨fuel, hf⟩ := h1; exact bytes_view hf
  obtain ⟨a2, len2, cap2, rfl⟩ := okWide_slice Yba.underlying24 (hval 2 24 v2 rfl rfl)
  have k2 := h2
  have lt2 : ∀ x ∈ p2, x.block < W.heap.size := by obtain ⟨m, hm⟩ := k2; exact DataW.trod_lt m _ _ _ hm
  have w2 : IsFroms W a2 len2 ∧ HasLen d2 len2 := by obtain ⟨fuel, hf⟩ := h2; exact froms_view hf
  obtain ⟨a3, len3, cap3, rfl⟩ := okWide_slice Yba.underlying25 (hval 3 25 v3 rfl rfl)
  have k3 := h3
  have lt3 : ∀ x ∈ p3, x.block < W.heap.size := by obtain ⟨m, hm⟩ := k3; exact DataW.trod_lt m _ _ _ hm
  have w3 : IsProps W a3 len3 ∧ HasLen d3 len3 := by obtain ⟨fuel, hf⟩ := h3; exact props_view hf
  obtain ⟨a4, len4, cap4, rfl⟩ := okWide_slice Yba.underlying23 (hval 4 23 v4 rfl rfl)
  have k4 := h4
  have lt4 : ∀ x ∈ p4, x.block < W.heap.size := by obtain ⟨m, hm⟩ := k4; exact DataW.trod_lt m _ _ _ hm
  have w4 : IsBytes W a4 len4 ∧ HasLen d4 len4 := by obtain ⟨fuel, hf⟩ := h4; exact bytes_view hf
  clear hA0 hval0
  simp only [List.append_nil] at hW'
  have z1 := len_le hsz (j := 1) (t := 23) (e := 5) rfl rfl Yba.underlying23 (by kernel_rfl) w1.2
  have z2 := len_le hsz (j := 2) (t := 24) (e := 64) rfl rfl Yba.underlying24 (by kernel_rfl) w2.2
  have z3 := len_le hsz (j := 3) (t := 25) (e := 68) rfl rfl Yba.underlying25 (by kernel_rfl) w3.2
  have z4 := len_le hsz (j := 4) (t := 23) (e := 5) rfl rfl Yba.underlying23 (by kernel_rfl) w4.2
  refine (walk a0 a1 len1 cap1 a2 len2 cap2 a3 len3 cap3 a4 len4 cap4 W w1.1 w2.1 w3.1 w4.1 z1 z2 z3 z4).mono fun e W' ⟨he, bel⟩ => ?_
  subst he
  exact ⟨_, rfl, _, _, _, [], _, [], hW', trodAll_mk1 (shut_bool Yba.underlying4 _), (trodAll_cons_mk (shut_int Yba.underlying22 w0) (trodAll_cons_mk (Below.trod laidOut (by kernel_rfl) (of_decide_eq_true (by kernel_rfl)) k1 bel lt1) (trodAll_cons_mk (Below.trod laidOut (by kernel_rfl) (of_decide_eq_true (by kernel_rfl)) k2 bel lt2) (trodAll_cons_mk (Below.trod laidOut (by kernel_rfl) (of_decide_eq_true (by kernel_rfl)) k3 bel lt3) (trodAll_cons_mk (Below.trod laidOut (by kernel_rfl) (of_decide_eq_true (by kernel_rfl)) k4 bel lt4) trodAll_mk0))))), rfl, bel.frame _, fun h => by cases h⟩

theorem over : Rows.lawS5429AWholeRow.holds Yba.pinned (OpenSpec.ofChange Rows.lawS5429AWholeSpec) :=
  OpenClaim.holds_of_wide 3 Yba.f3 rfl rfl rfl rfl rfl rfl rfl ⟨rfl, rfl, rfl, rfl, rfl⟩ rfl rfl rfl rfl rfl (by kernel_rfl) Yba.func3 (by kernel_rfl)
    (of_decide_eq_true (by kernel_rfl)) (by unfold Func.isWrapper; first | (rw [if_pos (by decide +kernel)]; kernel_rfl) | (rw [if_neg (by decide +kernel)]; exact ⟨rfl, rfl⟩))
    (fun os started H enc _ => lifted os started H enc)

/-- THE STATEMENT -/
theorem proved : Rows.LawS5429AWholeSaid := over
end Go.Proofs.Ybulkdhki.lawS5429AWhole
