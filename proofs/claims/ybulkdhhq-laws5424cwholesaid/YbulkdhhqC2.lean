/-
  The law's own helpers and the Records' methods: zzs5424cplaces (8), zzs5424cfirst (9), dropped (15), final (29), Final (32), readPlace (23), first (17), last (24).
-/
import Derived.Test.YbulkdhhqC1
import Derived.WalkSpells
import Derived.WalkLawsBesides
import Derived.RegionTactic
import Derived.Deep.RegionWith
namespace Go.Proofs.Ybulkdhhq
open Go.RowKit

/-- The first place of a record of the law, as a number from 0 on. -/
def fstI (f : Int) : Int := if f < 0 then -(f + 1) else f

theorem fstI_bd (f : Int) (h0 : -9223372036854775808 ≤ f) (h1 : f ≤ 9223372036854775807) : 0 ≤ fstI f ∧ fstI f ≤ 9223372036854775807 := by
  unfold fstI; split <;> omega

theorem first_law (d : Bool) (f l : Int) (w : World) (h0 : -9223372036854775808 ≤ f) (h1 : f ≤ 9223372036854775807) :
    Calls Yba.prog 9 #[.agg #[.bool d, .int .i64 f, .int .i64 l]] w fun e w' => e = .returned (.int .i64 (fstI f)) ∧ w' = w.alloc (.cells #[.bool d, .int .i64 f, .int .i64 l] 46) := by
  by_cases hf : f < 0
  · have e : Hid (fstI f = -(f + 1)) := by show fstI f = _; unfold fstI; rw [if_pos hf]
    go_enter Yba.func9, Yba.ntmps9
    go_wp2
    go_ret
    exact ⟨by rw [e.out]; rfl, rfl⟩
  · have e : Hid (fstI f = f) := by show fstI f = _; unfold fstI; rw [if_neg hf]
    go_enter Yba.func9, Yba.ntmps9
    go_wp2
    go_ret
    exact ⟨by rw [e.out]; rfl, rfl⟩

/-- What the slice reads: the bytes l from ⟨g, o⟩ on. -/
def Byts (w : World) (g o : Nat) (l : List UInt8) : Prop := ∀ j (hj : j < l.length), w.cell? ⟨g, o + j, none⟩ = some (.int .u8 (l[j]).toNat)

/-- The bytes of a record's places. -/
def plc (f l : Nat) : List UInt8 := Lib.uvarint f ++ (Lib.uvarint 0 ++ Lib.beBytes 8 l)

theorem owns_byts {w : World} {B n : Nat} {v : Value} {l : List UInt8} (h : w.ownsRow B 5 1 v n (Lib.byteCells l)) (hn : l.length = n) (h0 : 0 < n) :
    ∃ g c, v = .slice (some ⟨g, 0, none⟩) n c ∧ B ≤ g ∧ g < w.heap.size ∧ Byts w g 0 l ∧ n ≤ c := by
  have hk := h
  obtain ⟨h1, h2⟩ := h
  rcases h2 with ⟨h2, h3⟩ | ⟨g, cap, cur, rfl, hg, hh, r⟩
  · omega
  · refine ⟨g, cap, rfl, hg, lt_of_block hh, fun j hj => ?_, r.1⟩
    rw [Nat.zero_add, hk.cellAt j (by omega)]
    simp [Lib.byteCells, hj]

theorem Byts.below {w w' : World} {B g o : Nat} {l : List UInt8} (h : Byts w g o l) (hb : Below B w w') (hg : g < B) : Byts w' g o l := fun j hj => by
  rw [hb.cell (p := ⟨g, o + j, none⟩) hg]; exact h j hj

theorem Byts.right {w : World} {g o : Nat} {l r : List UInt8} (h : Byts w g o (l ++ r)) : Byts w g (o + l.length) r := fun j hj => by
  have := h (l.length + j) (by rw [List.length_append]; omega)
  rw [Nat.add_assoc, this]
  simp

set_option maxHeartbeats 800000 in
theorem places_any (f l : Int) (w : World) (hf0 : 0 ≤ f) (hf1 : f ≤ 9223372036854775807) :
    Calls Yba.prog 8 #[.int .i64 f, .int .i64 l] w fun e w' => ∃ g c, e = .returned (.slice (some ⟨g, 0, none⟩) (plc f.toNat (IntKind.u64.wrap l).toNat).length c) ∧ w.heap.size ≤ g ∧ g < w'.heap.size ∧ Byts w' g 0 (plc f.toNat (IntKind.u64.wrap l).toNat) ∧ (plc f.toNat (IntKind.u64.wrap l).toNat).length ≤ c ∧ Below w.heap.size w w' := by
  obtain ⟨x, rfl⟩ := Int.eq_ofNat_of_zero_le hf0
  have hx : x < 18446744073709551616 := by omega
  have hlx := Lib.uvarint_length64 hx
  have hl0 := Lib.uvarint_length64 (x := 0) (by omega)
  obtain ⟨y, hy⟩ : ∃ y : Nat, IntKind.u64.wrap l = (y : Int) := ⟨(IntKind.u64.wrap l).toNat, by rw [Int.toNat_of_nonneg]; rw [IntKind.wrap_u64]; omega⟩
  have hy1 : y < 18446744073709551616 := by rw [IntKind.wrap_u64] at hy; omega
  have HY : Hid (IntKind.u64.wrap l = (y : Int)) := hy
  go_enter Yba.func8, Yba.ntmps8
  go_wp2_with fail
  refine (appendUvarint_any w.heap.size 0 x hx _ [] w (World.ownsRow_nil _ _ _ _) (Nat.le_refl _) (by omega)).mono ?_
  rintro e w1 ⟨v1, rfl, own1, bel1⟩
  go_wp2_with fail
  refine (appendUvarint_any w.heap.size _ 0 (by omega) _ _ w1 own1 (by have := bel1.size; omega) (by omega)).mono ?_
  rintro e w2 ⟨v2, rfl, own2, bel2⟩
  go_wp2_with fail
  refine (appendUint64_any w.heap.size _ y hy1 _ _ w2 own2 (by have := bel1.size; have := bel2.size; omega) (by omega)).mono ?_
  rintro e w3 ⟨v3, rfl, own3, bel3⟩
  go_wp2
  go_ret
  have el : plc x y = Lib.uvarint x ++ (Lib.uvarint 0 ++ Lib.beBytes 8 y) := rfl
  have own4 : w3.ownsRow w.heap.size 5 1 v3 (plc x y).length (Lib.byteCells (plc x y)) := by
    have e1 : (plc x y).length = 0 + (Lib.uvarint x).length + (Lib.uvarint 0).length + 8 := by
      rw [el]; simp only [List.length_append, Lib.beBytes_length]; omega
    have e2 : Lib.byteCells (plc x y) = [] ++ Lib.byteCells (Lib.uvarint x) ++ Lib.byteCells (Lib.uvarint 0) ++ Lib.byteCells (Lib.beBytes 8 y) := by
      rw [el, Lib.byteCells_append, Lib.byteCells_append]; simp
    rw [e1, e2]; exact own3
  obtain ⟨g, c, rfl, hg, hg', hby, hcap⟩ := owns_byts own4 rfl (by have := Lib.uvarint_pos x; rw [el, List.length_append]; omega)
  refine ⟨g, c, ?_, hg, hg', ?_, ?_, (bel1.trans bel2).trans bel3⟩
  · rw [HY.out]; rfl
  · rw [HY.out]; exact hby
  · rw [HY.out]; exact hcap

theorem dropped_any (b : Nat) (a : Option Addr) (n c : Nat) (w : World) (h : w.cell? ⟨b, 1, none⟩ = some (.slice a n c)) :
    Calls Yba.prog 15 #[.pointer (some ⟨b, 0, none⟩)] w fun e w' => e = .returned (.bool a.isNone) ∧ w' = w := by
  have hq := fun w => Lib.run_eql_slice_nil (P := Yba.prog) w 23 5 a n c 0 0 Yba.underlying23
  go_enter Yba.func15, Yba.ntmps15
  go_wp2
  go_ret
  exact ⟨rfl, rfl⟩

theorem final_any (b : Nat) (w : World) (h : w.cell? ⟨b, 3, none⟩ = some (.int .i64 0)) :
    Calls Yba.prog 29 #[.pointer (some ⟨b, 0, none⟩)] w fun e w' => e = .returned (.bool false) ∧ w' = w := by
  go_enter Yba.func29, Yba.ntmps29
  go_wp2
  go_ret
  exact ⟨rfl, rfl⟩

set_option maxHeartbeats 1600000 in
/-- readPlace of the bytes of a record's places: where the first record starts; true. -/
theorem readPlace_any (g n c f : Nat) (rest : List UInt8) (w : World) (hf : f < 9223372036854775808) (hn : n ≤ 4096) (hl : (Lib.uvarint f ++ (Lib.uvarint 0 ++ rest)).length = n) (hc : Byts w g 0 (Lib.uvarint f ++ (Lib.uvarint 0 ++ rest))) (hnc : n ≤ c) (hr : 0 < rest.length) :
    Calls Yba.prog 23 #[.slice (some ⟨g, 0, none⟩) n c, .int .i64 0, .bool false] w fun e w' => ∃ v, e = .returned (.tuple #[.agg #[.int .i64 f, .int .u32 0, .int .u32 0], v, .bool true]) ∧ Below w.heap.size w w' := by
  have hpf := Lib.uvarint_pos f
  have hlf := Lib.uvarint_length64 (x := f) (by omega)
  have hl0 : (Lib.uvarint 0).length = 1 := by rw [Lib.uvarint_small (by omega)]; rfl
  obtain ⟨lf, HL⟩ : ∃ lf : Nat, Hid ((Lib.uvarint f).length = lf) := ⟨_, rfl⟩
  have b0 : 1 ≤ lf := by rw [← HL.out]; exact hpf
  have b1 : lf ≤ 10 := by rw [← HL.out]; exact hlf
  have b2 : lf + 1 + rest.length = n := by
    rw [List.length_append, List.length_append, hl0] at hl; rw [← HL.out]; omega
  have B2 : Hid (lf + 1 + rest.length = n) := b2
  have b3 : lf < n := by omega
  have b4 : lf < c := by omega
  have b5 : lf + 1 < n := by omega
  have b6 : lf + 1 < c := by omega
  have HC := hide hc
  have HL0 := hide hl0
  have HN := hide hl
  clear hpf hlf b2 hc hl0 hl
  go_enter Yba.func23, Yba.ntmps23
  go_wp2_with fail
  refine (uvarint_any g 0 n c f _ (Lib.uvarint 0 ++ rest) _ hf hn HN.out rfl (by exact fun j hj => cell_al _ (HC.out j hj))).mono ?_
  rintro e w1 ⟨rfl, rfl⟩
  rw [HL.out]
  go_wp2_with fail
  refine (uvarint_any g lf (n - lf) _ 0 (Lib.uvarint 0 ++ rest) rest _ (by omega) (by omega) (by rw [List.length_append, HL0.out]; have := B2.out; omega) rfl (by
    have h := Byts.right HC.out
    rw [HL.out, Nat.zero_add] at h
    exact fun j hj => cell_al _ (h j hj))).mono ?_
  rintro e w1 ⟨rfl, rfl⟩
  rw [HL0.out]
  go_wp2
  go_region
  go_wp2
  exact bodyPost_ret (v := .tuple #[.agg #[.int .i64 f, .int .u32 0, .int .u32 0], .slice (some ⟨g, lf + 1, none⟩) (n - (lf + 1)) (c - (lf + 1)), .bool true]) (by simp [results, Yba.results23, go_sem]) rfl ⟨_, rfl, (((Below.refl _ _).alloc (Nat.le_refl _) _).alloc (by simp) _).drew⟩

/-- What a Records in memory holds: block b; its bytes at g. -/
structure Rec (w : World) (b g n c : Nat) (f l : Nat) : Prop where
  f63 : f < 9223372036854775808
  l64 : l < 18446744073709551616
  len : (plc f l).length = n
  places : w.cell? ⟨b, 1, none⟩ = some (.slice (some ⟨g, 0, none⟩) n c)
  status : w.cell? ⟨b, 3, none⟩ = some (.int .i64 0)
  byts : Byts w g 0 (plc f l)
  cap : n ≤ c

theorem Rec.bd {w : World} {b g n c f l : Nat} (h : Rec w b g n c f l) : 10 ≤ n ∧ n ≤ 28 := by
  have h1 := h.len
  have h2 := Lib.uvarint_pos f
  have h3 := Lib.uvarint_length64 (x := f) (by have := h.f63; omega)
  have h4 : (Lib.uvarint 0).length = 1 := by rw [Lib.uvarint_small (by omega)]; rfl
  simp only [plc, List.length_append, Lib.beBytes_length, h4] at h1
  omega

theorem Rec.below {w w' : World} {b g n c f l B : Nat} (h : Rec w b g n c f l) (hb : Below B w w') (h1 : b < B) (h2 : g < B) : Rec w' b g n c f l :=
  ⟨h.f63, h.l64, h.len, by rw [hb.cell (p := ⟨b, 1, none⟩) h1]; exact h.places, by rw [hb.cell (p := ⟨b, 3, none⟩) h1]; exact h.status, h.byts.below hb h2, h.cap⟩

set_option maxHeartbeats 800000 in
theorem first_any (b g n c f l : Nat) (w : World) (h : Rec w b g n c f l) :
    Calls Yba.prog 17 #[.pointer (some ⟨b, 0, none⟩)] w fun e w' => e = .returned (.int .i64 f) ∧ Below w.heap.size w w' := by
  have hp := h.places
  have hbd := h.bd
  have H := hide h
  clear h
  go_enter Yba.func17, Yba.ntmps17
  go_wp2_with fail
  refine (readPlace_any g n c f (Lib.beBytes 8 l) w H.out.f63 (by omega) H.out.len H.out.byts H.out.cap (by rw [Lib.beBytes_length]; omega)).mono ?_
  rintro e w1 ⟨v, rfl, bel⟩
  go_wp2
  go_ret
  exact ⟨rfl, bel.alloc bel.size _⟩

theorem below_drew_left {w w' : World} (h : Below w.drew.heap.size w.drew w') : Below w.heap.size w w' := ⟨h.os, h.tape, h.output, h.size, h.block⟩

theorem wrap64_of (n : Int) : IntKind.i64.wrap n = wrap64 n := IntWalk.i64_left n

theorem be_back (l : Nat) (h : l < 18446744073709551616) : Lib.beNat (Lib.beBytes 8 l) = l := Lib.beNat_beBytes 8 l (by simpa using h)

/-- The number that the last eight bytes spell, as an int64. -/
theorem last_back (x : Int) (h0 : -9223372036854775808 ≤ x) (h1 : x ≤ 9223372036854775807) : wrap64 ((((IntKind.u64.wrap x).toNat : Nat) : Int)) = x := by
  rw [IntKind.wrap_u64]
  unfold wrap64
  omega

set_option maxHeartbeats 1600000 in
theorem last_any (b g n c f l : Nat) (w : World) (h : Rec w b g n c f l) :
    Calls Yba.prog 24 #[.pointer (some ⟨b, 0, none⟩)] w fun e w' => e = .returned (.int .i64 (wrap64 (l : Int))) ∧ Below w.heap.size w w' := by
  have hp := h.places
  have hst := h.status
  have hbd := h.bd
  have hb0 : (0 : Int) < (n : Int) := by omega
  have hcap := h.cap
  have H := hide h
  clear h
  obtain ⟨m, HM⟩ : ∃ m : Nat, Hid (n = m + 8) := ⟨n - 8, by show n = _; omega⟩
  have hby : Byts w g m (Lib.beBytes 8 l) := by
    have h1 := H.out.byts
    have h2 := H.out.len
    unfold plc at h1 h2
    rw [← List.append_assoc] at h1 h2
    have h3 := Byts.right h1
    rw [List.length_append, Lib.beBytes_length] at h2
    have h4 : 0 + (Lib.uvarint f ++ Lib.uvarint 0).length = m := by have := HM.out; omega
    rw [h4] at h3
    exact h3
  have hl8 : (Lib.beBytes 8 l).length = 8 := Lib.beBytes_length 8 l
  obtain ⟨b0, b1, b2, b3, b4, b5, b6, b7, hbs⟩ : ∃ b0 b1 b2 b3 b4 b5 b6 b7, Lib.beBytes 8 l = [b0, b1, b2, b3, b4, b5, b6, b7] := by
    match Lib.beBytes 8 l, hl8 with
    | [b0, b1, b2, b3, b4, b5, b6, b7], _ => exact ⟨b0, b1, b2, b3, b4, b5, b6, b7, rfl⟩
  have hval : Lib.beNat [b0, b1, b2, b3, b4, b5, b6, b7] = l := by rw [← hbs]; exact be_back l H.out.l64
  rw [hbs] at hby
  have HB := hide hby
  have HV := hide hval
  have hmn : (n : Int) - 8 = (m : Int) := by have := HM.out; omega
  have hml : (m : Int) ≤ (n : Int) := by omega
  have hmm : m < n := by omega
  have hmc : m < c := by omega
  have hc10 : ¬ c = m := by omega
  have hn28 : n ≤ 28 := by omega
  have hwm : IntKind.i64.wrap (m : Int) = (m : Int) := by rw [IntKind.wrap_i64]; omega
  have h8n : 8 ≤ n - m := by have := HM.out; omega
  clear hby hval hbs hl8 hbd
  have hU := hide (uint64_any g m (n - m) (c - m) b0 b1 b2 b3 b4 b5 b6 b7 w.drew h8n (HB.out 0 (by simp)) (HB.out 1 (by simp)) (HB.out 2 (by simp)) (HB.out 3 (by simp)) (HB.out 4 (by simp)) (HB.out 5 (by simp)) (HB.out 6 (by simp)) (HB.out 7 (by simp)))
  go_enter Yba.func24, Yba.ntmps24
  go_wp2_with (go_at_call 29; refine (final_any b _ (by assumption)).mono ?_; rintro e w' ⟨rfl, rfl⟩)
  go_region_with (go_at_call 30; refine hU.out.mono ?_; rintro e w2 ⟨rfl, bel⟩)
  all_goals go_wp2
  all_goals go_ret
  all_goals refine ⟨?_, below_drew_left (by assumption)⟩
  all_goals (rw [← HV.out, ← wrap64_of]; rfl)
end Go.Proofs.Ybulkdhhq
