/-
  stands (18), within (14), run (10).
-/
import Derived.Test.YbulkdhhqC4
namespace Go.Proofs.Ybulkdhhq
open Go.RowKit

theorem ret_bool {a b : Bool} (h : a = b) : Ending.returned (.bool a) = .returned (.bool b) := by rw [h]
def standB (f l : Nat) (from_ to_ : Int) : Bool := decide (from_ ≤ (f : Int) ∧ wrap64 (l : Int) < to_)

set_option maxHeartbeats 800000 in
theorem stands_any (b g n c f l : Nat) (from_ to_ : Int) (w : World) (h : Rec w b g n c f l) (hb : b < w.heap.size) (hg : g < w.heap.size) :
    Calls Yba.prog 18 #[.pointer (some ⟨b, 0, none⟩), .int .i64 from_, .int .i64 to_] w fun e w' => e = .returned (.bool (standB f l from_ to_)) ∧ Below w.heap.size w w' := by
  have hp := h.places
  have H := hide h
  clear h
  by_cases h1 : from_ ≤ (f : Int)
  · by_cases h2 : wrap64 (l : Int) < to_
    · have E : Hid (standB f l from_ to_ = true) := by show decide _ = true; simp [h1, h2]
      go_enter Yba.func18, Yba.ntmps18
      go_wp2_with fail
      refine (dropped_any b _ n c _ hp).mono ?_
      rintro e w' ⟨rfl, rfl⟩
      go_wp2_with fail
      refine (first_any b g n c f l _ H.out).mono ?_
      rintro e w1 ⟨rfl, bel1⟩
      go_wp2_with fail
      refine (last_any b g n c f l _ (H.out.below bel1 hb hg)).mono ?_
      rintro e w2 ⟨rfl, bel2⟩
      go_wp2
      go_ret
      exact ⟨by rw [E.out]; first | rfl | exact ret_bool (by simp; omega), bel1.trans (bel2.mono bel1.size)⟩
    · have E : Hid (standB f l from_ to_ = false) := by show decide _ = false; simp [h2]
      go_enter Yba.func18, Yba.ntmps18
      go_wp2_with fail
      refine (dropped_any b _ n c _ hp).mono ?_
      rintro e w' ⟨rfl, rfl⟩
      go_wp2_with fail
      refine (first_any b g n c f l _ H.out).mono ?_
      rintro e w1 ⟨rfl, bel1⟩
      go_wp2_with fail
      refine (last_any b g n c f l _ (H.out.below bel1 hb hg)).mono ?_
      rintro e w2 ⟨rfl, bel2⟩
      go_wp2
      go_ret
      exact ⟨by rw [E.out]; first | rfl | exact ret_bool (by simp; omega), bel1.trans (bel2.mono bel1.size)⟩
  · have E : Hid (standB f l from_ to_ = false) := by show decide _ = false; simp [h1]
    go_enter Yba.func18, Yba.ntmps18
    go_wp2_with fail
    refine (dropped_any b _ n c _ hp).mono ?_
    rintro e w' ⟨rfl, rfl⟩
    go_wp2_with fail
    refine (first_any b g n c f l _ H.out).mono ?_
    rintro e w1 ⟨rfl, bel1⟩
    go_wp2
    go_ret
    exact ⟨by rw [E.out]; rfl, bel1⟩

theorem within_dropped (st b : Nat) (n c : Nat) (w : World) (h : w.cell? ⟨b, 1, none⟩ = some (.slice none n c)) :
    Calls Yba.prog 14 #[.pointer (some ⟨st, 0, none⟩), .pointer (some ⟨b, 0, none⟩)] w fun e w' => e = .returned (.pointer none) ∧ w' = w := by
  go_enter Yba.func14, Yba.ntmps14
  go_wp2_with fail
  refine (dropped_any b none n c _ h).mono ?_
  rintro e w' ⟨rfl, rfl⟩
  go_wp2
  go_ret
  exact ⟨rfl, rfl⟩

theorem Segs.below {w w' : World} {sb S nb B : Nat} {base : Nat → Int} (h : Segs w sb S nb base) (hb : Below B w w') (h1 : sb < B) (h2 : S + nb ≤ B) : Segs w' sb S nb base :=
  ⟨h.pos, h.le, fun j hj => by rw [hb.cell (p := ⟨sb, j, none⟩) h1]; exact h.row j hj, fun j hj => by rw [hb.cell (p := ⟨S + j, 0, none⟩) (by show S + j < B; omega)]; exact h.at0 j hj,
    fun j hj => by rw [hb.block _ (by omega)]; exact h.blk j hj, h.up⟩

theorem Segs.drew {w : World} {sb S nb : Nat} {base : Nat → Int} (h : Segs w sb S nb base) : Segs w.drew sb S nb base := ⟨h.pos, h.le, h.row, h.at0, h.blk, h.up⟩
theorem Rec.drew {w : World} {b g n c f l : Nat} (h : Rec w b g n c f l) : Rec w.drew b g n c f l := ⟨h.f63, h.l64, h.len, h.places, h.status, h.byts, h.cap⟩

theorem win_of (base : Nat → Int) (nb k : Nat) (f l : Int) (hk : k < nb) (h1 : base k ≤ f ∨ (k = 0 ∧ f < base 0)) (h2 : ∀ j, k < j → j < nb → f < base j) :
    win base nb f l = if base k ≤ f ∧ l < endOf base nb k then some k else none := by
  unfold win
  by_cases h : base k ≤ f
  · rw [kk_some base f k h nb hk h2]
    by_cases h3 : l < endOf base nb k
    · rw [if_pos ⟨h, h3⟩]; simp [h3]
    · rw [if_neg (fun e => h3 e.2)]; simp [h3]
  · rw [kk_none base f nb (fun j hj => ?_), if_neg (fun e => h e.1)]
    rcases h1 with h1 | ⟨rfl, h1⟩
    · exact absurd h1 h
    · by_cases e : j = 0
      · subst e; exact h1
      · exact h2 j (by omega) hj

set_option maxHeartbeats 1600000 in
theorem within_any (st sb S nb b g n c f l : Nat) (base : Nat → Int) (w : World) (hs : Segs w sb S nb base) (hst : w.cell? ⟨st, 17, none⟩ = some (.slice (some ⟨sb, 0, none⟩) nb nb)) (h : Rec w b g n c f l)
    (hb : b < w.heap.size) (hg : g < w.heap.size) (hst2 : st < w.heap.size) (hsb : sb < w.heap.size) (hS : S + nb ≤ w.heap.size) :
    Calls Yba.prog 14 #[.pointer (some ⟨st, 0, none⟩), .pointer (some ⟨b, 0, none⟩)] w fun e w' => e = .returned (ptrOf S (win base nb f (wrap64 l))) ∧ Below w.heap.size w w' := by
  have hp := h.places
  have H := hide h
  have HS := hide hs
  have HT := hide hst
  clear h hs hst
  go_enter Yba.func14, Yba.ntmps14
  go_wp2_with fail
  refine (dropped_any b _ n c _ hp).mono ?_
  rintro e w' ⟨rfl, rfl⟩
  go_wp2_with fail
  refine (first_any b g n c f l _ H.out).mono ?_
  rintro e w1 ⟨rfl, bel1⟩
  go_wp2_with fail
  have hs1 := HS.out.below bel1 hsb hS
  have ht1 : w1.cell? ⟨st, 17, none⟩ = some (.slice (some ⟨sb, 0, none⟩) nb nb) := by rw [bel1.cell (p := ⟨st, 17, none⟩) hst2]; exact HT.out
  refine (holding_any st sb S nb base f w1 hs1 ht1).mono ?_
  rintro e w2 ⟨k, hk, rfl, hk1, hk2, rfl⟩
  have r0 := hs1.at0 k hk
  have r1 := H.out.below bel1 hb hg
  have hw := win_of base nb k (f : Int) (wrap64 (l : Int)) hk hk1 hk2
  have C1 := hide (end_any st sb S nb k base w2.drew hs1.drew ht1 hk)
  have C2 := hide (stands_any b g n c f l (base k) (endOf base nb k) w2.drew r1.drew (by have := bel1.size; show b < w2.heap.size; omega) (by have := bel1.size; show g < w2.heap.size; omega))
  have HW := hide hw
  have B1 := hide bel1
  clear hw bel1 hk1 hk2 r1 hs1 ht1 hp
  go_wp2
  go_region_with (first | (go_at_call 19; refine C1.out.mono ?_; rintro e w3 ⟨rfl, rfl⟩) | (go_at_call 18; refine C2.out.mono ?_; rintro e w3 ⟨rfl, bel3⟩))
  all_goals
    have B3 := hide (B1.out.trans ((below_drew_left (by assumption)).mono B1.out.size))
    by_cases hq : base k ≤ (f : Int) ∧ wrap64 (l : Int) < endOf base nb k
    · have hS1 : standB f l (base k) (endOf base nb k) = true := by show decide _ = true; simp [hq]
      have HQ := hide hq
      clear hq
      rw [hS1]
      clear hS1
      go_wp2
      go_ret
      exact ⟨by rw [HW.out, if_pos HQ.out]; rfl, B3.out⟩
    · have hS1 : standB f l (base k) (endOf base nb k) = false := by show decide _ = false; exact decide_eq_false hq
      have HQ := hide hq
      clear hq
      rw [hS1]
      clear hS1
      go_wp2
      go_ret
      exact ⟨by rw [HW.out, if_neg HQ.out]; rfl, B3.out⟩

/-- The run of sagas: the first segment met, and where the run ends. -/
def scan (want : Nat → Option Nat) : Nat → Nat → Option Nat → Option Nat × Nat
  | 0, i, s => (s, i)
  | m + 1, i, s =>
    match want i with
    | none => scan want m (i + 1) s
    | some c =>
      match s with
      | none => scan want m (i + 1) (some c)
      | some e => if c = e then scan want m (i + 1) (some e) else (some e, i)

/-- What the queue looks like in memory: at place i a pointer to a Records: dropped, or with its places. -/
structure Queue (w : World) (Q N : Nat) (rb gb nn cc ff ll : Nat → Nat) (dr : Nat → Bool) : Prop where
  le : N ≤ 4096
  ptr : ∀ i, i < N → w.cell? ⟨Q, i * 2, none⟩ = some (.pointer (some ⟨rb i, 0, none⟩))
  nul : ∀ i, i < N → w.cell? ⟨Q, i * 2 + 1, none⟩ = some (.slice none 0 0)
  rlt : ∀ i, i < N → rb i < w.heap.size
  glt : ∀ i, i < N → gb i < w.heap.size
  drop : ∀ i, i < N → dr i = true → w.cell? ⟨rb i, 1, none⟩ = some (.slice none 0 0)
  keep : ∀ i, i < N → dr i = false → Rec w (rb i) (gb i) (nn i) (cc i) (ff i) (ll i)

/-- Which segment the i-th saga wants. -/
def wantF (base : Nat → Int) (nb : Nat) (ff ll : Nat → Nat) (dr : Nat → Bool) (i : Nat) : Option Nat :=
  if dr i then none else win base nb (ff i) (wrap64 (ll i))

theorem Queue.below {w w' : World} {Q N : Nat} {rb gb nn cc ff ll : Nat → Nat} {dr : Nat → Bool} (h : Queue w Q N rb gb nn cc ff ll dr) (hb : Below w.heap.size w w') (hQ : Q < w.heap.size) : Queue w' Q N rb gb nn cc ff ll dr :=
  ⟨h.le, fun i hi => by rw [hb.cell (p := ⟨Q, i * 2, none⟩) hQ]; exact h.ptr i hi, fun i hi => by rw [hb.cell (p := ⟨Q, i * 2 + 1, none⟩) hQ]; exact h.nul i hi,
    fun i hi => Nat.lt_of_lt_of_le (h.rlt i hi) hb.size, fun i hi => Nat.lt_of_lt_of_le (h.glt i hi) hb.size,
    fun i hi hd => by rw [hb.cell (p := ⟨rb i, 1, none⟩) (h.rlt i hi)]; exact h.drop i hi hd, fun i hi hd => (h.keep i hi hd).below hb (h.rlt i hi) (h.glt i hi)⟩

theorem within_want (st sb S nb Q N : Nat) (base : Nat → Int) (rb gb nn cc ff ll : Nat → Nat) (dr : Nat → Bool) (i : Nat) (hi : i < N) (w : World) (hs : Segs w sb S nb base) (hst : w.cell? ⟨st, 17, none⟩ = some (.slice (some ⟨sb, 0, none⟩) nb nb))
    (hq : Queue w Q N rb gb nn cc ff ll dr) (hst2 : st < w.heap.size) (hsb : sb < w.heap.size) (hS : S + nb ≤ w.heap.size) :
    Calls Yba.prog 14 #[.pointer (some ⟨st, 0, none⟩), .pointer (some ⟨rb i, 0, none⟩)] w fun e w' => e = .returned (ptrOf S (wantF base nb ff ll dr i)) ∧ Below w.heap.size w w' := by
  cases hd : dr i with
  | true =>
    refine (within_dropped st (rb i) 0 0 w (hq.drop i hi hd)).mono ?_
    rintro e w' ⟨rfl, rfl⟩
    refine ⟨?_, Below.refl _ _⟩
    unfold wantF
    rw [hd]; rfl
  | false =>
    refine (within_any st sb S nb (rb i) (gb i) (nn i) (cc i) (ff i) (ll i) base w hs hst (hq.keep i hi hd) (hq.rlt i hi) (hq.glt i hi) hst2 hsb hS).mono ?_
    rintro e w' ⟨rfl, hb⟩
    refine ⟨?_, hb⟩
    unfold wantF
    rw [hd]; rfl

theorem kk_lt (base : Nat → Int) (f : Int) : ∀ n k, kk base f n = some k → k < n
  | 0, k, h => by simp [kk] at h
  | n + 1, k, h => by
    unfold kk at h
    split at h
    · simp at h; omega
    · have := kk_lt base f n k h; omega
theorem win_lt {base : Nat → Int} {nb : Nat} {f l : Int} {k : Nat} (h : win base nb f l = some k) : k < nb := by
  unfold win at h
  split at h
  · simp at h
  · rename_i k' hk
    split at h
    · simp at h; subst h; exact kk_lt _ _ _ _ hk
    · simp at h
theorem wantF_lt {base : Nat → Int} {nb : Nat} {ff ll : Nat → Nat} {dr : Nat → Bool} {i k : Nat} (h : wantF base nb ff ll dr i = some k) : k < nb := by
  unfold wantF at h
  split at h
  · simp at h
  · exact win_lt h

set_option maxHeartbeats 1600000 in
theorem run_any (st sb S nb Q N n : Nat) (base : Nat → Int) (rb gb nn cc ff ll : Nat → Nat) (dr : Nat → Bool) (w : World) (hs : Segs w sb S nb base) (hst : w.cell? ⟨st, 17, none⟩ = some (.slice (some ⟨sb, 0, none⟩) nb nb))
    (hq : Queue w Q N rb gb nn cc ff ll dr) (hst2 : st < w.heap.size) (hsb : sb < w.heap.size) (hS : S + nb ≤ w.heap.size) (hQ : Q < w.heap.size) :
    Calls Yba.prog 10 #[.pointer (some ⟨st, 0, none⟩), .slice (some ⟨Q, 0, none⟩) N N, .int .i64 n] w fun e w' => e = .returned (.tuple #[ptrOf S (scan (wantF base nb ff ll dr) (N - n) n none).1, .int .i64 (scan (wantF base nb ff ll dr) (N - n) n none).2]) ∧ Below w.heap.size w w' := by
  have hN := hq.le
  have HS := hide hs
  have HT := hide hst
  have HQ := hide hq
  clear hs hst hq
  go_enter Yba.func10, Yba.ntmps10
  go_wp2
  go_loopg [2, 8, 9] (N - n) (fun g vi vs _ wr => ∃ (a : Nat) (s : Option Nat), n ≤ a ∧ (a ≤ N ∨ a = n) ∧ g = N - a ∧ vi = .int .i64 a ∧ vs = ptrOf S s ∧ (∀ k, s = some k → k < nb) ∧ Below w.heap.size w wr ∧ scan (wantF base nb ff ll dr) (N - n) n none = scan (wantF base nb ff ll dr) (N - a) a s)
  case atStart => exact ⟨n, none, by omega, .inr rfl, rfl, rfl, rfl, fun k h => by simp at h, Below.refl _ _, rfl⟩
  case round =>
    obtain ⟨a, s, ha, ha2, rfl, rfl, rfl, hsk, bel, hsc⟩ := hrel
    by_cases hlt : a < N
    · have hz : (a : Int) < (N : Int) := by omega
      have hs1 := HS.out.below bel hsb hS
      have ht1 : wr.cell? ⟨st, 17, none⟩ = some (.slice (some ⟨sb, 0, none⟩) nb nb) := by rw [bel.cell (p := ⟨st, 17, none⟩) hst2]; exact HT.out
      have hq1 := HQ.out.below bel hQ
      have r1 := hq1.ptr a hlt
      have hm : N - a = (N - (a + 1)) + 1 := by omega
      have C1 := hide (within_want st sb S nb Q N base rb gb nn cc ff ll dr a hlt wr hs1 ht1 hq1 (by have := bel.size; omega) (by have := bel.size; omega) (by have := bel.size; omega))
      have BEL := hide bel
      have HSC := hide hsc
      have HM := hide hm
      have H1 := hide hs1
      have HK := hide hsk
      clear bel hsc hm hs1 ht1 hq1 hsk
      go_wp2_with fail
      refine C1.out.mono ?_
      rintro e w3 ⟨rfl, bel3⟩
      have B3 := hide (BEL.out.trans (bel3.mono BEL.out.size))
      have H3 := hide (H1.out.below bel3 (by have := BEL.out.size; omega) (by have := BEL.out.size; omega))
      clear bel3 C1
      cases hw : wantF base nb ff ll dr a with
      | none =>
        have HX : Hid (scan (wantF base nb ff ll dr) (N - n) n none = scan (wantF base nb ff ll dr) (N - (a + 1)) (a + 1) s) := by
          show _ = _
          rw [HSC.out, HM.out, scan, hw]
        clear hw
        rw [show ptrOf S none = .pointer none from rfl]
        go_wp2
        go_roundg (N - (a + 1))
        case measure => go_light; omega
        case rel => go_light; exact ⟨a + 1, s, by omega, .inl (by omega), rfl, by go_num, rfl, HK.out, B3.out, HX.out⟩
      | some c =>
        have hc := wantF_lt hw
        rw [show ptrOf S (some c) = .pointer (some ⟨S + c, 0, none⟩) from rfl]
        cases s with
        | none =>
          have HX : Hid (scan (wantF base nb ff ll dr) (N - n) n none = scan (wantF base nb ff ll dr) (N - (a + 1)) (a + 1) (some c)) := by
            show _ = _
            rw [HSC.out, HM.out, scan, hw]
          clear hw
          rw [show ptrOf S none = .pointer none from rfl]
          go_wp2
          go_roundg (N - (a + 1))
          case measure => go_light; omega
          case rel => go_light; exact ⟨a + 1, some c, by omega, .inl (by omega), rfl, by go_num, rfl, fun k h => by simp at h; omega, B3.out, HX.out⟩
        | some d =>
          have hd := HK.out d rfl
          have r5 := H3.out.neq c d hc hd
          rw [show ptrOf S (some d) = .pointer (some ⟨S + d, 0, none⟩) from rfl]
          by_cases e : c = d
          · subst e
            have HX : Hid (scan (wantF base nb ff ll dr) (N - n) n none = scan (wantF base nb ff ll dr) (N - (a + 1)) (a + 1) (some c)) := by
              show _ = _
              rw [HSC.out, HM.out, scan, hw]
              simp
            rw [show decide (c ≠ c) = false by simp] at r5
            clear hw
            go_wp2
            go_roundg (N - (a + 1))
            case measure => go_light; omega
            case rel => go_light; exact ⟨a + 1, some c, by omega, .inl (by omega), rfl, by go_num, rfl, fun k h => by simp at h; omega, B3.out, HX.out⟩
          · have HX : Hid (scan (wantF base nb ff ll dr) (N - n) n none = (some d, a)) := by
              show _ = _
              rw [HSC.out, HM.out, scan, hw]
              simp [e]
            rw [show decide (c ≠ d) = true by simp [e]] at r5
            clear hw
            go_wp2
            go_ret2
            exact ⟨by rw [HX.out]; rfl, B3.out⟩
    · have HX : Hid (scan (wantF base nb ff ll dr) (N - n) n none = (s, a)) := by
        show _ = _
        rw [hsc, show N - a = 0 by omega, scan]
      have BEL := hide bel
      clear bel hsc hsk
      have hz : ¬ (a : Int) < (N : Int) := by omega
      go_wp2
      go_ret2
      exact ⟨by rw [HX.out]; rfl, BEL.out⟩
end Go.Proofs.Ybulkdhhq
