/-
  holding (16), slices.Index (25), end (19), stands (18), within (14), run (10).
-/
import Derived.Test.YbulkdhhqC3
namespace Go.Proofs.Ybulkdhhq
open Go.RowKit

/-- The largest index below n whose base is not past f. -/
def kk (base : Nat → Int) (f : Int) : Nat → Option Nat
  | 0 => none
  | n + 1 => if base n ≤ f then some n else kk base f n

theorem kk_none (base : Nat → Int) (f : Int) : ∀ n, (∀ j, j < n → f < base j) → kk base f n = none
  | 0, _ => rfl
  | n + 1, h => by
    unfold kk
    rw [if_neg (by have := h n (by omega); omega)]
    exact kk_none base f n (fun j hj => h j (by omega))

theorem kk_some (base : Nat → Int) (f : Int) (k : Nat) (hk : base k ≤ f) : ∀ n, k < n → (∀ j, k < j → j < n → f < base j) → kk base f n = some k
  | 0, h, _ => absurd h (Nat.not_lt_zero _)
  | n + 1, h, hj => by
    unfold kk
    by_cases e : k = n
    · subst e; rw [if_pos hk]
    · rw [if_neg (by have := hj n (by omega) (by omega); omega)]
      exact kk_some base f k hk n (by omega) (fun j h1 h2 => hj j h1 (by omega))

/-- Where the segment after the k-th begins. -/
def endOf (base : Nat → Int) (nb k : Nat) : Int := if k + 1 < nb then base (k + 1) else 9223372036854775807

/-- The segment that holds the record whole. -/
def win (base : Nat → Int) (nb : Nat) (f l : Int) : Option Nat :=
  match kk base f nb with
  | none => none
  | some k => if l < endOf base nb k then some k else none

def ptrOf (S : Nat) : Option Nat → Value
  | none => .pointer none
  | some k => .pointer (some ⟨S + k, 0, none⟩)

set_option maxHeartbeats 800000 in
theorem holding_any (st sb S nb : Nat) (base : Nat → Int) (x : Int) (w : World) (h : Segs w sb S nb base) (hst : w.cell? ⟨st, 17, none⟩ = some (.slice (some ⟨sb, 0, none⟩) nb nb)) :
    Calls Yba.prog 16 #[.pointer (some ⟨st, 0, none⟩), .int .i64 x] w fun e w' => ∃ k, k < nb ∧ e = .returned (.pointer (some ⟨S + k, 0, none⟩)) ∧ (base k ≤ x ∨ (k = 0 ∧ x < base 0)) ∧ (∀ j, k < j → j < nb → x < base j) ∧ w' = w := by
  have hle := h.le
  have hpos := h.pos
  have H := hide h
  clear h
  go_enter Yba.func16, Yba.ntmps16
  go_wp2_with fail
  refine (search_any sb S nb base x w H.out).mono ?_
  rintro e w' ⟨i, hi, hlo, hhi, rfl, rfl⟩
  have HLO := hide hlo
  have HHI := hide hhi
  clear hlo hhi
  by_cases hf : i < nb ∧ base i = x
  · have hd : decide (i < nb ∧ base i = x) = true := by simp [hf]
    rw [hd]
    clear hd
    obtain ⟨hin, hbi⟩ := hf
    have r1 := H.out.row _ hin
    have hz : (i : Int) < (nb : Int) := by omega
    have HB := hide hbi
    clear hbi
    go_wp2
    go_ret
    refine ⟨i, hin, rfl, .inl (by rw [HB.out]; omega), fun j h1 h2 => ?_, rfl⟩
    have := H.out.up i j h1 h2
    rw [HB.out] at this
    exact this
  · have hd : decide (i < nb ∧ base i = x) = false := by simpa using hf
    rw [hd]
    clear hd
    have HN := hide hf
    clear hf
    have hup : ∀ j, i ≤ j → j < nb → x < base j := fun j h1 h2 => by
      by_cases e : j = i
      · subst e
        have h3 := HHI.out j (Nat.le_refl _) h2
        have h4 : base j ≠ x := fun e => HN.out ⟨h2, e⟩
        omega
      · have h3 := HHI.out i (Nat.le_refl _) (by omega)
        have h4 := H.out.up i j (by omega) h2
        omega
    have HUP := hide hup
    clear hup
    rcases Nat.eq_zero_or_pos i with rfl | hi0
    · have r1 := H.out.row _ hpos
      go_wp2
      go_ret
      refine ⟨0, hpos, rfl, .inr ⟨rfl, HUP.out 0 (Nat.le_refl _) hpos⟩, fun j h1 h2 => HUP.out j (by omega) h2, rfl⟩
    · obtain ⟨m, rfl⟩ : ∃ m, i = m + 1 := ⟨i - 1, by omega⟩
      have r1 := H.out.row m (by omega)
      have hz : (m : Int) < (nb : Int) := by omega
      go_wp2
      go_ret
      exact ⟨m, by omega, rfl, .inl (Int.le_of_lt (HLO.out m (by omega))), fun j h1 h2 => HUP.out j (by omega) h2, rfl⟩

set_option maxHeartbeats 800000 in
theorem index_any (sb S nb k : Nat) (base : Nat → Int) (w : World) (h : Segs w sb S nb base) (hk : k < nb) :
    Calls Yba.prog 25 #[.slice (some ⟨sb, 0, none⟩) nb nb, .pointer (some ⟨S + k, 0, none⟩)] w fun e w' => e = .returned (.int .i64 k) ∧ w' = w := by
  have hle := h.le
  have H := hide h
  clear h
  go_enter Yba.func25, Yba.ntmps25
  go_wp2
  go_loopg [8, 5] nb (fun g i _ wr => ∃ a : Nat, a ≤ k ∧ g = nb - a ∧ i = .int .i64 a ∧ wr = w)
  case atStart => exact ⟨0, by omega, rfl, rfl, rfl⟩
  case round =>
    obtain ⟨a, hak, rfl, rfl, rfl⟩ := hrel
    have r1 := H.out.row a (by omega)
    have hz : (a : Int) < (nb : Int) := by omega
    have r2 := H.out.eql k a hk (by omega)
    by_cases e : a = k
    · subst e
      have r3 : decide (a = a) = true := by simp
      rw [r3] at r2
      clear r3
      go_wp2
      go_ret
      exact ⟨rfl, rfl⟩
    · have r3 : decide (k = a) = false := by simp; omega
      rw [r3] at r2
      clear r3
      go_wp2
      go_roundg (nb - (a + 1))
      case measure => go_light; omega
      case rel => go_light; exact ⟨a + 1, by omega, rfl, by go_num, rfl⟩

set_option maxHeartbeats 800000 in
theorem end_any (st sb S nb k : Nat) (base : Nat → Int) (w : World) (h : Segs w sb S nb base) (hst : w.cell? ⟨st, 17, none⟩ = some (.slice (some ⟨sb, 0, none⟩) nb nb)) (hk : k < nb) :
    Calls Yba.prog 19 #[.pointer (some ⟨st, 0, none⟩), .pointer (some ⟨S + k, 0, none⟩)] w fun e w' => e = .returned (.int .i64 (endOf base nb k)) ∧ w' = w := by
  have hle := h.le
  have H := hide h
  clear h
  by_cases e : k + 1 < nb
  · have E : Hid (endOf base nb k = base (k + 1)) := by show endOf base nb k = _; unfold endOf; rw [if_pos e]
    have r1 := H.out.row _ e
    have r2 := H.out.at0 _ e
    have hz : (k : Int) + 1 < (nb : Int) := by omega
    go_enter Yba.func19, Yba.ntmps19
    go_wp2_with (go_at_call 25; refine (index_any sb S nb k base _ H.out hk).mono ?_; rintro e w' ⟨rfl, rfl⟩)
    go_ret
    exact ⟨by rw [E.out]; rfl, rfl⟩
  · have E : Hid (endOf base nb k = 9223372036854775807) := by show endOf base nb k = _; unfold endOf; rw [if_neg e]
    have hz : ¬ (k : Int) + 1 < (nb : Int) := by omega
    go_enter Yba.func19, Yba.ntmps19
    go_wp2_with (go_at_call 25; refine (index_any sb S nb k base _ H.out hk).mono ?_; rintro e w' ⟨rfl, rfl⟩)
    go_ret
    exact ⟨by rw [E.out]; rfl, rfl⟩
end Go.Proofs.Ybulkdhhq
