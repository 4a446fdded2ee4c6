/-
  gir.LawS5428CWhole's callees: zzs5428cstrip (5), stringslite.HasPrefix (8), stringslite.TrimPrefix (7), strings.TrimPrefix (6), gtypeOf (4).
-/
import Derived.Test.YbulkdhjuGreatProg
import Derived.WalkKit
import Derived.WalkSpells
import Derived.WalkLawsBesides
import Derived.KernelRfl
import Derived.Deep.OwnRows
import Derived.Deep.LoopGhost
import Derived.Deep.Light
import Derived.Deep.QuietTactic
import Derived.BigQuiet
import Derived.RegionTactic
import Derived.Deep.RegionWith
import Derived.Laws.StructEq
namespace Go.Proofs.YbulkdhjuGreat
open Go.RowKit

theorem hide {p : Prop} (h : p) : Hid p := h

/-- Does s begin with p? -/
def hasP (s p : ByteArray) : Bool := decide (p.size ≤ s.size) && ((s.extract 0 p.size).toList == p.toList)
/-- s less p at its front, where it begins with it. -/
def strp (s p : ByteArray) : ByteArray := if hasP s p then s.extract p.size s.size else s

theorem hasPrefix_any (s p : ByteArray) (w : World) :
    Calls Ybaz.prog 8 #[.string s, .string p] w fun e w' => e = .returned (.bool (hasP s p)) ∧ w' = w := by
  by_cases h : p.size ≤ s.size
  · have hz : (p.size : Int) ≤ (s.size : Int) := by omega
    have E : Hid (hasP s p = ((s.extract 0 p.size).toList == p.toList)) := by show hasP s p = _; unfold hasP; simp [h]
    go_enter Ybaz.func8, Ybaz.ntmps8
    go_wp2
    go_ret
    exact ⟨by rw [E.out]; rfl, rfl⟩
  · have hz : ¬ (p.size : Int) ≤ (s.size : Int) := by omega
    have E : Hid (hasP s p = false) := by show hasP s p = _; unfold hasP; simp [h]
    go_enter Ybaz.func8, Ybaz.ntmps8
    go_wp2
    go_ret
    exact ⟨by rw [E.out]; rfl, rfl⟩

theorem hasP_le {s p : ByteArray} (h : hasP s p = true) : p.size ≤ s.size := by
  unfold hasP at h
  simp only [Bool.and_eq_true, decide_eq_true_eq] at h
  exact h.1

theorem trim7_any (s p : ByteArray) (w : World) :
    Calls Ybaz.prog 7 #[.string s, .string p] w fun e w' => e = .returned (.string (strp s p)) ∧ w' = w := by
  cases h : hasP s p with
  | true =>
    have hle := hasP_le h
    have E : Hid (strp s p = s.extract p.size s.size) := by show strp s p = _; unfold strp; rw [h]; rfl
    have hz : (p.size : Int) ≤ (s.size : Int) := by omega
    go_enter Ybaz.func7, Ybaz.ntmps7
    go_wp2_with fail
    refine (hasPrefix_any _ _ _).mono ?_
    rintro e w' ⟨rfl, rfl⟩
    rw [h]
    go_wp2
    go_ret
    exact ⟨by rw [E.out]; rfl, rfl⟩
  | false =>
    have E : Hid (strp s p = s) := by show strp s p = _; unfold strp; rw [h]; rfl
    go_enter Ybaz.func7, Ybaz.ntmps7
    go_wp2_with fail
    refine (hasPrefix_any _ _ _).mono ?_
    rintro e w' ⟨rfl, rfl⟩
    rw [h]
    go_wp2
    go_ret
    exact ⟨by rw [E.out]; rfl, rfl⟩

theorem trim_any (s p : ByteArray) (w : World) :
    Calls Ybaz.prog 6 #[.string s, .string p] w fun e w' => e = .returned (.string (strp s p)) ∧ w' = w := by
  go_enter Ybaz.func6, Ybaz.ntmps6
  go_wp2_with fail
  refine (trim7_any _ _ _).mono ?_
  rintro e w' ⟨rfl, rfl⟩
  go_wp2
  go_ret
  exact ⟨rfl, rfl⟩

theorem hasP_iff (s p : ByteArray) (h : p.size ≤ s.size) : hasP s p = true ↔ ∀ i (hi : i < p.size), s[i]'(by omega) = p[i] := by
  unfold hasP
  simp only [h, decide_true, Bool.true_and, beq_iff_eq]
  rw [ByteArray.toList_eq, ByteArray.toList_eq]
  have hx : (s.extract 0 p.size).data.toList = s.data.toList.take p.size := by simp [ByteArray.data_extract]
  rw [hx]
  have hsl : s.data.toList.length = s.size := rfl
  have hpl : p.data.toList.length = p.size := rfl
  constructor
  · intro e i hi
    have e2 : (s.data.toList.take p.size)[i]'(by rw [List.length_take]; omega) = p.data.toList[i]'(by omega) := by simp only [e]
    rw [List.getElem_take] at e2
    exact e2
  · intro e
    refine List.ext_getElem (by rw [List.length_take]; omega) (fun i h1 h2 => ?_)
    rw [List.getElem_take]
    exact e i (by omega)

set_option maxHeartbeats 400000 in
theorem strip_any (s p : ByteArray) (w : World) (hs : s.size ≤ 9223372036854775807) :
    Calls Ybaz.prog 5 #[.string s, .string p] w fun e w' => e = .returned (.string (strp s p)) ∧ ∃ q, w' = w.drewN q := by
  by_cases h : p.size ≤ s.size
  · have hz : ¬ (s.size : Int) < (p.size : Int) := by omega
    go_enter Ybaz.func5, Ybaz.ntmps5
    go_wp2
    go_loopg [5] p.size (fun g i wr => ∃ k : Nat, k ≤ p.size ∧ g = p.size - k ∧ i = .int .i64 k ∧ (∀ j (hj : j < p.size), j < k → s[j]'(by omega) = p[j]) ∧ ∃ q, wr = w.drewN q)
    case atStart => exact ⟨0, Nat.zero_le _, rfl, rfl, fun j _ h => absurd h (Nat.not_lt_zero _), 0, rfl⟩
    case round =>
      obtain ⟨k, hk, rfl, rfl, hall, q, rfl⟩ := hrel
      have HA := hide hall
      clear hall
      by_cases hlt : k < p.size
      · have hkz : (k : Int) < (p.size : Int) := by omega
        have hks : k < s.size := by omega
        have hksz : (k : Int) < (s.size : Int) := by omega
        by_cases e : s[k] = p[k]
        · have e' : ((s[k].toNat : Int) != (p[k].toNat : Int)) = false := by rw [e]; simp
          have HE := hide e
          clear e
          go_wp2
          go_quiet (fail)
          go_wp2
          go_roundg (p.size - (k + 1))
          case measure => go_light; omega
          case rel =>
            go_light
            refine ⟨k + 1, by omega, rfl, by go_num, fun j hj h2 => ?_, _, rfl⟩
            by_cases ej : j = k
            · subst ej; exact HE.out
            · exact HA.out j hj (by omega)
        · have e' : ((s[k].toNat : Int) != (p[k].toNat : Int)) = true := by
            simp only [bne_iff_ne, ne_eq]; intro h; exact e (UInt8.toNat_inj.1 (by omega))
          have E : Hid (strp s p = s) := by
            show strp s p = _
            unfold strp
            rw [if_neg (fun hp => e ((hasP_iff s p h).1 hp k hlt))]
          clear e
          go_wp2
          go_quiet (fail)
          go_wp2
          go_ret
          exact ⟨by rw [E.out]; rfl, _, by first | exact World.drewN_drewN _ _ _ | exact World.drewN_drewN⟩
      · have E : Hid (strp s p = s.extract p.size s.size) := by
          show strp s p = _
          unfold strp
          rw [if_pos ((hasP_iff s p h).2 (fun i hi => HA.out i hi (by omega)))]
        obtain rfl : k = p.size := by omega
        go_wp2
        go_ret
        exact ⟨by rw [E.out]; rfl, q, rfl⟩
  · have hz : (s.size : Int) < (p.size : Int) := by omega
    have E : Hid (strp s p = s) := by show strp s p = _; unfold strp hasP; simp [h]
    go_enter Ybaz.func5, Ybaz.ntmps5
    go_wp2
    go_ret
    exact ⟨by rw [E.out]; rfl, 0, rfl⟩
end Go.Proofs.YbulkdhjuGreat
