/-
  The callees of journal.LawS5424BWhole: group.start (5), zzs5424bsame (6), zzs5424bsameb (7). Each by a contract.
-/
import Derived.Test.YbulkdhhqProg
import Derived.WalkKit
import Derived.KernelRfl
import Derived.Deep.OwnRows
import Derived.Deep.LoopGhost
import Derived.Deep.Light
import Derived.Deep.QuietTactic
import Derived.BigQuiet
namespace Go.Proofs.Ybulkdhhq
open Go.RowKit

set_option maxHeartbeats 400000 in
/-- Two rows of ints of one length that hold the same numbers: true; the world has drawn, no more. -/
theorem same_any (aA aB : Option Addr) (bA oA bB oB n cA cB : Nat) (f : Nat → Int) (w : World) (hn : n ≤ 2097152)
    (hA : 0 < n → aA = some ⟨bA, oA, none⟩) (hB : 0 < n → aB = some ⟨bB, oB, none⟩)
    (cA' : ∀ j, j < n → w.cell? ⟨bA, oA + j, none⟩ = some (.int .i64 (f j))) (cB' : ∀ j, j < n → w.cell? ⟨bB, oB + j, none⟩ = some (.int .i64 (f j))) :
    Calls Yba.prog 6 #[.slice aA n cA, .slice aB n cB] w fun e w' => e = .returned (.bool true) ∧ ∃ q, w' = w.drewN q := by
  go_enter Yba.func6, Yba.ntmps6
  go_wp2
  go_loopg [5] n (fun g i wr => ∃ k : Nat, k ≤ n ∧ g = n - k ∧ i = .int .i64 k ∧ ∃ q, wr = w.drewN q)
  case atStart => exact ⟨0, Nat.zero_le _, rfl, rfl, 0, rfl⟩
  case round =>
    obtain ⟨k, hk, rfl, rfl, q, rfl⟩ := hrel
    by_cases hlt : k < n
    · obtain rfl := hA (by omega)
      obtain rfl := hB (by omega)
      have g1 : w.cell? ⟨bA, oA + k, none⟩ = some (.int .i64 (f k)) := cA' k hlt
      have g2 : w.cell? ⟨bB, oB + k, none⟩ = some (.int .i64 (f k)) := cB' k hlt
      have hz : (k : Int) < (n : Int) := by omega
      clear cA' cB'
      go_wp2
      go_quiet (fail)
      go_wp2
      go_roundg (n - (k + 1))
      case measure => go_light; omega
      case rel => go_light; exact ⟨k + 1, by omega, rfl, by go_num, _, rfl⟩
    · go_wp2
      go_ret
      exact ⟨rfl, q, rfl⟩
set_option maxHeartbeats 400000 in
/-- Two rows of bytes of one length that hold the same numbers: true; the world has drawn, no more. -/
theorem sameb_any (aA aB : Option Addr) (bA oA bB oB n cA cB : Nat) (f : Nat → Int) (w : World) (hn : n ≤ 2097152)
    (hA : 0 < n → aA = some ⟨bA, oA, none⟩) (hB : 0 < n → aB = some ⟨bB, oB, none⟩)
    (cA' : ∀ j, j < n → w.cell? ⟨bA, oA + j, none⟩ = some (.int .u8 (f j))) (cB' : ∀ j, j < n → w.cell? ⟨bB, oB + j, none⟩ = some (.int .u8 (f j))) :
    Calls Yba.prog 7 #[.slice aA n cA, .slice aB n cB] w fun e w' => e = .returned (.bool true) ∧ ∃ q, w' = w.drewN q := by
  go_enter Yba.func7, Yba.ntmps7
  go_wp2
  go_loopg [5] n (fun g i wr => ∃ k : Nat, k ≤ n ∧ g = n - k ∧ i = .int .i64 k ∧ ∃ q, wr = w.drewN q)
  case atStart => exact ⟨0, Nat.zero_le _, rfl, rfl, 0, rfl⟩
  case round =>
    obtain ⟨k, hk, rfl, rfl, q, rfl⟩ := hrel
    by_cases hlt : k < n
    · obtain rfl := hA (by omega)
      obtain rfl := hB (by omega)
      have g1 : w.cell? ⟨bA, oA + k, none⟩ = some (.int .u8 (f k)) := cA' k hlt
      have g2 : w.cell? ⟨bB, oB + k, none⟩ = some (.int .u8 (f k)) := cB' k hlt
      have hz : (k : Int) < (n : Int) := by omega
      clear cA' cB'
      go_wp2
      go_quiet (fail)
      go_wp2
      go_roundg (n - (k + 1))
      case measure => go_light; omega
      case rel => go_light; exact ⟨k + 1, by omega, rfl, by go_num, _, rfl⟩
    · go_wp2
      go_ret
      exact ⟨rfl, q, rfl⟩

/-- group.start: the first record starts at 0; the k-th where the (k-1)-th ends. -/
theorem start_zero (bg : Nat) (w : World) :
    Calls Yba.prog 5 #[.pointer (some ⟨bg, 0, none⟩), .int .i64 0] w fun e w' => e = .returned (.int .i64 0) ∧ w' = w := by
  go_enter Yba.func5, Yba.ntmps5
  go_wp2
  go_ret
  exact ⟨rfl, rfl⟩

theorem start_succ (bg b off n c k : Nat) (x : Int) (w : World) (hk : k < n) (hn : n ≤ 2097152) (hg : w.cell? ⟨bg, 1, none⟩ = some (.slice (some ⟨b, off, none⟩) n c)) (hc : w.cell? ⟨b, off + k, none⟩ = some (.int .i64 x)) :
    Calls Yba.prog 5 #[.pointer (some ⟨bg, 0, none⟩), .int .i64 ((k : Int) + 1)] w fun e w' => e = .returned (.int .i64 x) ∧ w' = w := by
  have h1 : ((k : Int) + 1 == 0) = false := by simp; omega
  have h2 : (k : Int) < (n : Int) := by omega
  go_enter Yba.func5, Yba.ntmps5
  go_wp2
  go_ret
  exact ⟨rfl, rfl⟩
end Go.Proofs.Ybulkdhhq
