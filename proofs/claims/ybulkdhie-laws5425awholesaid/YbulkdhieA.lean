/-
  beginsLikeNumber (6) and the model (7) of LawS5425AWhole: one leaf a shape of the name; each leaf one walk of each function.
-/
import Derived.Test.YbulkdhieProg
import Derived.WalkKit
import Derived.KernelRfl
namespace Go.Proofs.Ybulkdhie
open Go.RowKit
set_option linter.unusedSimpArgs false
theorem ret_bool {a b : Bool} (h : a = b) : Ending.returned (.bool a) = .returned (.bool b) := by rw [h]

theorem b_s1p (s : ByteArray) (w : World) (hz : s.size = 1) (_hm : s.size ≤ 9223372036854775807) (l0 : (43 : Int) ≤ ((s[0]'(by omega)).toNat : Int)) (u0 : ((s[0]'(by omega)).toNat : Int) ≤ 43) :
    Calls Yba.prog 6 #[.string s] w fun e w' => e = .returned (.bool false) ∧ w' = w := by
  go_enter Yba.func6, Yba.ntmps6
  go_wp2
  all_goals first | (exfalso; simp only [beq_eq_false_iff_ne, ne_eq, beq_iff_eq] at *; omega) | (go_ret; exact ⟨rfl, rfl⟩) | (go_ret; exact ⟨ret_bool (by simp; omega), rfl⟩)

theorem m_s1p (s : ByteArray) (w : World) (hz : s.size = 1) (_hm : s.size ≤ 9223372036854775807) (l0 : (43 : Int) ≤ ((s[0]'(by omega)).toNat : Int)) (u0 : ((s[0]'(by omega)).toNat : Int) ≤ 43) :
    Calls Yba.prog 7 #[.string s] w fun e w' => e = .returned (.bool false) ∧ w' = w := by
  go_enter Yba.func7, Yba.ntmps7
  go_wp2
  all_goals first | (exfalso; simp only [beq_eq_false_iff_ne, ne_eq, beq_iff_eq] at *; omega) | (go_ret; exact ⟨rfl, rfl⟩) | (go_ret; exact ⟨ret_bool (by simp; omega), rfl⟩)

theorem b_sdp (s : ByteArray) (w : World) (hz : 2 ≤ s.size) (_hm : s.size ≤ 9223372036854775807) (l0 : (43 : Int) ≤ ((s[0]'(by omega)).toNat : Int)) (u0 : ((s[0]'(by omega)).toNat : Int) ≤ 43) (l1 : (48 : Int) ≤ ((s[1]'(by omega)).toNat : Int)) (u1 : ((s[1]'(by omega)).toNat : Int) ≤ 57) :
    Calls Yba.prog 6 #[.string s] w fun e w' => e = .returned (.bool true) ∧ w' = w := by
  go_enter Yba.func6, Yba.ntmps6
  go_wp2
  all_goals first | (exfalso; simp only [beq_eq_false_iff_ne, ne_eq, beq_iff_eq] at *; omega) | (go_ret; exact ⟨rfl, rfl⟩) | (go_ret; exact ⟨ret_bool (by simp; omega), rfl⟩)

theorem m_sdp (s : ByteArray) (w : World) (hz : 2 ≤ s.size) (_hm : s.size ≤ 9223372036854775807) (l0 : (43 : Int) ≤ ((s[0]'(by omega)).toNat : Int)) (u0 : ((s[0]'(by omega)).toNat : Int) ≤ 43) (l1 : (48 : Int) ≤ ((s[1]'(by omega)).toNat : Int)) (u1 : ((s[1]'(by omega)).toNat : Int) ≤ 57) :
    Calls Yba.prog 7 #[.string s] w fun e w' => e = .returned (.bool true) ∧ w' = w := by
  go_enter Yba.func7, Yba.ntmps7
  go_wp2
  all_goals first | (exfalso; simp only [beq_eq_false_iff_ne, ne_eq, beq_iff_eq] at *; omega) | (go_ret; exact ⟨rfl, rfl⟩) | (go_ret; exact ⟨ret_bool (by simp; omega), rfl⟩)

theorem b_sdot2p (s : ByteArray) (w : World) (hz : s.size = 2) (_hm : s.size ≤ 9223372036854775807) (l0 : (43 : Int) ≤ ((s[0]'(by omega)).toNat : Int)) (u0 : ((s[0]'(by omega)).toNat : Int) ≤ 43) (l1 : (46 : Int) ≤ ((s[1]'(by omega)).toNat : Int)) (u1 : ((s[1]'(by omega)).toNat : Int) ≤ 46) :
    Calls Yba.prog 6 #[.string s] w fun e w' => e = .returned (.bool false) ∧ w' = w := by
  go_enter Yba.func6, Yba.ntmps6
  go_wp2
  all_goals first | (exfalso; simp only [beq_eq_false_iff_ne, ne_eq, beq_iff_eq] at *; omega) | (go_ret; exact ⟨rfl, rfl⟩) | (go_ret; exact ⟨ret_bool (by simp; omega), rfl⟩)

theorem m_sdot2p (s : ByteArray) (w : World) (hz : s.size = 2) (_hm : s.size ≤ 9223372036854775807) (l0 : (43 : Int) ≤ ((s[0]'(by omega)).toNat : Int)) (u0 : ((s[0]'(by omega)).toNat : Int) ≤ 43) (l1 : (46 : Int) ≤ ((s[1]'(by omega)).toNat : Int)) (u1 : ((s[1]'(by omega)).toNat : Int) ≤ 46) :
    Calls Yba.prog 7 #[.string s] w fun e w' => e = .returned (.bool false) ∧ w' = w := by
  go_enter Yba.func7, Yba.ntmps7
  go_wp2
  all_goals first | (exfalso; simp only [beq_eq_false_iff_ne, ne_eq, beq_iff_eq] at *; omega) | (go_ret; exact ⟨rfl, rfl⟩) | (go_ret; exact ⟨ret_bool (by simp; omega), rfl⟩)

theorem b_sdotdp (s : ByteArray) (w : World) (hz : 3 ≤ s.size) (_hm : s.size ≤ 9223372036854775807) (l0 : (43 : Int) ≤ ((s[0]'(by omega)).toNat : Int)) (u0 : ((s[0]'(by omega)).toNat : Int) ≤ 43) (l1 : (46 : Int) ≤ ((s[1]'(by omega)).toNat : Int)) (u1 : ((s[1]'(by omega)).toNat : Int) ≤ 46) (l2 : (48 : Int) ≤ ((s[2]'(by omega)).toNat : Int)) (u2 : ((s[2]'(by omega)).toNat : Int) ≤ 57) :
    Calls Yba.prog 6 #[.string s] w fun e w' => e = .returned (.bool true) ∧ w' = w := by
  go_enter Yba.func6, Yba.ntmps6
  go_wp2
  all_goals first | (exfalso; simp only [beq_eq_false_iff_ne, ne_eq, beq_iff_eq] at *; omega) | (go_ret; exact ⟨rfl, rfl⟩) | (go_ret; exact ⟨ret_bool (by simp; omega), rfl⟩)

theorem m_sdotdp (s : ByteArray) (w : World) (hz : 3 ≤ s.size) (_hm : s.size ≤ 9223372036854775807) (l0 : (43 : Int) ≤ ((s[0]'(by omega)).toNat : Int)) (u0 : ((s[0]'(by omega)).toNat : Int) ≤ 43) (l1 : (46 : Int) ≤ ((s[1]'(by omega)).toNat : Int)) (u1 : ((s[1]'(by omega)).toNat : Int) ≤ 46) (l2 : (48 : Int) ≤ ((s[2]'(by omega)).toNat : Int)) (u2 : ((s[2]'(by omega)).toNat : Int) ≤ 57) :
    Calls Yba.prog 7 #[.string s] w fun e w' => e = .returned (.bool true) ∧ w' = w := by
  go_enter Yba.func7, Yba.ntmps7
  go_wp2
  all_goals first | (exfalso; simp only [beq_eq_false_iff_ne, ne_eq, beq_iff_eq] at *; omega) | (go_ret; exact ⟨rfl, rfl⟩) | (go_ret; exact ⟨ret_bool (by simp; omega), rfl⟩)

theorem b_sdotLp (s : ByteArray) (w : World) (hz : 3 ≤ s.size) (_hm : s.size ≤ 9223372036854775807) (l0 : (43 : Int) ≤ ((s[0]'(by omega)).toNat : Int)) (u0 : ((s[0]'(by omega)).toNat : Int) ≤ 43) (l1 : (46 : Int) ≤ ((s[1]'(by omega)).toNat : Int)) (u1 : ((s[1]'(by omega)).toNat : Int) ≤ 46) (l2 : (0 : Int) ≤ ((s[2]'(by omega)).toNat : Int)) (u2 : ((s[2]'(by omega)).toNat : Int) ≤ 47) :
    Calls Yba.prog 6 #[.string s] w fun e w' => e = .returned (.bool false) ∧ w' = w := by
  go_enter Yba.func6, Yba.ntmps6
  go_wp2
  all_goals first | (exfalso; simp only [beq_eq_false_iff_ne, ne_eq, beq_iff_eq] at *; omega) | (go_ret; exact ⟨rfl, rfl⟩) | (go_ret; exact ⟨ret_bool (by simp; omega), rfl⟩)

theorem m_sdotLp (s : ByteArray) (w : World) (hz : 3 ≤ s.size) (_hm : s.size ≤ 9223372036854775807) (l0 : (43 : Int) ≤ ((s[0]'(by omega)).toNat : Int)) (u0 : ((s[0]'(by omega)).toNat : Int) ≤ 43) (l1 : (46 : Int) ≤ ((s[1]'(by omega)).toNat : Int)) (u1 : ((s[1]'(by omega)).toNat : Int) ≤ 46) (l2 : (0 : Int) ≤ ((s[2]'(by omega)).toNat : Int)) (u2 : ((s[2]'(by omega)).toNat : Int) ≤ 47) :
    Calls Yba.prog 7 #[.string s] w fun e w' => e = .returned (.bool false) ∧ w' = w := by
  go_enter Yba.func7, Yba.ntmps7
  go_wp2
  all_goals first | (exfalso; simp only [beq_eq_false_iff_ne, ne_eq, beq_iff_eq] at *; omega) | (go_ret; exact ⟨rfl, rfl⟩) | (go_ret; exact ⟨ret_bool (by simp; omega), rfl⟩)

theorem b_sdotHp (s : ByteArray) (w : World) (hz : 3 ≤ s.size) (_hm : s.size ≤ 9223372036854775807) (l0 : (43 : Int) ≤ ((s[0]'(by omega)).toNat : Int)) (u0 : ((s[0]'(by omega)).toNat : Int) ≤ 43) (l1 : (46 : Int) ≤ ((s[1]'(by omega)).toNat : Int)) (u1 : ((s[1]'(by omega)).toNat : Int) ≤ 46) (l2 : (58 : Int) ≤ ((s[2]'(by omega)).toNat : Int)) (u2 : ((s[2]'(by omega)).toNat : Int) ≤ 255) :
    Calls Yba.prog 6 #[.string s] w fun e w' => e = .returned (.bool false) ∧ w' = w := by
  go_enter Yba.func6, Yba.ntmps6
  go_wp2
  all_goals first | (exfalso; simp only [beq_eq_false_iff_ne, ne_eq, beq_iff_eq] at *; omega) | (go_ret; exact ⟨rfl, rfl⟩) | (go_ret; exact ⟨ret_bool (by simp; omega), rfl⟩)

theorem m_sdotHp (s : ByteArray) (w : World) (hz : 3 ≤ s.size) (_hm : s.size ≤ 9223372036854775807) (l0 : (43 : Int) ≤ ((s[0]'(by omega)).toNat : Int)) (u0 : ((s[0]'(by omega)).toNat : Int) ≤ 43) (l1 : (46 : Int) ≤ ((s[1]'(by omega)).toNat : Int)) (u1 : ((s[1]'(by omega)).toNat : Int) ≤ 46) (l2 : (58 : Int) ≤ ((s[2]'(by omega)).toNat : Int)) (u2 : ((s[2]'(by omega)).toNat : Int) ≤ 255) :
    Calls Yba.prog 7 #[.string s] w fun e w' => e = .returned (.bool false) ∧ w' = w := by
  go_enter Yba.func7, Yba.ntmps7
  go_wp2
  all_goals first | (exfalso; simp only [beq_eq_false_iff_ne, ne_eq, beq_iff_eq] at *; omega) | (go_ret; exact ⟨rfl, rfl⟩) | (go_ret; exact ⟨ret_bool (by simp; omega), rfl⟩)

theorem b_sxLp (s : ByteArray) (w : World) (hz : 2 ≤ s.size) (_hm : s.size ≤ 9223372036854775807) (l0 : (43 : Int) ≤ ((s[0]'(by omega)).toNat : Int)) (u0 : ((s[0]'(by omega)).toNat : Int) ≤ 43) (l1 : (0 : Int) ≤ ((s[1]'(by omega)).toNat : Int)) (u1 : ((s[1]'(by omega)).toNat : Int) ≤ 45) :
    Calls Yba.prog 6 #[.string s] w fun e w' => e = .returned (.bool false) ∧ w' = w := by
  go_enter Yba.func6, Yba.ntmps6
  go_wp2
  all_goals first | (exfalso; simp only [beq_eq_false_iff_ne, ne_eq, beq_iff_eq] at *; omega) | (go_ret; exact ⟨rfl, rfl⟩) | (go_ret; exact ⟨ret_bool (by simp; omega), rfl⟩)

theorem m_sxLp (s : ByteArray) (w : World) (hz : 2 ≤ s.size) (_hm : s.size ≤ 9223372036854775807) (l0 : (43 : Int) ≤ ((s[0]'(by omega)).toNat : Int)) (u0 : ((s[0]'(by omega)).toNat : Int) ≤ 43) (l1 : (0 : Int) ≤ ((s[1]'(by omega)).toNat : Int)) (u1 : ((s[1]'(by omega)).toNat : Int) ≤ 45) :
    Calls Yba.prog 7 #[.string s] w fun e w' => e = .returned (.bool false) ∧ w' = w := by
  go_enter Yba.func7, Yba.ntmps7
  go_wp2
  all_goals first | (exfalso; simp only [beq_eq_false_iff_ne, ne_eq, beq_iff_eq] at *; omega) | (go_ret; exact ⟨rfl, rfl⟩) | (go_ret; exact ⟨ret_bool (by simp; omega), rfl⟩)

theorem b_sxMp (s : ByteArray) (w : World) (hz : 2 ≤ s.size) (_hm : s.size ≤ 9223372036854775807) (l0 : (43 : Int) ≤ ((s[0]'(by omega)).toNat : Int)) (u0 : ((s[0]'(by omega)).toNat : Int) ≤ 43) (l1 : (47 : Int) ≤ ((s[1]'(by omega)).toNat : Int)) (u1 : ((s[1]'(by omega)).toNat : Int) ≤ 47) :
    Calls Yba.prog 6 #[.string s] w fun e w' => e = .returned (.bool false) ∧ w' = w := by
  go_enter Yba.func6, Yba.ntmps6
  go_wp2
  all_goals first | (exfalso; simp only [beq_eq_false_iff_ne, ne_eq, beq_iff_eq] at *; omega) | (go_ret; exact ⟨rfl, rfl⟩) | (go_ret; exact ⟨ret_bool (by simp; omega), rfl⟩)

theorem m_sxMp (s : ByteArray) (w : World) (hz : 2 ≤ s.size) (_hm : s.size ≤ 9223372036854775807) (l0 : (43 : Int) ≤ ((s[0]'(by omega)).toNat : Int)) (u0 : ((s[0]'(by omega)).toNat : Int) ≤ 43) (l1 : (47 : Int) ≤ ((s[1]'(by omega)).toNat : Int)) (u1 : ((s[1]'(by omega)).toNat : Int) ≤ 47) :
    Calls Yba.prog 7 #[.string s] w fun e w' => e = .returned (.bool false) ∧ w' = w := by
  go_enter Yba.func7, Yba.ntmps7
  go_wp2
  all_goals first | (exfalso; simp only [beq_eq_false_iff_ne, ne_eq, beq_iff_eq] at *; omega) | (go_ret; exact ⟨rfl, rfl⟩) | (go_ret; exact ⟨ret_bool (by simp; omega), rfl⟩)

theorem b_sxHp (s : ByteArray) (w : World) (hz : 2 ≤ s.size) (_hm : s.size ≤ 9223372036854775807) (l0 : (43 : Int) ≤ ((s[0]'(by omega)).toNat : Int)) (u0 : ((s[0]'(by omega)).toNat : Int) ≤ 43) (l1 : (58 : Int) ≤ ((s[1]'(by omega)).toNat : Int)) (u1 : ((s[1]'(by omega)).toNat : Int) ≤ 255) :
    Calls Yba.prog 6 #[.string s] w fun e w' => e = .returned (.bool false) ∧ w' = w := by
  go_enter Yba.func6, Yba.ntmps6
  go_wp2
  all_goals first | (exfalso; simp only [beq_eq_false_iff_ne, ne_eq, beq_iff_eq] at *; omega) | (go_ret; exact ⟨rfl, rfl⟩) | (go_ret; exact ⟨ret_bool (by simp; omega), rfl⟩)

theorem m_sxHp (s : ByteArray) (w : World) (hz : 2 ≤ s.size) (_hm : s.size ≤ 9223372036854775807) (l0 : (43 : Int) ≤ ((s[0]'(by omega)).toNat : Int)) (u0 : ((s[0]'(by omega)).toNat : Int) ≤ 43) (l1 : (58 : Int) ≤ ((s[1]'(by omega)).toNat : Int)) (u1 : ((s[1]'(by omega)).toNat : Int) ≤ 255) :
    Calls Yba.prog 7 #[.string s] w fun e w' => e = .returned (.bool false) ∧ w' = w := by
  go_enter Yba.func7, Yba.ntmps7
  go_wp2
  all_goals first | (exfalso; simp only [beq_eq_false_iff_ne, ne_eq, beq_iff_eq] at *; omega) | (go_ret; exact ⟨rfl, rfl⟩) | (go_ret; exact ⟨ret_bool (by simp; omega), rfl⟩)

theorem b_s1m (s : ByteArray) (w : World) (hz : s.size = 1) (_hm : s.size ≤ 9223372036854775807) (l0 : (45 : Int) ≤ ((s[0]'(by omega)).toNat : Int)) (u0 : ((s[0]'(by omega)).toNat : Int) ≤ 45) :
    Calls Yba.prog 6 #[.string s] w fun e w' => e = .returned (.bool false) ∧ w' = w := by
  go_enter Yba.func6, Yba.ntmps6
  go_wp2
  all_goals first | (exfalso; simp only [beq_eq_false_iff_ne, ne_eq, beq_iff_eq] at *; omega) | (go_ret; exact ⟨rfl, rfl⟩) | (go_ret; exact ⟨ret_bool (by simp; omega), rfl⟩)

theorem m_s1m (s : ByteArray) (w : World) (hz : s.size = 1) (_hm : s.size ≤ 9223372036854775807) (l0 : (45 : Int) ≤ ((s[0]'(by omega)).toNat : Int)) (u0 : ((s[0]'(by omega)).toNat : Int) ≤ 45) :
    Calls Yba.prog 7 #[.string s] w fun e w' => e = .returned (.bool false) ∧ w' = w := by
  go_enter Yba.func7, Yba.ntmps7
  go_wp2
  all_goals first | (exfalso; simp only [beq_eq_false_iff_ne, ne_eq, beq_iff_eq] at *; omega) | (go_ret; exact ⟨rfl, rfl⟩) | (go_ret; exact ⟨ret_bool (by simp; omega), rfl⟩)

theorem b_sdm (s : ByteArray) (w : World) (hz : 2 ≤ s.size) (_hm : s.size ≤ 9223372036854775807) (l0 : (45 : Int) ≤ ((s[0]'(by omega)).toNat : Int)) (u0 : ((s[0]'(by omega)).toNat : Int) ≤ 45) (l1 : (48 : Int) ≤ ((s[1]'(by omega)).toNat : Int)) (u1 : ((s[1]'(by omega)).toNat : Int) ≤ 57) :
    Calls Yba.prog 6 #[.string s] w fun e w' => e = .returned (.bool true) ∧ w' = w := by
  go_enter Yba.func6, Yba.ntmps6
  go_wp2
  all_goals first | (exfalso; simp only [beq_eq_false_iff_ne, ne_eq, beq_iff_eq] at *; omega) | (go_ret; exact ⟨rfl, rfl⟩) | (go_ret; exact ⟨ret_bool (by simp; omega), rfl⟩)

theorem m_sdm (s : ByteArray) (w : World) (hz : 2 ≤ s.size) (_hm : s.size ≤ 9223372036854775807) (l0 : (45 : Int) ≤ ((s[0]'(by omega)).toNat : Int)) (u0 : ((s[0]'(by omega)).toNat : Int) ≤ 45) (l1 : (48 : Int) ≤ ((s[1]'(by omega)).toNat : Int)) (u1 : ((s[1]'(by omega)).toNat : Int) ≤ 57) :
    Calls Yba.prog 7 #[.string s] w fun e w' => e = .returned (.bool true) ∧ w' = w := by
  go_enter Yba.func7, Yba.ntmps7
  go_wp2
  all_goals first | (exfalso; simp only [beq_eq_false_iff_ne, ne_eq, beq_iff_eq] at *; omega) | (go_ret; exact ⟨rfl, rfl⟩) | (go_ret; exact ⟨ret_bool (by simp; omega), rfl⟩)

theorem b_sdot2m (s : ByteArray) (w : World) (hz : s.size = 2) (_hm : s.size ≤ 9223372036854775807) (l0 : (45 : Int) ≤ ((s[0]'(by omega)).toNat : Int)) (u0 : ((s[0]'(by omega)).toNat : Int) ≤ 45) (l1 : (46 : Int) ≤ ((s[1]'(by omega)).toNat : Int)) (u1 : ((s[1]'(by omega)).toNat : Int) ≤ 46) :
    Calls Yba.prog 6 #[.string s] w fun e w' => e = .returned (.bool false) ∧ w' = w := by
  go_enter Yba.func6, Yba.ntmps6
  go_wp2
  all_goals first | (exfalso; simp only [beq_eq_false_iff_ne, ne_eq, beq_iff_eq] at *; omega) | (go_ret; exact ⟨rfl, rfl⟩) | (go_ret; exact ⟨ret_bool (by simp; omega), rfl⟩)

theorem m_sdot2m (s : ByteArray) (w : World) (hz : s.size = 2) (_hm : s.size ≤ 9223372036854775807) (l0 : (45 : Int) ≤ ((s[0]'(by omega)).toNat : Int)) (u0 : ((s[0]'(by omega)).toNat : Int) ≤ 45) (l1 : (46 : Int) ≤ ((s[1]'(by omega)).toNat : Int)) (u1 : ((s[1]'(by omega)).toNat : Int) ≤ 46) :
    Calls Yba.prog 7 #[.string s] w fun e w' => e = .returned (.bool false) ∧ w' = w := by
  go_enter Yba.func7, Yba.ntmps7
  go_wp2
  all_goals first | (exfalso; simp only [beq_eq_false_iff_ne, ne_eq, beq_iff_eq] at *; omega) | (go_ret; exact ⟨rfl, rfl⟩) | (go_ret; exact ⟨ret_bool (by simp; omega), rfl⟩)

theorem b_sdotdm (s : ByteArray) (w : World) (hz : 3 ≤ s.size) (_hm : s.size ≤ 9223372036854775807) (l0 : (45 : Int) ≤ ((s[0]'(by omega)).toNat : Int)) (u0 : ((s[0]'(by omega)).toNat : Int) ≤ 45) (l1 : (46 : Int) ≤ ((s[1]'(by omega)).toNat : Int)) (u1 : ((s[1]'(by omega)).toNat : Int) ≤ 46) (l2 : (48 : Int) ≤ ((s[2]'(by omega)).toNat : Int)) (u2 : ((s[2]'(by omega)).toNat : Int) ≤ 57) :
    Calls Yba.prog 6 #[.string s] w fun e w' => e = .returned (.bool true) ∧ w' = w := by
  go_enter Yba.func6, Yba.ntmps6
  go_wp2
  all_goals first | (exfalso; simp only [beq_eq_false_iff_ne, ne_eq, beq_iff_eq] at *; omega) | (go_ret; exact ⟨rfl, rfl⟩) | (go_ret; exact ⟨ret_bool (by simp; omega), rfl⟩)

theorem m_sdotdm (s : ByteArray) (w : World) (hz : 3 ≤ s.size) (_hm : s.size ≤ 9223372036854775807) (l0 : (45 : Int) ≤ ((s[0]'(by omega)).toNat : Int)) (u0 : ((s[0]'(by omega)).toNat : Int) ≤ 45) (l1 : (46 : Int) ≤ ((s[1]'(by omega)).toNat : Int)) (u1 : ((s[1]'(by omega)).toNat : Int) ≤ 46) (l2 : (48 : Int) ≤ ((s[2]'(by omega)).toNat : Int)) (u2 : ((s[2]'(by omega)).toNat : Int) ≤ 57) :
    Calls Yba.prog 7 #[.string s] w fun e w' => e = .returned (.bool true) ∧ w' = w := by
  go_enter Yba.func7, Yba.ntmps7
  go_wp2
  all_goals first | (exfalso; simp only [beq_eq_false_iff_ne, ne_eq, beq_iff_eq] at *; omega) | (go_ret; exact ⟨rfl, rfl⟩) | (go_ret; exact ⟨ret_bool (by simp; omega), rfl⟩)

theorem b_sdotLm (s : ByteArray) (w : World) (hz : 3 ≤ s.size) (_hm : s.size ≤ 9223372036854775807) (l0 : (45 : Int) ≤ ((s[0]'(by omega)).toNat : Int)) (u0 : ((s[0]'(by omega)).toNat : Int) ≤ 45) (l1 : (46 : Int) ≤ ((s[1]'(by omega)).toNat : Int)) (u1 : ((s[1]'(by omega)).toNat : Int) ≤ 46) (l2 : (0 : Int) ≤ ((s[2]'(by omega)).toNat : Int)) (u2 : ((s[2]'(by omega)).toNat : Int) ≤ 47) :
    Calls Yba.prog 6 #[.string s] w fun e w' => e = .returned (.bool false) ∧ w' = w := by
  go_enter Yba.func6, Yba.ntmps6
  go_wp2
  all_goals first | (exfalso; simp only [beq_eq_false_iff_ne, ne_eq, beq_iff_eq] at *; omega) | (go_ret; exact ⟨rfl, rfl⟩) | (go_ret; exact ⟨ret_bool (by simp; omega), rfl⟩)

theorem m_sdotLm (s : ByteArray) (w : World) (hz : 3 ≤ s.size) (_hm : s.size ≤ 9223372036854775807) (l0 : (45 : Int) ≤ ((s[0]'(by omega)).toNat : Int)) (u0 : ((s[0]'(by omega)).toNat : Int) ≤ 45) (l1 : (46 : Int) ≤ ((s[1]'(by omega)).toNat : Int)) (u1 : ((s[1]'(by omega)).toNat : Int) ≤ 46) (l2 : (0 : Int) ≤ ((s[2]'(by omega)).toNat : Int)) (u2 : ((s[2]'(by omega)).toNat : Int) ≤ 47) :
    Calls Yba.prog 7 #[.string s] w fun e w' => e = .returned (.bool false) ∧ w' = w := by
  go_enter Yba.func7, Yba.ntmps7
  go_wp2
  all_goals first | (exfalso; simp only [beq_eq_false_iff_ne, ne_eq, beq_iff_eq] at *; omega) | (go_ret; exact ⟨rfl, rfl⟩) | (go_ret; exact ⟨ret_bool (by simp; omega), rfl⟩)

theorem b_sdotHm (s : ByteArray) (w : World) (hz : 3 ≤ s.size) (_hm : s.size ≤ 9223372036854775807) (l0 : (45 : Int) ≤ ((s[0]'(by omega)).toNat : Int)) (u0 : ((s[0]'(by omega)).toNat : Int) ≤ 45) (l1 : (46 : Int) ≤ ((s[1]'(by omega)).toNat : Int)) (u1 : ((s[1]'(by omega)).toNat : Int) ≤ 46) (l2 : (58 : Int) ≤ ((s[2]'(by omega)).toNat : Int)) (u2 : ((s[2]'(by omega)).toNat : Int) ≤ 255) :
    Calls Yba.prog 6 #[.string s] w fun e w' => e = .returned (.bool false) ∧ w' = w := by
  go_enter Yba.func6, Yba.ntmps6
  go_wp2
  all_goals first | (exfalso; simp only [beq_eq_false_iff_ne, ne_eq, beq_iff_eq] at *; omega) | (go_ret; exact ⟨rfl, rfl⟩) | (go_ret; exact ⟨ret_bool (by simp; omega), rfl⟩)

theorem m_sdotHm (s : ByteArray) (w : World) (hz : 3 ≤ s.size) (_hm : s.size ≤ 9223372036854775807) (l0 : (45 : Int) ≤ ((s[0]'(by omega)).toNat : Int)) (u0 : ((s[0]'(by omega)).toNat : Int) ≤ 45) (l1 : (46 : Int) ≤ ((s[1]'(by omega)).toNat : Int)) (u1 : ((s[1]'(by omega)).toNat : Int) ≤ 46) (l2 : (58 : Int) ≤ ((s[2]'(by omega)).toNat : Int)) (u2 : ((s[2]'(by omega)).toNat : Int) ≤ 255) :
    Calls Yba.prog 7 #[.string s] w fun e w' => e = .returned (.bool false) ∧ w' = w := by
  go_enter Yba.func7, Yba.ntmps7
  go_wp2
  all_goals first | (exfalso; simp only [beq_eq_false_iff_ne, ne_eq, beq_iff_eq] at *; omega) | (go_ret; exact ⟨rfl, rfl⟩) | (go_ret; exact ⟨ret_bool (by simp; omega), rfl⟩)

theorem b_sxLm (s : ByteArray) (w : World) (hz : 2 ≤ s.size) (_hm : s.size ≤ 9223372036854775807) (l0 : (45 : Int) ≤ ((s[0]'(by omega)).toNat : Int)) (u0 : ((s[0]'(by omega)).toNat : Int) ≤ 45) (l1 : (0 : Int) ≤ ((s[1]'(by omega)).toNat : Int)) (u1 : ((s[1]'(by omega)).toNat : Int) ≤ 45) :
    Calls Yba.prog 6 #[.string s] w fun e w' => e = .returned (.bool false) ∧ w' = w := by
  go_enter Yba.func6, Yba.ntmps6
  go_wp2
  all_goals first | (exfalso; simp only [beq_eq_false_iff_ne, ne_eq, beq_iff_eq] at *; omega) | (go_ret; exact ⟨rfl, rfl⟩) | (go_ret; exact ⟨ret_bool (by simp; omega), rfl⟩)

theorem m_sxLm (s : ByteArray) (w : World) (hz : 2 ≤ s.size) (_hm : s.size ≤ 9223372036854775807) (l0 : (45 : Int) ≤ ((s[0]'(by omega)).toNat : Int)) (u0 : ((s[0]'(by omega)).toNat : Int) ≤ 45) (l1 : (0 : Int) ≤ ((s[1]'(by omega)).toNat : Int)) (u1 : ((s[1]'(by omega)).toNat : Int) ≤ 45) :
    Calls Yba.prog 7 #[.string s] w fun e w' => e = .returned (.bool false) ∧ w' = w := by
  go_enter Yba.func7, Yba.ntmps7
  go_wp2
  all_goals first | (exfalso; simp only [beq_eq_false_iff_ne, ne_eq, beq_iff_eq] at *; omega) | (go_ret; exact ⟨rfl, rfl⟩) | (go_ret; exact ⟨ret_bool (by simp; omega), rfl⟩)

theorem b_sxMm (s : ByteArray) (w : World) (hz : 2 ≤ s.size) (_hm : s.size ≤ 9223372036854775807) (l0 : (45 : Int) ≤ ((s[0]'(by omega)).toNat : Int)) (u0 : ((s[0]'(by omega)).toNat : Int) ≤ 45) (l1 : (47 : Int) ≤ ((s[1]'(by omega)).toNat : Int)) (u1 : ((s[1]'(by omega)).toNat : Int) ≤ 47) :
    Calls Yba.prog 6 #[.string s] w fun e w' => e = .returned (.bool false) ∧ w' = w := by
  go_enter Yba.func6, Yba.ntmps6
  go_wp2
  all_goals first | (exfalso; simp only [beq_eq_false_iff_ne, ne_eq, beq_iff_eq] at *; omega) | (go_ret; exact ⟨rfl, rfl⟩) | (go_ret; exact ⟨ret_bool (by simp; omega), rfl⟩)

theorem m_sxMm (s : ByteArray) (w : World) (hz : 2 ≤ s.size) (_hm : s.size ≤ 9223372036854775807) (l0 : (45 : Int) ≤ ((s[0]'(by omega)).toNat : Int)) (u0 : ((s[0]'(by omega)).toNat : Int) ≤ 45) (l1 : (47 : Int) ≤ ((s[1]'(by omega)).toNat : Int)) (u1 : ((s[1]'(by omega)).toNat : Int) ≤ 47) :
    Calls Yba.prog 7 #[.string s] w fun e w' => e = .returned (.bool false) ∧ w' = w := by
  go_enter Yba.func7, Yba.ntmps7
  go_wp2
  all_goals first | (exfalso; simp only [beq_eq_false_iff_ne, ne_eq, beq_iff_eq] at *; omega) | (go_ret; exact ⟨rfl, rfl⟩) | (go_ret; exact ⟨ret_bool (by simp; omega), rfl⟩)

theorem b_sxHm (s : ByteArray) (w : World) (hz : 2 ≤ s.size) (_hm : s.size ≤ 9223372036854775807) (l0 : (45 : Int) ≤ ((s[0]'(by omega)).toNat : Int)) (u0 : ((s[0]'(by omega)).toNat : Int) ≤ 45) (l1 : (58 : Int) ≤ ((s[1]'(by omega)).toNat : Int)) (u1 : ((s[1]'(by omega)).toNat : Int) ≤ 255) :
    Calls Yba.prog 6 #[.string s] w fun e w' => e = .returned (.bool false) ∧ w' = w := by
  go_enter Yba.func6, Yba.ntmps6
  go_wp2
  all_goals first | (exfalso; simp only [beq_eq_false_iff_ne, ne_eq, beq_iff_eq] at *; omega) | (go_ret; exact ⟨rfl, rfl⟩) | (go_ret; exact ⟨ret_bool (by simp; omega), rfl⟩)

theorem m_sxHm (s : ByteArray) (w : World) (hz : 2 ≤ s.size) (_hm : s.size ≤ 9223372036854775807) (l0 : (45 : Int) ≤ ((s[0]'(by omega)).toNat : Int)) (u0 : ((s[0]'(by omega)).toNat : Int) ≤ 45) (l1 : (58 : Int) ≤ ((s[1]'(by omega)).toNat : Int)) (u1 : ((s[1]'(by omega)).toNat : Int) ≤ 255) :
    Calls Yba.prog 7 #[.string s] w fun e w' => e = .returned (.bool false) ∧ w' = w := by
  go_enter Yba.func7, Yba.ntmps7
  go_wp2
  all_goals first | (exfalso; simp only [beq_eq_false_iff_ne, ne_eq, beq_iff_eq] at *; omega) | (go_ret; exact ⟨rfl, rfl⟩) | (go_ret; exact ⟨ret_bool (by simp; omega), rfl⟩)

theorem b_d1 (s : ByteArray) (w : World) (hz : s.size = 1) (_hm : s.size ≤ 9223372036854775807) (l0 : (46 : Int) ≤ ((s[0]'(by omega)).toNat : Int)) (u0 : ((s[0]'(by omega)).toNat : Int) ≤ 46) :
    Calls Yba.prog 6 #[.string s] w fun e w' => e = .returned (.bool false) ∧ w' = w := by
  go_enter Yba.func6, Yba.ntmps6
  go_wp2
  all_goals first | (exfalso; simp only [beq_eq_false_iff_ne, ne_eq, beq_iff_eq] at *; omega) | (go_ret; exact ⟨rfl, rfl⟩) | (go_ret; exact ⟨ret_bool (by simp; omega), rfl⟩)

theorem m_d1 (s : ByteArray) (w : World) (hz : s.size = 1) (_hm : s.size ≤ 9223372036854775807) (l0 : (46 : Int) ≤ ((s[0]'(by omega)).toNat : Int)) (u0 : ((s[0]'(by omega)).toNat : Int) ≤ 46) :
    Calls Yba.prog 7 #[.string s] w fun e w' => e = .returned (.bool false) ∧ w' = w := by
  go_enter Yba.func7, Yba.ntmps7
  go_wp2
  all_goals first | (exfalso; simp only [beq_eq_false_iff_ne, ne_eq, beq_iff_eq] at *; omega) | (go_ret; exact ⟨rfl, rfl⟩) | (go_ret; exact ⟨ret_bool (by simp; omega), rfl⟩)

theorem b_dd (s : ByteArray) (w : World) (hz : 2 ≤ s.size) (_hm : s.size ≤ 9223372036854775807) (l0 : (46 : Int) ≤ ((s[0]'(by omega)).toNat : Int)) (u0 : ((s[0]'(by omega)).toNat : Int) ≤ 46) (l1 : (48 : Int) ≤ ((s[1]'(by omega)).toNat : Int)) (u1 : ((s[1]'(by omega)).toNat : Int) ≤ 57) :
    Calls Yba.prog 6 #[.string s] w fun e w' => e = .returned (.bool true) ∧ w' = w := by
  go_enter Yba.func6, Yba.ntmps6
  go_wp2
  all_goals first | (exfalso; simp only [beq_eq_false_iff_ne, ne_eq, beq_iff_eq] at *; omega) | (go_ret; exact ⟨rfl, rfl⟩) | (go_ret; exact ⟨ret_bool (by simp; omega), rfl⟩)

theorem m_dd (s : ByteArray) (w : World) (hz : 2 ≤ s.size) (_hm : s.size ≤ 9223372036854775807) (l0 : (46 : Int) ≤ ((s[0]'(by omega)).toNat : Int)) (u0 : ((s[0]'(by omega)).toNat : Int) ≤ 46) (l1 : (48 : Int) ≤ ((s[1]'(by omega)).toNat : Int)) (u1 : ((s[1]'(by omega)).toNat : Int) ≤ 57) :
    Calls Yba.prog 7 #[.string s] w fun e w' => e = .returned (.bool true) ∧ w' = w := by
  go_enter Yba.func7, Yba.ntmps7
  go_wp2
  all_goals first | (exfalso; simp only [beq_eq_false_iff_ne, ne_eq, beq_iff_eq] at *; omega) | (go_ret; exact ⟨rfl, rfl⟩) | (go_ret; exact ⟨ret_bool (by simp; omega), rfl⟩)

theorem b_dL (s : ByteArray) (w : World) (hz : 2 ≤ s.size) (_hm : s.size ≤ 9223372036854775807) (l0 : (46 : Int) ≤ ((s[0]'(by omega)).toNat : Int)) (u0 : ((s[0]'(by omega)).toNat : Int) ≤ 46) (l1 : (0 : Int) ≤ ((s[1]'(by omega)).toNat : Int)) (u1 : ((s[1]'(by omega)).toNat : Int) ≤ 47) :
    Calls Yba.prog 6 #[.string s] w fun e w' => e = .returned (.bool false) ∧ w' = w := by
  go_enter Yba.func6, Yba.ntmps6
  go_wp2
  all_goals first | (exfalso; simp only [beq_eq_false_iff_ne, ne_eq, beq_iff_eq] at *; omega) | (go_ret; exact ⟨rfl, rfl⟩) | (go_ret; exact ⟨ret_bool (by simp; omega), rfl⟩)

theorem m_dL (s : ByteArray) (w : World) (hz : 2 ≤ s.size) (_hm : s.size ≤ 9223372036854775807) (l0 : (46 : Int) ≤ ((s[0]'(by omega)).toNat : Int)) (u0 : ((s[0]'(by omega)).toNat : Int) ≤ 46) (l1 : (0 : Int) ≤ ((s[1]'(by omega)).toNat : Int)) (u1 : ((s[1]'(by omega)).toNat : Int) ≤ 47) :
    Calls Yba.prog 7 #[.string s] w fun e w' => e = .returned (.bool false) ∧ w' = w := by
  go_enter Yba.func7, Yba.ntmps7
  go_wp2
  all_goals first | (exfalso; simp only [beq_eq_false_iff_ne, ne_eq, beq_iff_eq] at *; omega) | (go_ret; exact ⟨rfl, rfl⟩) | (go_ret; exact ⟨ret_bool (by simp; omega), rfl⟩)

theorem b_dH (s : ByteArray) (w : World) (hz : 2 ≤ s.size) (_hm : s.size ≤ 9223372036854775807) (l0 : (46 : Int) ≤ ((s[0]'(by omega)).toNat : Int)) (u0 : ((s[0]'(by omega)).toNat : Int) ≤ 46) (l1 : (58 : Int) ≤ ((s[1]'(by omega)).toNat : Int)) (u1 : ((s[1]'(by omega)).toNat : Int) ≤ 255) :
    Calls Yba.prog 6 #[.string s] w fun e w' => e = .returned (.bool false) ∧ w' = w := by
  go_enter Yba.func6, Yba.ntmps6
  go_wp2
  all_goals first | (exfalso; simp only [beq_eq_false_iff_ne, ne_eq, beq_iff_eq] at *; omega) | (go_ret; exact ⟨rfl, rfl⟩) | (go_ret; exact ⟨ret_bool (by simp; omega), rfl⟩)

theorem m_dH (s : ByteArray) (w : World) (hz : 2 ≤ s.size) (_hm : s.size ≤ 9223372036854775807) (l0 : (46 : Int) ≤ ((s[0]'(by omega)).toNat : Int)) (u0 : ((s[0]'(by omega)).toNat : Int) ≤ 46) (l1 : (58 : Int) ≤ ((s[1]'(by omega)).toNat : Int)) (u1 : ((s[1]'(by omega)).toNat : Int) ≤ 255) :
    Calls Yba.prog 7 #[.string s] w fun e w' => e = .returned (.bool false) ∧ w' = w := by
  go_enter Yba.func7, Yba.ntmps7
  go_wp2
  all_goals first | (exfalso; simp only [beq_eq_false_iff_ne, ne_eq, beq_iff_eq] at *; omega) | (go_ret; exact ⟨rfl, rfl⟩) | (go_ret; exact ⟨ret_bool (by simp; omega), rfl⟩)

theorem b_g (s : ByteArray) (w : World) (hz : 1 ≤ s.size) (_hm : s.size ≤ 9223372036854775807) (l0 : (48 : Int) ≤ ((s[0]'(by omega)).toNat : Int)) (u0 : ((s[0]'(by omega)).toNat : Int) ≤ 57) :
    Calls Yba.prog 6 #[.string s] w fun e w' => e = .returned (.bool true) ∧ w' = w := by
  go_enter Yba.func6, Yba.ntmps6
  go_wp2
  all_goals first | (exfalso; simp only [beq_eq_false_iff_ne, ne_eq, beq_iff_eq] at *; omega) | (go_ret; exact ⟨rfl, rfl⟩) | (go_ret; exact ⟨ret_bool (by simp; omega), rfl⟩)

theorem m_g (s : ByteArray) (w : World) (hz : 1 ≤ s.size) (_hm : s.size ≤ 9223372036854775807) (l0 : (48 : Int) ≤ ((s[0]'(by omega)).toNat : Int)) (u0 : ((s[0]'(by omega)).toNat : Int) ≤ 57) :
    Calls Yba.prog 7 #[.string s] w fun e w' => e = .returned (.bool true) ∧ w' = w := by
  go_enter Yba.func7, Yba.ntmps7
  go_wp2
  all_goals first | (exfalso; simp only [beq_eq_false_iff_ne, ne_eq, beq_iff_eq] at *; omega) | (go_ret; exact ⟨rfl, rfl⟩) | (go_ret; exact ⟨ret_bool (by simp; omega), rfl⟩)

theorem b_xa (s : ByteArray) (w : World) (hz : 1 ≤ s.size) (_hm : s.size ≤ 9223372036854775807) (l0 : (0 : Int) ≤ ((s[0]'(by omega)).toNat : Int)) (u0 : ((s[0]'(by omega)).toNat : Int) ≤ 42) :
    Calls Yba.prog 6 #[.string s] w fun e w' => e = .returned (.bool false) ∧ w' = w := by
  go_enter Yba.func6, Yba.ntmps6
  go_wp2
  all_goals first | (exfalso; simp only [beq_eq_false_iff_ne, ne_eq, beq_iff_eq] at *; omega) | (go_ret; exact ⟨rfl, rfl⟩) | (go_ret; exact ⟨ret_bool (by simp; omega), rfl⟩)

theorem m_xa (s : ByteArray) (w : World) (hz : 1 ≤ s.size) (_hm : s.size ≤ 9223372036854775807) (l0 : (0 : Int) ≤ ((s[0]'(by omega)).toNat : Int)) (u0 : ((s[0]'(by omega)).toNat : Int) ≤ 42) :
    Calls Yba.prog 7 #[.string s] w fun e w' => e = .returned (.bool false) ∧ w' = w := by
  go_enter Yba.func7, Yba.ntmps7
  go_wp2
  all_goals first | (exfalso; simp only [beq_eq_false_iff_ne, ne_eq, beq_iff_eq] at *; omega) | (go_ret; exact ⟨rfl, rfl⟩) | (go_ret; exact ⟨ret_bool (by simp; omega), rfl⟩)

theorem b_xb (s : ByteArray) (w : World) (hz : 1 ≤ s.size) (_hm : s.size ≤ 9223372036854775807) (l0 : (44 : Int) ≤ ((s[0]'(by omega)).toNat : Int)) (u0 : ((s[0]'(by omega)).toNat : Int) ≤ 44) :
    Calls Yba.prog 6 #[.string s] w fun e w' => e = .returned (.bool false) ∧ w' = w := by
  go_enter Yba.func6, Yba.ntmps6
  go_wp2
  all_goals first | (exfalso; simp only [beq_eq_false_iff_ne, ne_eq, beq_iff_eq] at *; omega) | (go_ret; exact ⟨rfl, rfl⟩) | (go_ret; exact ⟨ret_bool (by simp; omega), rfl⟩)

theorem m_xb (s : ByteArray) (w : World) (hz : 1 ≤ s.size) (_hm : s.size ≤ 9223372036854775807) (l0 : (44 : Int) ≤ ((s[0]'(by omega)).toNat : Int)) (u0 : ((s[0]'(by omega)).toNat : Int) ≤ 44) :
    Calls Yba.prog 7 #[.string s] w fun e w' => e = .returned (.bool false) ∧ w' = w := by
  go_enter Yba.func7, Yba.ntmps7
  go_wp2
  all_goals first | (exfalso; simp only [beq_eq_false_iff_ne, ne_eq, beq_iff_eq] at *; omega) | (go_ret; exact ⟨rfl, rfl⟩) | (go_ret; exact ⟨ret_bool (by simp; omega), rfl⟩)

theorem b_xc (s : ByteArray) (w : World) (hz : 1 ≤ s.size) (_hm : s.size ≤ 9223372036854775807) (l0 : (47 : Int) ≤ ((s[0]'(by omega)).toNat : Int)) (u0 : ((s[0]'(by omega)).toNat : Int) ≤ 47) :
    Calls Yba.prog 6 #[.string s] w fun e w' => e = .returned (.bool false) ∧ w' = w := by
  go_enter Yba.func6, Yba.ntmps6
  go_wp2
  all_goals first | (exfalso; simp only [beq_eq_false_iff_ne, ne_eq, beq_iff_eq] at *; omega) | (go_ret; exact ⟨rfl, rfl⟩) | (go_ret; exact ⟨ret_bool (by simp; omega), rfl⟩)

theorem m_xc (s : ByteArray) (w : World) (hz : 1 ≤ s.size) (_hm : s.size ≤ 9223372036854775807) (l0 : (47 : Int) ≤ ((s[0]'(by omega)).toNat : Int)) (u0 : ((s[0]'(by omega)).toNat : Int) ≤ 47) :
    Calls Yba.prog 7 #[.string s] w fun e w' => e = .returned (.bool false) ∧ w' = w := by
  go_enter Yba.func7, Yba.ntmps7
  go_wp2
  all_goals first | (exfalso; simp only [beq_eq_false_iff_ne, ne_eq, beq_iff_eq] at *; omega) | (go_ret; exact ⟨rfl, rfl⟩) | (go_ret; exact ⟨ret_bool (by simp; omega), rfl⟩)

theorem b_xd (s : ByteArray) (w : World) (hz : 1 ≤ s.size) (_hm : s.size ≤ 9223372036854775807) (l0 : (58 : Int) ≤ ((s[0]'(by omega)).toNat : Int)) (u0 : ((s[0]'(by omega)).toNat : Int) ≤ 255) :
    Calls Yba.prog 6 #[.string s] w fun e w' => e = .returned (.bool false) ∧ w' = w := by
  go_enter Yba.func6, Yba.ntmps6
  go_wp2
  all_goals first | (exfalso; simp only [beq_eq_false_iff_ne, ne_eq, beq_iff_eq] at *; omega) | (go_ret; exact ⟨rfl, rfl⟩) | (go_ret; exact ⟨ret_bool (by simp; omega), rfl⟩)

theorem m_xd (s : ByteArray) (w : World) (hz : 1 ≤ s.size) (_hm : s.size ≤ 9223372036854775807) (l0 : (58 : Int) ≤ ((s[0]'(by omega)).toNat : Int)) (u0 : ((s[0]'(by omega)).toNat : Int) ≤ 255) :
    Calls Yba.prog 7 #[.string s] w fun e w' => e = .returned (.bool false) ∧ w' = w := by
  go_enter Yba.func7, Yba.ntmps7
  go_wp2
  all_goals first | (exfalso; simp only [beq_eq_false_iff_ne, ne_eq, beq_iff_eq] at *; omega) | (go_ret; exact ⟨rfl, rfl⟩) | (go_ret; exact ⟨ret_bool (by simp; omega), rfl⟩)
end Go.Proofs.Ybulkdhie
