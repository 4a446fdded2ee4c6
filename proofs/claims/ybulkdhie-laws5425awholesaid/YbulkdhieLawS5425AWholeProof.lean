/-
  The proof of 'Rows.LawS5425AWholeSaid': the given shell, its hole filled.
-/
import Derived.Test.YbulkdhieRows
import Derived.WalkKit
import Derived.ProofKit
import Derived.OpenShut
import Derived.ShutString
import Derived.Test.YbulkdhieA
namespace Go.Proofs.Ybulkdhie.lawS5425AWhole
open Go.ChangeShapes Go.WideShapes Go.ChangeAt Go.RowKit
open Go.ChangeMaps (open_string shut_string)
set_option linter.unusedVariables false      -- a walk need not use every 'w<i>' (that an integer argument fits its kind)

theorem own : ownKnob Yba.prog.godebug = none := by kernel_rfl

/-- Whatever the name: beginsLikeNumber and the model answer alike. -/
theorem pair_any (s : ByteArray) (h : 1 ≤ s.size) (hm : s.size ≤ 9223372036854775807) :
    ∃ r : Bool, (∀ w, Calls Yba.prog 6 #[.string s] w fun e w' => e = .returned (.bool r) ∧ w' = w) ∧ ∀ w, Calls Yba.prog 7 #[.string s] w fun e w' => e = .returned (.bool r) ∧ w' = w := by
  have h0 : (s[0]'(by omega)).toNat < 256 := (s[0]'(by omega)).toNat_lt
  by_cases c1 : (s[0]'(by omega)).toNat = 43
  · by_cases z1 : s.size = 1
    · exact ⟨_, fun w => b_s1p s w (by omega) hm (by omega) (by omega), fun w => m_s1p s w (by omega) hm (by omega) (by omega)⟩
    · have h1 : (s[1]'(by omega)).toNat < 256 := (s[1]'(by omega)).toNat_lt
      by_cases d1 : 48 ≤ (s[1]'(by omega)).toNat ∧ (s[1]'(by omega)).toNat ≤ 57
      · exact ⟨_, fun w => b_sdp s w (by omega) hm (by omega) (by omega) (by omega) (by omega), fun w => m_sdp s w (by omega) hm (by omega) (by omega) (by omega) (by omega)⟩
      · by_cases p1 : (s[1]'(by omega)).toNat = 46
        · by_cases z2 : s.size = 2
          · exact ⟨_, fun w => b_sdot2p s w (by omega) hm (by omega) (by omega) (by omega) (by omega), fun w => m_sdot2p s w (by omega) hm (by omega) (by omega) (by omega) (by omega)⟩
          · have h2 : (s[2]'(by omega)).toNat < 256 := (s[2]'(by omega)).toNat_lt
            by_cases d2 : (s[2]'(by omega)).toNat < 48
            · exact ⟨_, fun w => b_sdotLp s w (by omega) hm (by omega) (by omega) (by omega) (by omega) (by omega) (by omega), fun w => m_sdotLp s w (by omega) hm (by omega) (by omega) (by omega) (by omega) (by omega) (by omega)⟩
            · by_cases d3 : (s[2]'(by omega)).toNat ≤ 57
              · exact ⟨_, fun w => b_sdotdp s w (by omega) hm (by omega) (by omega) (by omega) (by omega) (by omega) (by omega), fun w => m_sdotdp s w (by omega) hm (by omega) (by omega) (by omega) (by omega) (by omega) (by omega)⟩
              · exact ⟨_, fun w => b_sdotHp s w (by omega) hm (by omega) (by omega) (by omega) (by omega) (by omega) (by omega), fun w => m_sdotHp s w (by omega) hm (by omega) (by omega) (by omega) (by omega) (by omega) (by omega)⟩
        · by_cases q1 : (s[1]'(by omega)).toNat < 46
          · exact ⟨_, fun w => b_sxLp s w (by omega) hm (by omega) (by omega) (by omega) (by omega), fun w => m_sxLp s w (by omega) hm (by omega) (by omega) (by omega) (by omega)⟩
          · by_cases q2 : (s[1]'(by omega)).toNat = 47
            · exact ⟨_, fun w => b_sxMp s w (by omega) hm (by omega) (by omega) (by omega) (by omega), fun w => m_sxMp s w (by omega) hm (by omega) (by omega) (by omega) (by omega)⟩
            · exact ⟨_, fun w => b_sxHp s w (by omega) hm (by omega) (by omega) (by omega) (by omega), fun w => m_sxHp s w (by omega) hm (by omega) (by omega) (by omega) (by omega)⟩
  by_cases c2 : (s[0]'(by omega)).toNat = 45
  · by_cases z1 : s.size = 1
    · exact ⟨_, fun w => b_s1m s w (by omega) hm (by omega) (by omega), fun w => m_s1m s w (by omega) hm (by omega) (by omega)⟩
    · have h1 : (s[1]'(by omega)).toNat < 256 := (s[1]'(by omega)).toNat_lt
      by_cases d1 : 48 ≤ (s[1]'(by omega)).toNat ∧ (s[1]'(by omega)).toNat ≤ 57
      · exact ⟨_, fun w => b_sdm s w (by omega) hm (by omega) (by omega) (by omega) (by omega), fun w => m_sdm s w (by omega) hm (by omega) (by omega) (by omega) (by omega)⟩
      · by_cases p1 : (s[1]'(by omega)).toNat = 46
        · by_cases z2 : s.size = 2
          · exact ⟨_, fun w => b_sdot2m s w (by omega) hm (by omega) (by omega) (by omega) (by omega), fun w => m_sdot2m s w (by omega) hm (by omega) (by omega) (by omega) (by omega)⟩
          · have h2 : (s[2]'(by omega)).toNat < 256 := (s[2]'(by omega)).toNat_lt
            by_cases d2 : (s[2]'(by omega)).toNat < 48
            · exact ⟨_, fun w => b_sdotLm s w (by omega) hm (by omega) (by omega) (by omega) (by omega) (by omega) (by omega), fun w => m_sdotLm s w (by omega) hm (by omega) (by omega) (by omega) (by omega) (by omega) (by omega)⟩
            · by_cases d3 : (s[2]'(by omega)).toNat ≤ 57
              · exact ⟨_, fun w => b_sdotdm s w (by omega) hm (by omega) (by omega) (by omega) (by omega) (by omega) (by omega), fun w => m_sdotdm s w (by omega) hm (by omega) (by omega) (by omega) (by omega) (by omega) (by omega)⟩
              · exact ⟨_, fun w => b_sdotHm s w (by omega) hm (by omega) (by omega) (by omega) (by omega) (by omega) (by omega), fun w => m_sdotHm s w (by omega) hm (by omega) (by omega) (by omega) (by omega) (by omega) (by omega)⟩
        · by_cases q1 : (s[1]'(by omega)).toNat < 46
          · exact ⟨_, fun w => b_sxLm s w (by omega) hm (by omega) (by omega) (by omega) (by omega), fun w => m_sxLm s w (by omega) hm (by omega) (by omega) (by omega) (by omega)⟩
          · by_cases q2 : (s[1]'(by omega)).toNat = 47
            · exact ⟨_, fun w => b_sxMm s w (by omega) hm (by omega) (by omega) (by omega) (by omega), fun w => m_sxMm s w (by omega) hm (by omega) (by omega) (by omega) (by omega)⟩
            · exact ⟨_, fun w => b_sxHm s w (by omega) hm (by omega) (by omega) (by omega) (by omega), fun w => m_sxHm s w (by omega) hm (by omega) (by omega) (by omega) (by omega)⟩
  by_cases c3 : (s[0]'(by omega)).toNat = 46
  · by_cases z1 : s.size = 1
    · exact ⟨_, fun w => b_d1 s w (by omega) hm (by omega) (by omega), fun w => m_d1 s w (by omega) hm (by omega) (by omega)⟩
    · have h1 : (s[1]'(by omega)).toNat < 256 := (s[1]'(by omega)).toNat_lt
      by_cases d1 : (s[1]'(by omega)).toNat < 48
      · exact ⟨_, fun w => b_dL s w (by omega) hm (by omega) (by omega) (by omega) (by omega), fun w => m_dL s w (by omega) hm (by omega) (by omega) (by omega) (by omega)⟩
      · by_cases d2 : (s[1]'(by omega)).toNat ≤ 57
        · exact ⟨_, fun w => b_dd s w (by omega) hm (by omega) (by omega) (by omega) (by omega), fun w => m_dd s w (by omega) hm (by omega) (by omega) (by omega) (by omega)⟩
        · exact ⟨_, fun w => b_dH s w (by omega) hm (by omega) (by omega) (by omega) (by omega), fun w => m_dH s w (by omega) hm (by omega) (by omega) (by omega) (by omega)⟩
  by_cases c4 : 48 ≤ (s[0]'(by omega)).toNat ∧ (s[0]'(by omega)).toNat ≤ 57
  · exact ⟨_, fun w => b_g s w (by omega) hm (by omega) (by omega), fun w => m_g s w (by omega) hm (by omega) (by omega)⟩
  by_cases c5 : (s[0]'(by omega)).toNat ≤ 42
  · exact ⟨_, fun w => b_xa s w (by omega) hm (by omega) (by omega), fun w => m_xa s w (by omega) hm (by omega) (by omega)⟩
  by_cases c6 : (s[0]'(by omega)).toNat = 44
  · exact ⟨_, fun w => b_xb s w (by omega) hm (by omega) (by omega), fun w => m_xb s w (by omega) hm (by omega) (by omega)⟩
  by_cases c7 : (s[0]'(by omega)).toNat = 47
  · exact ⟨_, fun w => b_xc s w (by omega) hm (by omega) (by omega), fun w => m_xc s w (by omega) hm (by omega) (by omega)⟩
  exact ⟨_, fun w => b_xd s w (by omega) hm (by omega) (by omega), fun w => m_xd s w (by omega) hm (by omega) (by omega)⟩

/-! ### THE WALK -/
theorem walk (a0 : ByteArray) (w0 : a0.size ≤ maxLen) (w : World) :
    Calls Yba.prog 3 #[.string a0] w fun e w' => e = .returned (.bool true) ∧ Grown w w' := by
  unfold maxLen at w0
  by_cases hz : a0.size = 0
  · have hz' : ((a0.size : Int) == 0) = true := by simp [hz]
    clear hz
    go_enter Yba.func3, Yba.ntmps3
    go_wp2
    go_ret
    exact ⟨rfl, Grown.refl _⟩
  · obtain ⟨r, hb, hm⟩ := pair_any a0 (by omega) w0
    have hz' : ((a0.size : Int) == 0) = false := beq_eq_false_iff_ne.2 (by omega)
    have HB : Hid (∀ w, Calls Yba.prog 6 #[.string a0] w fun e w' => e = .returned (.bool r) ∧ w' = w) := hb
    have HM : Hid (∀ w, Calls Yba.prog 7 #[.string a0] w fun e w' => e = .returned (.bool r) ∧ w' = w) := hm
    clear hb hm hz
    go_enter Yba.func3, Yba.ntmps3
    go_wp2_with fail
    refine (HB.out _).mono ?_
    rintro e w' ⟨rfl, rfl⟩
    go_wp2_with fail
    refine (HM.out _).mono ?_
    rintro e w' ⟨rfl, rfl⟩
    cases r
    all_goals
      go_wp2
      go_ret
      exact ⟨rfl, Grown.refl _⟩

/-! ### THE ROW's STEP: WRITTEN OUT: LEAVE IT -/
set_option maxRecDepth 100000 in
theorem lifted (os : Os) (started : os.Started) (H : Type) (enc : TypeId × Value → H) :
    ReturnsInHanded {} Yba.checked os 3 .any (Rows.lawS5425AWholeSpec.pre6 enc Yba.prog Yba.f3 Rows.lawS5425AWholeRow.domain false) (Rows.lawS5425AWholeSpec.post enc Yba.prog Yba.f3 false true false false) := by
  refine returnsInHanded_of_change (C := Yba.checked) own started (by kernel_rfl) Yba.func3
    (ChangeSpec.witness6 (enc := enc) (C := Yba.checked) false ⟨#[], #[.string ByteArray.empty], []⟩ 8 (by kernel_rfl) (by kernel_rfl) (by kernel_rfl) (by kernel_rfl)) ?_
  intro W base args ds gs before hval0 hW hcnd _
  have hval : ∀ (j : Nat) t v, Yba.f3.params[j]? = some t → args[j]? = some v → Value.okWide Yba.prog W .any base t v := hval0
  have hW' := hW
  obtain ⟨p, q, hA0, hV, rfl, hfz, hnd⟩ := hW
  have hA : DataW.TrodAll enc Yba.prog W 0 (fun _ => true) true Yba.f3.params.toList args.toList ds p := hA0
  rw [Yba.params3] at hA hval
  obtain ⟨v0, vs0, d0, ds0, p0, q0, hargs, rfl, rfl, h0, r0⟩ := trodAll_cons hA
  obtain ⟨rfl, rfl, rfl⟩ := trodAll_nil r0
  obtain rfl : args = #[v0] := by cases args; simp_all
  obtain ⟨rfl, rfl⟩ := trodVars_none hV
  obtain ⟨a0, rfl, rfl, rfl, w0⟩ := open_string Yba.underlying9 (hval 0 9 v0 rfl rfl) h0
  clear hA0 hval0
  simp only [List.append_nil] at hW'
  refine (walk a0 w0 W).mono fun e W' ⟨he, hg⟩ => ?_
  subst he
  exact ⟨_, rfl, post_of_same (pa := []) (pv := []) hW' (fun _ _ _ => (trodAll_cons_mk (shut_bool Yba.underlying4 _) trodAll_mk0)) (fun sp _ => (trodAll_cons_mk (shut_string Yba.underlying9 w0) trodAll_mk0)) (fun _ _ => rfl) rfl
    (hg.frame _) hg.2.1 (ok_one (by kernel_rfl) rfl (okWide_bool_mk Yba.underlying4 _))⟩

theorem over : Rows.lawS5425AWholeRow.holds Yba.pinned (OpenSpec.ofChange Rows.lawS5425AWholeSpec) :=
  OpenClaim.holds_of_wide 3 Yba.f3 rfl rfl rfl rfl rfl rfl rfl ⟨rfl, rfl, rfl, rfl, rfl⟩ rfl rfl rfl rfl rfl (by kernel_rfl) Yba.func3 (by kernel_rfl)
    (of_decide_eq_true (by kernel_rfl)) (by unfold Func.isWrapper; first | (rw [if_pos (by decide +kernel)]; kernel_rfl) | (rw [if_neg (by decide +kernel)]; exact ⟨rfl, rfl⟩))
    (fun os started H enc _ => lifted os started H enc)

/-- ████ THE STATEMENT ████ -/
theorem proved : Rows.LawS5425AWholeSaid :=
  over
end Go.Proofs.Ybulkdhie.lawS5425AWhole
