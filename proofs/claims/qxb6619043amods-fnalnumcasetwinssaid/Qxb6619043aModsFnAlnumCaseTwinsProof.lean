/-
  PROOF OF 'Rows.FnAlnumCaseTwinsSaid' (zzlaws_internal_auth_b1.FnAlnumCaseTwins). The frame is the one that the kit's tool wrote for this row; the plain law and the walks are the prover's own.
-/
import Derived.Test.Qxb6619043aModsRows
import Derived.WalkKit
import Derived.ProofKit
import Derived.OpenShut
import Derived.ShutString
namespace Go.Proofs.Qxb6619043aMods.fnAlnumCaseTwins
open Go.ChangeShapes Go.WideShapes Go.ChangeAt Go.RowKit
open Go.ChangeMaps (open_string shut_string)
set_option linter.unusedVariables false      -- a walk need not use every 'w<i>' (that an integer argument fits its kind)

theorem own : ownKnob Trym.prog.godebug = none := by kernel_rfl

/-! ### THE PLAIN LAW: what the four bit operations by 0x20 do to a byte -/
theorem bit_nat : ∀ a : Fin 256, (a.val / 32 % 2 = 1 ∧ a.val &&& 32 = 32 ∧ a.val ^^^ 32 = a.val - 32 ∧ a.val ||| 32 = a.val ∧ a.val &&& 223 = a.val - 32) ∨
    (a.val / 32 % 2 = 0 ∧ a.val &&& 32 = 0 ∧ a.val ^^^ 32 = a.val + 32 ∧ a.val ||| 32 = a.val + 32 ∧ a.val &&& 223 = a.val) := by decide +kernel
theorem bit_facts (c : Int) (h0 : 0 ≤ c) (h1 : c ≤ 255) :
    (c / 32 % 2 = 1 ∧ bits .and .u8 c 32 = 32 ∧ bits .xor .u8 c 32 = c - 32 ∧ bits .or .u8 c 32 = c ∧ bits .andNot .u8 c 32 = c - 32) ∨
    (c / 32 % 2 = 0 ∧ bits .and .u8 c 32 = 0 ∧ bits .xor .u8 c 32 = c + 32 ∧ bits .or .u8 c 32 = c + 32 ∧ bits .andNot .u8 c 32 = c) := by
  obtain ⟨a, rfl⟩ := Int.eq_ofNat_of_zero_le h0
  have ha : a < 256 := by omega
  have e1 := u8_and_nat a 32 ha (by omega)
  have e2 := u8_xor_nat a 32 ha (by omega)
  have e3 := u8_or_nat a 32 ha (by omega)
  have e4 := u8_andNot_nat a 32 ha (by omega)
  rcases bit_nat ⟨a, ha⟩ with ⟨h1, h2, h3, h4, h5⟩ | ⟨h1, h2, h3, h4, h5⟩
  · simp only at h1 h2 h3 h4 h5
    rw [h2] at e1; rw [h3] at e2; rw [h4] at e3; rw [show 255 - 32 = 223 from rfl, h5] at e4
    exact .inl ⟨by omega, e1, e2.trans (by omega), e3, e4.trans (by omega)⟩
  · simp only at h1 h2 h3 h4 h5
    rw [h2] at e1; rw [h3] at e2; rw [h4] at e3; rw [show 255 - 32 = 223 from rfl, h5] at e4
    exact .inr ⟨by omega, e1, e2.trans (by omega), e3.trans (by omega), e4⟩

/-! ### STEP 1: THE WALKS -/
/-- ZZisLetterOrDigit, by way of isLetterOrDigit: a letter or a digit. -/
theorem alnum_yes (c : Int) (h : (97 ≤ c ∧ c ≤ 122) ∨ (65 ≤ c ∧ c ≤ 90) ∨ (48 ≤ c ∧ c ≤ 57)) (w : World) :
    Calls Trym.prog 4 #[.int .u8 c] w fun e w' => e = .returned (.bool true) ∧ w' = w := by
  rcases h with ⟨h1, h2⟩ | ⟨h1, h2⟩ | ⟨h1, h2⟩ <;>
  · go_enter Trym.func4, Trym.ntmps4
    go_wp2
    go_ret
    exact ⟨rfl, rfl⟩
/-- Neither. -/
theorem alnum_no (c : Int) (h : c < 48 ∨ (57 < c ∧ c < 65) ∨ (90 < c ∧ c < 97) ∨ 122 < c) (w : World) :
    Calls Trym.prog 4 #[.int .u8 c] w fun e w' => e = .returned (.bool false) ∧ w' = w := by
  rcases h with h1 | ⟨h1, h2⟩ | ⟨h1, h2⟩ | h1
  · go_enter Trym.func4, Trym.ntmps4
    go_wp2
    go_ret
    exact ⟨rfl, rfl⟩
  · have d1 : decide (c ≤ 57) = false := decide_eq_false (by omega)
    go_enter Trym.func4, Trym.ntmps4
    go_wp2
    go_ret
    exact ⟨rfl, rfl⟩
  · have d1 : decide (c ≤ 57) = false := decide_eq_false (by omega)
    have d2 : decide (c ≤ 90) = false := decide_eq_false (by omega)
    go_enter Trym.func4, Trym.ntmps4
    go_wp2
    go_ret
    exact ⟨rfl, rfl⟩
  · have d1 : decide (c ≤ 57) = false := decide_eq_false (by omega)
    have d2 : decide (c ≤ 90) = false := decide_eq_false (by omega)
    have d3 : decide (c ≤ 122) = false := decide_eq_false (by omega)
    go_enter Trym.func4, Trym.ntmps4
    go_wp2
    go_ret
    exact ⟨rfl, rfl⟩

theorem walk (a0 : Int) (w0 : (Lit.int .u8 a0).wf = true) (w : World) :
    Calls Trym.prog 3 #[.int .u8 a0] w fun e w' => e = .returned (.bool true) ∧ Grown w w' := by
  obtain ⟨b0, b1⟩ := bounds_u8 w0
  clear w0
  rcases bit_facts a0 b0 b1 with ⟨hb, e1, e2, e3, e4⟩ | ⟨hb, e1, e2, e3, e4⟩
  · by_cases c1 : 97 ≤ a0 ∧ a0 ≤ 122
    · obtain ⟨c1, c2⟩ := c1
      have HB : Hid (a0 / 32 % 2 = 1) := hb
      clear hb
      go_enter Trym.func3, Trym.ntmps3
      go_wp2_with fail
      refine (alnum_yes a0 (by have := HB.out; omega) _).mono ?_
      rintro e w' ⟨rfl, rfl⟩
      go_wp2_with fail
      refine (alnum_yes (a0 - 32) (by have := HB.out; omega) _).mono ?_
      rintro e w' ⟨rfl, rfl⟩
      go_wp2
      all_goals (go_ret; exact ⟨rfl, Grown.refl _⟩)
    by_cases c2 : 48 ≤ a0 ∧ a0 ≤ 57
    · obtain ⟨c2, c3⟩ := c2
      clear c1
      have HB : Hid (a0 / 32 % 2 = 1) := hb
      clear hb
      go_enter Trym.func3, Trym.ntmps3
      go_wp2_with fail
      refine (alnum_yes a0 (by have := HB.out; omega) _).mono ?_
      rintro e w' ⟨rfl, rfl⟩
      go_wp2_with fail
      refine (alnum_no (a0 - 32) (by have := HB.out; omega) _).mono ?_
      rintro e w' ⟨rfl, rfl⟩
      go_wp2
      all_goals (go_ret; exact ⟨rfl, Grown.refl _⟩)
    · have d1 : (decide (97 ≤ a0) && decide (a0 ≤ 122)) = false := by simp; omega
      have d2 : (decide (16 ≤ a0 - 32) && decide (a0 - 32 ≤ 25)) = false := by simp; omega
      have HB : Hid (a0 / 32 % 2 = 1) := hb
      clear hb
      go_enter Trym.func3, Trym.ntmps3
      go_wp2_with fail
      refine (alnum_no a0 (by have := HB.out; omega) _).mono ?_
      rintro e w' ⟨rfl, rfl⟩
      go_wp2_with fail
      refine (alnum_no (a0 - 32) (by have := HB.out; omega) _).mono ?_
      rintro e w' ⟨rfl, rfl⟩
      go_wp2
      all_goals (go_ret; exact ⟨rfl, Grown.refl _⟩)
  · by_cases c1 : 65 ≤ a0 ∧ a0 ≤ 90
    · obtain ⟨c1, c2⟩ := c1
      have HB : Hid (a0 / 32 % 2 = 0) := hb
      clear hb
      go_enter Trym.func3, Trym.ntmps3
      go_wp2_with fail
      refine (alnum_yes a0 (by have := HB.out; omega) _).mono ?_
      rintro e w' ⟨rfl, rfl⟩
      go_wp2_with fail
      refine (alnum_yes (a0 + 32) (by have := HB.out; omega) _).mono ?_
      rintro e w' ⟨rfl, rfl⟩
      go_wp2
      all_goals (go_ret; exact ⟨rfl, Grown.refl _⟩)
    by_cases c2 : 16 ≤ a0 ∧ a0 ≤ 25
    · obtain ⟨c2, c3⟩ := c2
      clear c1
      have HB : Hid (a0 / 32 % 2 = 0) := hb
      clear hb
      go_enter Trym.func3, Trym.ntmps3
      go_wp2_with fail
      refine (alnum_no a0 (by have := HB.out; omega) _).mono ?_
      rintro e w' ⟨rfl, rfl⟩
      go_wp2_with fail
      refine (alnum_yes (a0 + 32) (by have := HB.out; omega) _).mono ?_
      rintro e w' ⟨rfl, rfl⟩
      go_wp2
      all_goals (go_ret; exact ⟨rfl, Grown.refl _⟩)
    · have d1 : (decide (97 ≤ a0 + 32) && decide (a0 + 32 ≤ 122)) = false := by simp; omega
      have d2 : (decide (16 ≤ a0) && decide (a0 ≤ 25)) = false := by simp; omega
      have HB : Hid (a0 / 32 % 2 = 0) := hb
      clear hb
      go_enter Trym.func3, Trym.ntmps3
      go_wp2_with fail
      refine (alnum_no a0 (by have := HB.out; omega) _).mono ?_
      rintro e w' ⟨rfl, rfl⟩
      go_wp2_with fail
      refine (alnum_no (a0 + 32) (by have := HB.out; omega) _).mono ?_
      rintro e w' ⟨rfl, rfl⟩
      go_wp2
      all_goals (go_ret; exact ⟨rfl, Grown.refl _⟩)

/-! ### THE ROW's STEP -/
set_option maxRecDepth 100000 in
theorem lifted (os : Os) (started : os.Started) (H : Type) (enc : TypeId × Value → H) :
    ReturnsInHanded {} Trym.checked os 3 .any (Rows.fnAlnumCaseTwinsSpec.pre6 enc Trym.prog Trym.f3 Rows.fnAlnumCaseTwinsRow.domain false) (Rows.fnAlnumCaseTwinsSpec.post enc Trym.prog Trym.f3 false true false false) := by
  refine returnsInHanded_of_change (C := Trym.checked) own started (by kernel_rfl) Trym.func3
    (ChangeSpec.witness6 (enc := enc) (C := Trym.checked) false ⟨#[], #[.int .u8 0], []⟩ 8 (by kernel_rfl) (by kernel_rfl) (by kernel_rfl) (by kernel_rfl)) ?_
  intro W base args ds gs before hval0 hW hcnd _
  have hval : ∀ (j : Nat) t v, Trym.f3.params[j]? = some t → args[j]? = some v → Value.okWide Trym.prog W .any base t v := hval0
  have hW' := hW
  obtain ⟨p, q, hA0, hV, rfl, hfz, hnd⟩ := hW
  have hA : DataW.TrodAll enc Trym.prog W 0 (fun _ => true) true Trym.f3.params.toList args.toList ds p := hA0
  rw [Trym.params3] at hA hval
  obtain ⟨v0, vs0, d0, ds0, p0, q0, hargs, rfl, rfl, h0, r0⟩ := trodAll_cons hA
  obtain ⟨rfl, rfl, rfl⟩ := trodAll_nil r0
  obtain rfl : args = #[v0] := by cases args; simp_all
  obtain ⟨rfl, rfl⟩ := trodVars_none hV
  obtain ⟨a0, rfl, rfl, rfl, w0⟩ := open_int Trym.underlying5 (hval 0 5 v0 rfl rfl) h0
  clear hA0 hval0
  simp only [List.append_nil] at hW'
  refine (walk a0 w0 W).mono fun e W' ⟨he, hg⟩ => ?_
  subst he
  exact ⟨_, rfl, post_of_same (pa := []) (pv := []) hW' (fun _ _ _ => (trodAll_cons_mk (shut_bool Trym.underlying4 _) trodAll_mk0)) (fun sp _ => (trodAll_cons_mk (shut_int Trym.underlying5 w0) trodAll_mk0)) (fun _ _ => rfl) rfl
    (hg.frame _) hg.2.1 (ok_one (by kernel_rfl) rfl (okWide_bool_mk Trym.underlying4 _))⟩

theorem over : Rows.fnAlnumCaseTwinsRow.holds Trym.pinned (OpenSpec.ofChange Rows.fnAlnumCaseTwinsSpec) :=
  OpenClaim.holds_of_wide 3 Trym.f3 rfl rfl rfl rfl rfl rfl rfl ⟨rfl, rfl, rfl, rfl, rfl⟩ rfl rfl rfl rfl rfl (by kernel_rfl) Trym.func3 (by kernel_rfl)
    (of_decide_eq_true (by kernel_rfl)) (by unfold Func.isWrapper; first | (rw [if_pos (by decide +kernel)]; kernel_rfl) | (rw [if_neg (by decide +kernel)]; exact ⟨rfl, rfl⟩))
    (fun os started H enc _ => lifted os started H enc)

/-- THE STATEMENT. -/
theorem proved : Rows.FnAlnumCaseTwinsSaid :=
  over
end Go.Proofs.Qxb6619043aMods.fnAlnumCaseTwins
