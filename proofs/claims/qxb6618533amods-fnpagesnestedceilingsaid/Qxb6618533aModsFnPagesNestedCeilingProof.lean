/-
  PROOF OF 'Rows.FnPagesNestedCeilingSaid' (zzlaws_stream_b1.FnPagesNestedCeiling). The frame is the one that the kit's tool wrote for this row; the plain law and the walks are the prover's own.
-/
import Derived.Test.Qxb6618533aModsRows
import Derived.WalkKit
import Derived.ProofKit
import Derived.OpenShut
import Derived.ShutString
namespace Go.Proofs.Qxb6618533aMods.fnPagesNestedCeiling
open Go.ChangeShapes Go.WideShapes Go.ChangeAt Go.RowKit
open Go.ChangeMaps (open_string shut_string)
set_option linter.unusedVariables false      -- a walk need not use every 'w<i>' (that an integer argument fits its kind)

theorem own : ownKnob Trym.prog.godebug = none := by kernel_rfl

/-! ### THE PLAIN LAW: no Go in sight -/
/-- How many pages of size p hold n bytes. -/
def pg (n p : Int) : Int := (n + p - 1) / p
theorem pg_nonneg (n p : Int) (hn : 0 ≤ n) (hp : 1 ≤ p) : 0 ≤ pg n p := Int.ediv_nonneg (by omega) (by omega)
theorem pg_ge (n p : Int) (hp : 1 ≤ p) : n ≤ pg n p * p := by
  have := Int.lt_ediv_add_one_mul_self (n + p - 1) (show 0 < p by omega)
  rw [Int.add_mul] at this
  unfold pg; omega
theorem pg_le (n p : Int) (hp : 1 ≤ p) : pg n p * p ≤ n + p - 1 := Int.ediv_mul_le _ (by omega)
theorem pg_lt (n p : Int) (hp : 1 ≤ p) : (pg n p - 1) * p < n := by
  have := pg_le n p hp
  rw [Int.sub_mul]; omega
theorem pg_gt (n p : Int) (hn : 0 ≤ n) (hp : 1 ≤ p) : -p ≤ (pg n p - 1) * p := by
  have := pg_ge n p hp
  rw [Int.sub_mul]; omega
theorem pg_le_self (n p : Int) (hn : 0 ≤ n) (hp : 1 ≤ p) : pg n p ≤ n := by
  have h := pg_lt n p hp
  by_cases h0 : pg n p ≤ 1
  · by_cases hz : n = 0
    · subst hz
      have : pg 0 p = 0 := by unfold pg; rw [show (0 + p - 1) = p - 1 by omega]; exact Int.ediv_eq_zero_of_lt (by omega) (by omega)
      omega
    · omega
  · have : (pg n p - 1) * 1 ≤ (pg n p - 1) * p := Int.mul_le_mul_of_nonneg_left hp (by omega)
    omega
theorem pg_nest (n q k : Int) (hq : 1 ≤ q) : pg (pg n q) k = pg n (k * q) := by
  unfold pg
  have e : (n + q - 1) / q + k - 1 = (n + k * q - 1) / q := by
    have := Int.add_mul_ediv_right (n + q - 1) (k - 1) (show q ≠ 0 by omega)
    rw [show (n + k * q - 1) = (n + q - 1) + (k - 1) * q by rw [Int.sub_mul]; omega, this]; omega
  rw [e, Int.ediv_ediv_of_nonneg (by omega), Int.mul_comm q k]
theorem mul_fits (q k m : Int) (hq : 1 ≤ q) (hk : 1 ≤ k) (h : q ≤ m / k) : 1 ≤ k * q ∧ k * q ≤ m ∧ q ≤ k * q ∧ k ≤ k * q := by
  have h1 := (Int.le_ediv_iff_mul_le (show 0 < k by omega)).1 h
  have h2 : 1 * q ≤ k * q := Int.mul_le_mul_of_nonneg_right hk (by omega)
  have h3 : k * 1 ≤ k * q := Int.mul_le_mul_of_nonneg_left hq (by omega)
  rw [Int.mul_comm q k] at h1
  omega

/-! ### STEP 1: THE WALKS -/
/-- ZZpages, by way of pages, where n + p does not run over. -/
theorem pages_any (n p : Int) (hn : 0 ≤ n) (hp : 1 ≤ p) (hs : n + p ≤ 9223372036854775807) (w : World) :
    Calls Trym.prog 6 #[.int .i64 n, .int .i64 p] w fun e w' => e = .returned (.int .i64 (pg n p)) ∧ w' = w := by
  go_enter Trym.func6, Trym.ntmps6
  go_wp2
  go_ret
  exact ⟨rfl, rfl⟩

theorem walk (a0 : Int) (a1 : Int) (a2 : Int) (w0 : (Lit.int .i64 a0).wf = true) (w1 : (Lit.int .i64 a1).wf = true) (w2 : (Lit.int .i64 a2).wf = true) (w : World) :
    Calls Trym.prog 3 #[.int .i64 a0, .int .i64 a1, .int .i64 a2] w fun e w' => e = .returned (.bool true) ∧ Grown w w' := by
  have b0 := bounds_i64 w0
  have b1 := bounds_i64 w1
  have b2 := bounds_i64 w2
  clear w0 w1 w2
  by_cases c0 : a0 < 0
  · go_enter Trym.func3, Trym.ntmps3
    go_wp2
    go_ret
    exact ⟨rfl, Grown.refl _⟩
  by_cases c1 : a1 < 1
  · go_enter Trym.func3, Trym.ntmps3
    go_wp2
    go_ret
    exact ⟨rfl, Grown.refl _⟩
  by_cases c2 : a2 < 1
  · go_enter Trym.func3, Trym.ntmps3
    go_wp2
    go_ret
    exact ⟨rfl, Grown.refl _⟩
  by_cases c3 : 9223372036854775807 / a2 < a1
  · go_enter Trym.func3, Trym.ntmps3
    go_wp2
    go_ret
    exact ⟨rfl, Grown.refl _⟩
  obtain ⟨m1, m2, m3, m4⟩ := mul_fits a1 a2 9223372036854775807 (by omega) (by omega) (by omega)
  by_cases c4 : 9223372036854775807 - a0 < a2 * a1
  · go_enter Trym.func3, Trym.ntmps3
    go_wp2
    go_ret
    exact ⟨rfl, Grown.refl _⟩
  -- the main way: nothing runs over
  have r0 := pg_nonneg a0 (a2 * a1) (by omega) m1
  have r1 := pg_ge a0 (a2 * a1) m1
  have r2 := pg_le a0 (a2 * a1) m1
  have r3 := pg_lt a0 (a2 * a1) m1
  have r4 := pg_gt a0 (a2 * a1) (by omega) m1
  have r5 := pg_le_self a0 (a2 * a1) (by omega) m1
  have s0 := pg_nonneg a0 a1 (by omega) (by omega)
  have s1 := pg_le_self a0 a1 (by omega) (by omega)
  have e1 := pg_nest a0 a1 a2 (by omega)
  go_enter Trym.func3, Trym.ntmps3
  go_wp2_with fail
  refine (pages_any a0 (a2 * a1) (by omega) m1 (by omega) _).mono ?_
  rintro e w' ⟨rfl, rfl⟩
  go_wp2_with fail
  refine (pages_any a0 a1 (by omega) (by omega) (by omega) _).mono ?_
  rintro e w' ⟨rfl, rfl⟩
  go_wp2_with fail
  refine (pages_any (pg a0 a1) a2 (by omega) (by omega) (by omega) _).mono ?_
  rintro e w' ⟨rfl, rfl⟩
  go_wp2
  go_ret
  exact ⟨rfl, Grown.refl _⟩

/-! ### THE ROW's STEP -/
set_option maxRecDepth 100000 in
theorem lifted (os : Os) (started : os.Started) (H : Type) (enc : TypeId × Value → H) :
    ReturnsInHanded {} Trym.checked os 3 .any (Rows.fnPagesNestedCeilingSpec.pre6 enc Trym.prog Trym.f3 Rows.fnPagesNestedCeilingRow.domain false) (Rows.fnPagesNestedCeilingSpec.post enc Trym.prog Trym.f3 false true false false) := by
  refine returnsInHanded_of_change (C := Trym.checked) own started (by kernel_rfl) Trym.func3
    (ChangeSpec.witness6 (enc := enc) (C := Trym.checked) false ⟨#[], #[.int .i64 0, .int .i64 0, .int .i64 0], []⟩ 8 (by kernel_rfl) (by kernel_rfl) (by kernel_rfl) (by kernel_rfl)) ?_
  intro W base args ds gs before hval0 hW hcnd _
  have hval : ∀ (j : Nat) t v, Trym.f3.params[j]? = some t → args[j]? = some v → Value.okWide Trym.prog W .any base t v := hval0
  have hW' := hW
  obtain ⟨p, q, hA0, hV, rfl, hfz, hnd⟩ := hW
  have hA : DataW.TrodAll enc Trym.prog W 0 (fun _ => true) true Trym.f3.params.toList args.toList ds p := hA0
  rw [Trym.params3] at hA hval
  obtain ⟨v0, vs0, d0, ds0, p0, q0, hargs, rfl, rfl, h0, r0⟩ := trodAll_cons hA
  obtain ⟨v1, vs1, d1, ds1, p1, q1, rfl, rfl, rfl, h1, r1⟩ := trodAll_cons r0
  obtain ⟨v2, vs2, d2, ds2, p2, q2, rfl, rfl, rfl, h2, r2⟩ := trodAll_cons r1
  obtain ⟨rfl, rfl, rfl⟩ := trodAll_nil r2
  obtain rfl : args = #[v0, v1, v2] := by cases args; simp_all
  obtain ⟨rfl, rfl⟩ := trodVars_none hV
  obtain ⟨a0, rfl, rfl, rfl, w0⟩ := open_int Trym.underlying3 (hval 0 3 v0 rfl rfl) h0
  obtain ⟨a1, rfl, rfl, rfl, w1⟩ := open_int Trym.underlying3 (hval 1 3 v1 rfl rfl) h1
  obtain ⟨a2, rfl, rfl, rfl, w2⟩ := open_int Trym.underlying3 (hval 2 3 v2 rfl rfl) h2
  clear hA0 hval0
  simp only [List.append_nil] at hW'
  refine (walk a0 a1 a2 w0 w1 w2 W).mono fun e W' ⟨he, hg⟩ => ?_
  subst he
  exact ⟨_, rfl, post_of_same (pa := []) (pv := []) hW' (fun _ _ _ => (trodAll_cons_mk (shut_bool Trym.underlying4 _) trodAll_mk0)) (fun sp _ => (trodAll_cons_mk (shut_int Trym.underlying3 w0) (trodAll_cons_mk (shut_int Trym.underlying3 w1) (trodAll_cons_mk (shut_int Trym.underlying3 w2) trodAll_mk0)))) (fun _ _ => rfl) rfl
    (hg.frame _) hg.2.1 (ok_one (by kernel_rfl) rfl (okWide_bool_mk Trym.underlying4 _))⟩

theorem over : Rows.fnPagesNestedCeilingRow.holds Trym.pinned (OpenSpec.ofChange Rows.fnPagesNestedCeilingSpec) :=
  OpenClaim.holds_of_wide 3 Trym.f3 rfl rfl rfl rfl rfl rfl rfl ⟨rfl, rfl, rfl, rfl, rfl⟩ rfl rfl rfl rfl rfl (by kernel_rfl) Trym.func3 (by kernel_rfl)
    (of_decide_eq_true (by kernel_rfl)) (by unfold Func.isWrapper; first | (rw [if_pos (by decide +kernel)]; kernel_rfl) | (rw [if_neg (by decide +kernel)]; exact ⟨rfl, rfl⟩))
    (fun os started H enc _ => lifted os started H enc)

/-- THE STATEMENT. -/
theorem proved : Rows.FnPagesNestedCeilingSaid :=
  over
end Go.Proofs.Qxb6618533aMods.fnPagesNestedCeiling
