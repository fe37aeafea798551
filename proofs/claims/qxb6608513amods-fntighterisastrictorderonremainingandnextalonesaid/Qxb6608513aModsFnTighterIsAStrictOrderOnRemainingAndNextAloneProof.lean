/-
  PROOF OF 'Rows.FnTighterIsAStrictOrderOnRemainingAndNextAloneSaid' (zzlaws_internal_clientlimit_b1.FnTighterIsAStrictOrderOnRemainingAndNextAlone). The frame is the one that the kit's tool wrote for this row; the plain law and the walks are the prover's own.
-/
import Derived.Test.Qxb6608513aModsRows
import Derived.WalkKit
import Derived.ProofKit
import Derived.OpenShut
import Derived.ShutString
import Derived.Test.Qxb6608513aModsWalks2
namespace Go.Proofs.Qxb6608513aMods.fnTighterIsAStrictOrderOnRemainingAndNextAlone
open Go.ChangeShapes Go.WideShapes Go.ChangeAt Go.RowKit
open Go.ChangeMaps (open_string shut_string)
set_option linter.unusedVariables false      -- a walk need not use every 'w<i>' (that an integer argument fits its kind)

theorem own : ownKnob Trym.prog.godebug = none := by kernel_rfl

/-! ### STEP 1: THE WALK -/
set_option maxHeartbeats 1600000 in
theorem walk (a0 : Bool) (a1 : Int) (a2 : Int) (a3 : Int) (a4 : Int) (a5 : Bool) (a6 : Int) (a7 : Int) (a8 : Int) (a9 : Int) (w1 : (Lit.int .i64 a1).wf = true) (w2 : (Lit.int .i64 a2).wf = true) (w3 : (Lit.int .i64 a3).wf = true) (w4 : (Lit.int .i64 a4).wf = true) (w6 : (Lit.int .i64 a6).wf = true) (w7 : (Lit.int .i64 a7).wf = true) (w8 : (Lit.int .i64 a8).wf = true) (w9 : (Lit.int .i64 a9).wf = true) (w : World) :
    Calls Trym.prog 4 #[.bool a0, .int .i64 a1, .int .i64 a2, .int .i64 a3, .int .i64 a4, .bool a5, .int .i64 a6, .int .i64 a7, .int .i64 a8, .int .i64 a9] w fun e w' => e = .returned (.bool true) ∧ Grown w w' := by
  clear w1 w2 w3 w4 w6 w7 w8 w9
  go_enter Trym.func4, Trym.ntmps4
  -- four standings, each in a block of its own
  go_wp2_with fail
  refine (Tight.new_any a0 a1 a2 a3 a4 _).mono ?_
  rintro e w1 ⟨W1, E1, rfl, m1⟩
  go_wp2_with fail
  refine (Tight.new_any a5 a6 a7 a8 a9 _).mono ?_
  rintro e w2 ⟨W2, E2, rfl, m2⟩
  have hs := (Tight.Has.new w1 a0 a1 a2 W1 E1 a4).more m2
  have mm := (m1.alloc _ _).trans m2
  clear m1 m2
  go_wp2_with fail
  refine (Tight.new_any a5 a6 a2 a8 a4 _).mono ?_
  rintro e w3 ⟨W3, E3, rfl, m3⟩
  have hs' := (hs.more ((Tight.More.refl _).alloc _ _)).more m3
  have ht := (Tight.Has.new w2 a5 a6 a7 W2 E2 a9).more m3
  have mm' := (mm.alloc _ _).trans m3
  clear hs mm m3
  go_wp2_with fail
  refine (Tight.new_any a0 a1 a7 a3 a9 _).mono ?_
  rintro e w4 ⟨W4, E4, rfl, m4⟩
  have hs := (hs'.more ((Tight.More.refl _).alloc _ _)).more m4
  have ht' := (ht.more ((Tight.More.refl _).alloc _ _)).more m4
  have hs2 := (Tight.Has.new w3 a5 a6 a2 W3 E3 a4).more m4
  have mm := (mm'.alloc _ _).trans m4
  clear hs' ht mm' m4
  have ht := ht'
  clear ht'
  obtain ⟨q1, h1⟩ : ∃ q, Tight.tb a2 a4 a7 a9 = q := ⟨_, rfl⟩
  obtain ⟨q2, h2⟩ : ∃ q, Tight.tb a7 a9 a2 a4 = q := ⟨_, rfl⟩
  have H1 : Hid (Tight.tb a2 a4 a7 a9 = q1) := h1
  have H2 : Hid (Tight.tb a7 a9 a2 a4 = q2) := h2
  clear h1 h2
  -- s against t
  have hs_ := hs
  have ht_ := ht
  obtain ⟨sl, s0, s1, s2, s3, s4, s5, s6⟩ := hs_
  obtain ⟨tl, t0, t1, t2, t3, t4, t5, t6⟩ := ht_
  go_wp2_with fail
  refine (Tight.tighter_is H1.out _).mono ?_
  rintro e w5 ⟨rfl, m5⟩
  clear sl s0 s1 s2 s3 s4 s5 s6 tl t0 t1 t2 t3 t4 t5 t6
  have m5' := ((Tight.More.refl w4).alloc _ _).trans m5
  have gs := hs.more m5'
  have gt := ht.more m5'
  have gs2 := hs2.more m5'
  have gt2 := (Tight.Has.new w4 a0 a1 a7 W4 E4 a9).more m5
  have nn := mm.trans m5'
  clear hs ht hs2 mm m5 m5'
  -- t against s
  have hs_ := gs
  have ht_ := gt
  obtain ⟨sl, s0, s1, s2, s3, s4, s5, s6⟩ := hs_
  obtain ⟨tl, t0, t1, t2, t3, t4, t5, t6⟩ := ht_
  go_wp2_with fail
  refine (Tight.tighter_is H2.out _).mono ?_
  rintro e w6 ⟨rfl, m6⟩
  clear sl s0 s1 s2 s3 s4 s5 s6 tl t0 t1 t2 t3 t4 t5 t6
  have hs := gs.more m6
  have ht := gt.more m6
  have hs2 := gs2.more m6
  have ht2 := gt2.more m6
  have mm := nn.trans m6
  clear gs gt gs2 gt2 nn m6
  -- s against s
  have hs_ := hs
  obtain ⟨sl, s0, s1, s2, s3, s4, s5, s6⟩ := hs_
  go_wp2_with fail
  refine (Tight.tighter_is (Tight.tb_self a2 a4) _).mono ?_
  rintro e w7 ⟨rfl, m7⟩
  clear sl s0 s1 s2 s3 s4 s5 s6 hs
  have gt := ht.more m7
  have gs2 := hs2.more m7
  have gt2 := ht2.more m7
  have nn := mm.trans m7
  clear ht hs2 ht2 mm m7
  -- t against t
  obtain ⟨tl, t0, t1, t2, t3, t4, t5, t6⟩ := gt
  go_wp2_with fail
  refine (Tight.tighter_is (Tight.tb_self a7 a9) _).mono ?_
  rintro e w8 ⟨rfl, m8⟩
  clear tl t0 t1 t2 t3 t4 t5 t6
  have hs2 := gs2.more m8
  have ht2 := gt2.more m8
  have mm := nn.trans m8
  clear gs2 gt2 nn m8
  have K1 := H1.out
  have K2 := H2.out
  have hs_ := hs2
  have ht_ := ht2
  obtain ⟨sl, s0, s1, s2, s3, s4, s5, s6⟩ := hs_
  obtain ⟨tl, t0, t1, t2, t3, t4, t5, t6⟩ := ht_
  rcases Tight.ways a2 a4 a7 a9 with ⟨lt, e1, e2⟩ | ⟨lt, e1, e2⟩ | ⟨rfl, lt, e1, e2⟩ | ⟨rfl, lt, e1, e2⟩ | ⟨rfl, rfl, e1, e2⟩
  · obtain rfl : q1 = true := K1.symm.trans e1
    obtain rfl : q2 = false := K2.symm.trans e2
    clear K1 K2 e1 e2
    go_wp2_with fail
    refine (Tight.tighter_is H1.out _).mono ?_
    rintro e w9 ⟨rfl, m9⟩
    clear sl s0 s1 s2 s3 s4 s5 s6 tl t0 t1 t2 t3 t4 t5 t6
    have gs2 := hs2.more m9
    have gt2 := ht2.more m9
    have nn := mm.trans m9
    clear hs2 ht2 mm m9
    obtain ⟨sl, s0, s1, s2, s3, s4, s5, s6⟩ := gs2
    obtain ⟨tl, t0, t1, t2, t3, t4, t5, t6⟩ := gt2
    go_wp2_with fail
    refine (Tight.tighter_is H2.out _).mono ?_
    rintro e w10 ⟨rfl, m10⟩
    go_wp2
    go_ret
    exact ⟨rfl, (nn.trans m10).1⟩
  · obtain rfl : q1 = false := K1.symm.trans e1
    obtain rfl : q2 = true := K2.symm.trans e2
    clear K1 K2 e1 e2
    go_wp2_with fail
    refine (Tight.tighter_is H1.out _).mono ?_
    rintro e w9 ⟨rfl, m9⟩
    clear sl s0 s1 s2 s3 s4 s5 s6 tl t0 t1 t2 t3 t4 t5 t6
    have gs2 := hs2.more m9
    have gt2 := ht2.more m9
    have nn := mm.trans m9
    clear hs2 ht2 mm m9
    obtain ⟨sl, s0, s1, s2, s3, s4, s5, s6⟩ := gs2
    obtain ⟨tl, t0, t1, t2, t3, t4, t5, t6⟩ := gt2
    go_wp2_with fail
    refine (Tight.tighter_is H2.out _).mono ?_
    rintro e w10 ⟨rfl, m10⟩
    go_wp2
    go_ret
    exact ⟨rfl, (nn.trans m10).1⟩
  · obtain rfl : q1 = true := K1.symm.trans e1
    obtain rfl : q2 = false := K2.symm.trans e2
    clear K1 K2 e1 e2
    have hne : (a4 != a9) = true := by simp; omega
    go_wp2_with fail
    refine (Tight.tighter_is H1.out _).mono ?_
    rintro e w9 ⟨rfl, m9⟩
    clear sl s0 s1 s2 s3 s4 s5 s6 tl t0 t1 t2 t3 t4 t5 t6
    have gs2 := hs2.more m9
    have gt2 := ht2.more m9
    have nn := mm.trans m9
    clear hs2 ht2 mm m9
    obtain ⟨sl, s0, s1, s2, s3, s4, s5, s6⟩ := gs2
    obtain ⟨tl, t0, t1, t2, t3, t4, t5, t6⟩ := gt2
    go_wp2_with fail
    refine (Tight.tighter_is H2.out _).mono ?_
    rintro e w10 ⟨rfl, m10⟩
    go_wp2
    go_ret
    exact ⟨rfl, (nn.trans m10).1⟩
  · obtain rfl : q1 = false := K1.symm.trans e1
    obtain rfl : q2 = true := K2.symm.trans e2
    clear K1 K2 e1 e2
    have hne : (a4 != a9) = true := by simp; omega
    go_wp2_with fail
    refine (Tight.tighter_is H1.out _).mono ?_
    rintro e w9 ⟨rfl, m9⟩
    clear sl s0 s1 s2 s3 s4 s5 s6 tl t0 t1 t2 t3 t4 t5 t6
    have gs2 := hs2.more m9
    have gt2 := ht2.more m9
    have nn := mm.trans m9
    clear hs2 ht2 mm m9
    obtain ⟨sl, s0, s1, s2, s3, s4, s5, s6⟩ := gs2
    obtain ⟨tl, t0, t1, t2, t3, t4, t5, t6⟩ := gt2
    go_wp2_with fail
    refine (Tight.tighter_is H2.out _).mono ?_
    rintro e w10 ⟨rfl, m10⟩
    go_wp2
    go_ret
    exact ⟨rfl, (nn.trans m10).1⟩
  · obtain rfl : q1 = false := K1.symm.trans e1
    obtain rfl : q2 = false := K2.symm.trans e2
    clear K1 K2 e1 e2
    go_wp2_with fail
    refine (Tight.tighter_is H1.out _).mono ?_
    rintro e w9 ⟨rfl, m9⟩
    clear sl s0 s1 s2 s3 s4 s5 s6 tl t0 t1 t2 t3 t4 t5 t6
    have gs2 := hs2.more m9
    have gt2 := ht2.more m9
    have nn := mm.trans m9
    clear hs2 ht2 mm m9
    obtain ⟨sl, s0, s1, s2, s3, s4, s5, s6⟩ := gs2
    obtain ⟨tl, t0, t1, t2, t3, t4, t5, t6⟩ := gt2
    go_wp2_with fail
    refine (Tight.tighter_is H2.out _).mono ?_
    rintro e w10 ⟨rfl, m10⟩
    go_wp2
    go_ret
    exact ⟨rfl, (nn.trans m10).1⟩

/-! ### THE ROW's STEP -/
set_option maxRecDepth 100000 in
theorem lifted (os : Os) (started : os.Started) (H : Type) (enc : TypeId × Value → H) :
    ReturnsInHanded {} Trym.checked os 4 .any (Rows.fnTighterIsAStrictOrderOnRemainingAndNextAloneSpec.pre6 enc Trym.prog Trym.f4 Rows.fnTighterIsAStrictOrderOnRemainingAndNextAloneRow.domain false) (Rows.fnTighterIsAStrictOrderOnRemainingAndNextAloneSpec.post enc Trym.prog Trym.f4 false true false false) := by
  refine returnsInHanded_of_change (C := Trym.checked) own started (by kernel_rfl) Trym.func4
    (ChangeSpec.witness6 (enc := enc) (C := Trym.checked) false ⟨#[], #[.bool false, .int .i64 0, .int .i64 0, .int .i64 0, .int .i64 0, .bool false, .int .i64 0, .int .i64 0, .int .i64 0, .int .i64 0], []⟩ 8 (by kernel_rfl) (by kernel_rfl) (by kernel_rfl) (by kernel_rfl)) ?_
  intro W base args ds gs before hval0 hW hcnd _
  have hval : ∀ (j : Nat) t v, Trym.f4.params[j]? = some t → args[j]? = some v → Value.okWide Trym.prog W .any base t v := hval0
  have hW' := hW
  obtain ⟨p, q, hA0, hV, rfl, hfz, hnd⟩ := hW
  have hA : DataW.TrodAll enc Trym.prog W 0 (fun _ => true) true Trym.f4.params.toList args.toList ds p := hA0
  rw [Trym.params4] at hA hval
  obtain ⟨v0, vs0, d0, ds0, p0, q0, hargs, rfl, rfl, h0, r0⟩ := trodAll_cons hA
  obtain ⟨v1, vs1, d1, ds1, p1, q1, rfl, rfl, rfl, h1, r1⟩ := trodAll_cons r0
  obtain ⟨v2, vs2, d2, ds2, p2, q2, rfl, rfl, rfl, h2, r2⟩ := trodAll_cons r1
  obtain ⟨v3, vs3, d3, ds3, p3, q3, rfl, rfl, rfl, h3, r3⟩ := trodAll_cons r2
  obtain ⟨v4, vs4, d4, ds4, p4, q4, rfl, rfl, rfl, h4, r4⟩ := trodAll_cons r3
  obtain ⟨v5, vs5, d5, ds5, p5, q5, rfl, rfl, rfl, h5, r5⟩ := trodAll_cons r4
  obtain ⟨v6, vs6, d6, ds6, p6, q6, rfl, rfl, rfl, h6, r6⟩ := trodAll_cons r5
  obtain ⟨v7, vs7, d7, ds7, p7, q7, rfl, rfl, rfl, h7, r7⟩ := trodAll_cons r6
  obtain ⟨v8, vs8, d8, ds8, p8, q8, rfl, rfl, rfl, h8, r8⟩ := trodAll_cons r7
  obtain ⟨v9, vs9, d9, ds9, p9, q9, rfl, rfl, rfl, h9, r9⟩ := trodAll_cons r8
  obtain ⟨rfl, rfl, rfl⟩ := trodAll_nil r9
  obtain rfl : args = #[v0, v1, v2, v3, v4, v5, v6, v7, v8, v9] := by cases args; simp_all
  obtain ⟨rfl, rfl⟩ := trodVars_none hV
  obtain ⟨a0, rfl, rfl, rfl⟩ := open_bool Trym.underlying4 (hval 0 4 v0 rfl rfl) h0
  obtain ⟨a1, rfl, rfl, rfl, w1⟩ := open_int Trym.underlying3 (hval 1 3 v1 rfl rfl) h1
  obtain ⟨a2, rfl, rfl, rfl, w2⟩ := open_int Trym.underlying3 (hval 2 3 v2 rfl rfl) h2
  obtain ⟨a3, rfl, rfl, rfl, w3⟩ := open_int Trym.underlying2 (hval 3 2 v3 rfl rfl) h3
  obtain ⟨a4, rfl, rfl, rfl, w4⟩ := open_int Trym.underlying2 (hval 4 2 v4 rfl rfl) h4
  obtain ⟨a5, rfl, rfl, rfl⟩ := open_bool Trym.underlying4 (hval 5 4 v5 rfl rfl) h5
  obtain ⟨a6, rfl, rfl, rfl, w6⟩ := open_int Trym.underlying3 (hval 6 3 v6 rfl rfl) h6
  obtain ⟨a7, rfl, rfl, rfl, w7⟩ := open_int Trym.underlying3 (hval 7 3 v7 rfl rfl) h7
  obtain ⟨a8, rfl, rfl, rfl, w8⟩ := open_int Trym.underlying2 (hval 8 2 v8 rfl rfl) h8
  obtain ⟨a9, rfl, rfl, rfl, w9⟩ := open_int Trym.underlying2 (hval 9 2 v9 rfl rfl) h9
  clear hA0 hval0
  simp only [List.append_nil] at hW'
  refine (walk a0 a1 a2 a3 a4 a5 a6 a7 a8 a9 w1 w2 w3 w4 w6 w7 w8 w9 W).mono fun e W' ⟨he, hg⟩ => ?_
  subst he
  exact ⟨_, rfl, post_of_same (pa := []) (pv := []) hW' (fun _ _ _ => (trodAll_cons_mk (shut_bool Trym.underlying4 _) trodAll_mk0)) (fun sp _ => (trodAll_cons_mk (shut_bool Trym.underlying4 _) (trodAll_cons_mk (shut_int Trym.underlying3 w1) (trodAll_cons_mk (shut_int Trym.underlying3 w2) (trodAll_cons_mk (shut_int Trym.underlying2 w3) (trodAll_cons_mk (shut_int Trym.underlying2 w4) (trodAll_cons_mk (shut_bool Trym.underlying4 _) (trodAll_cons_mk (shut_int Trym.underlying3 w6) (trodAll_cons_mk (shut_int Trym.underlying3 w7) (trodAll_cons_mk (shut_int Trym.underlying2 w8) (trodAll_cons_mk (shut_int Trym.underlying2 w9) trodAll_mk0))))))))))) (fun _ _ => rfl) rfl
    (hg.frame _) hg.2.1 (ok_one (by kernel_rfl) rfl (okWide_bool_mk Trym.underlying4 _))⟩

theorem over : Rows.fnTighterIsAStrictOrderOnRemainingAndNextAloneRow.holds Trym.pinned (OpenSpec.ofChange Rows.fnTighterIsAStrictOrderOnRemainingAndNextAloneSpec) :=
  OpenClaim.holds_of_wide 4 Trym.f4 rfl rfl rfl rfl rfl rfl rfl ⟨rfl, rfl, rfl, rfl, rfl⟩ rfl rfl rfl rfl rfl (by kernel_rfl) Trym.func4 (by kernel_rfl)
    (of_decide_eq_true (by kernel_rfl)) (by unfold Func.isWrapper; first | (rw [if_pos (by decide +kernel)]; kernel_rfl) | (rw [if_neg (by decide +kernel)]; exact ⟨rfl, rfl⟩))
    (fun os started H enc _ => lifted os started H enc)

/-- THE STATEMENT. -/
theorem proved : Rows.FnTighterIsAStrictOrderOnRemainingAndNextAloneSaid :=
  over
end Go.Proofs.Qxb6608513aMods.fnTighterIsAStrictOrderOnRemainingAndNextAlone
