/-
  PROOF OF 'Rows.FnMergeKeyOfJoinsExactlySaid' (zzlaws_server_b1.FnMergeKeyOfJoinsExactly). The frame is the one that the kit's tool wrote for this row; the plain law and the walks are the prover's own.
-/
import Derived.Test.Qxb6605832aModsRows
import Derived.WalkKit
import Derived.ProofKit
import Derived.OpenShut
import Derived.ShutString
import Derived.ChangeOld
import Derived.Below
import Derived.Test.Qxb6605832aModsWalks2
namespace Go.Proofs.Qxb6605832aMods.fnMergeKeyOfJoinsExactly
open Go.ChangeShapes Go.WideShapes Go.ChangeAt Go.RowKit
open Go.ChangeMaps (open_string shut_string)
set_option linter.unusedVariables false

theorem own : ownKnob Trym.prog.godebug = none := by kernel_rfl
theorem laidOut : laidOutB Trym.prog = true := by kernel_rfl

/-- WHAT THE WALK IS TOLD OF A SLICE OF INTEGERS THAT CAME IN: it is nil; or it leads to a row of 'cap' cells, the numbers 'zs' (the first 'len' are its elements, the rest its spare room), each fitting its kind. -/
def IsRow (k : IntKind) (w : World) (a : Option Addr) (len cap : Nat) (zs : List Int) : Prop :=
  (a = none ∧ len = 0 ∧ cap = 0 ∧ zs = []) ∨
  ∃ x, a = some x ∧ len ≤ cap ∧ cap ≤ maxLen ∧ zs.length = cap ∧ (∀ i, i < zs.length → w.cell? (x.add i) = some (.int k (zs.getD i 0))) ∧ ∀ n ∈ zs, (Lit.int k n).wf = true

/-! ### THE PLAIN LAW: the last test answers true -/
theorem last_dd {u v s t : ByteArray} (hu : (u.toList == [45]) = true) (hv : (v.toList == [45]) = true) : ((Merge.keyId u s).toList == (Merge.keyId v t).toList) = (s.toList == t.toList) := by
  simp only [Merge.keyId, hu, hv, cond_true]
theorem last_nn {u v s t : ByteArray} (hu : (u.toList == [45]) = false) (hv : (v.toList == [45]) = false) : ((Merge.keyId u s).toList == (Merge.keyId v t).toList) = (u.toList == v.toList) := by
  simp only [Merge.keyId, hu, hv, cond_false]
theorem last_dn {u v s t : ByteArray} (hu : (u.toList == [45]) = true) (hv : (v.toList == [45]) = false) : ((Merge.keyId u s).toList == (Merge.keyId v t).toList) = (s.toList == v.toList) := by
  simp only [Merge.keyId, hu, hv, cond_true, cond_false]
theorem last_nd {u v s t : ByteArray} (hu : (u.toList == [45]) = false) (hv : (v.toList == [45]) = true) : ((Merge.keyId u s).toList == (Merge.keyId v t).toList) = (t.toList == u.toList) := by
  simp only [Merge.keyId, hu, hv, cond_true, cond_false]
  exact Bool.beq_comm ..

/-! ### STEP 1: THE WALK -/
/-- Behind the two clones nothing hangs on the arguments' own memory: the rest of the law, over bytes. -/
theorem walk_bytes (f u v : ByteArray) (a b : Option Addr) (s t : ByteArray) (c d : Nat) (bg : Bool) (w : World) (wf : f.size ≤ maxLen) (wu : u.size ≤ maxLen) (wv : v.size ≤ maxLen) (ws : s.size ≤ maxLen) (wt : t.size ≤ maxLen)
    (na : a = none → c = 0) (nb : b = none → d = 0) (ha : Merge.Comes w a s) (hb : Merge.Comes w b t) :
    Calls Trym.prog 3 #[.string f, .string u, .string v, .slice a s.size c, .slice b t.size d, .bool bg] w fun e w' => e = .returned (.bool true) ∧ Below w.heap.size w w' := by
  go_enter Trym.func3, Trym.ntmps3
  go_wp2_with fail
  refine (Merge.zzBytes_any f u v a b s.size t.size c d bg _ wf wu wv ws wt).mono ?_
  rintro e w' ⟨q, rfl, rfl⟩
  unfold maxLen at *
  cases q
  · go_wp2
    go_ret
    exact ⟨rfl, Below.refl _ _⟩
  have NA : Hid (a = none → c = 0) := na
  have NB : Hid (b = none → d = 0) := nb
  have HA : Hid (Merge.Comes w' a s) := ha
  have HB : Hid (Merge.Comes w' b t) := hb
  clear na nb ha hb
  by_cases g1 : 131072 < (f.size : Int)
  · go_wp2
    go_ret
    exact ⟨rfl, Below.refl _ _⟩
  by_cases g2 : 131072 < (u.size : Int)
  · go_wp2
    go_ret
    exact ⟨rfl, Below.refl _ _⟩
  by_cases g3 : 131072 < (v.size : Int)
  · go_wp2
    go_ret
    exact ⟨rfl, Below.refl _ _⟩
  by_cases g4 : 131072 < (s.size : Int)
  · go_wp2
    go_ret
    exact ⟨rfl, Below.refl _ _⟩
  by_cases g5 : 131072 < (t.size : Int)
  · go_wp2
    go_ret
    exact ⟨rfl, Below.refl _ _⟩
  go_wp2_with fail
  refine (Merge.clone_any a s c _ (by omega) NA.out HA.out).mono ?_
  rintro e w1 ⟨a', c', rfl, r1, b1⟩
  go_wp2_with fail
  refine (Merge.clone_any b t d _ (by omega) NB.out (HB.out.stay b1)).mono ?_
  rintro e w2 ⟨a'', c'', rfl, r2, b2⟩
  have q1 := r1.stay b2
  have bel := b1.trans (b2.mono b1.size)
  clear r1 b1 b2 HA HB NA NB
  go_wp2_with fail
  refine (Merge.zzKey_any f u s a' c' bg _ q1).mono ?_
  rintro e w3 ⟨rfl, b3⟩
  have q1' := q1.stay b3
  have q2' := r2.stay b3
  have bel' := bel.trans (b3.mono bel.size)
  clear q1 r2 bel b3
  go_wp2_with fail
  refine (Merge.zzKey_any f v t a'' c'' bg _ q2').mono ?_
  rintro e w4 ⟨rfl, b4⟩
  have q1 := q1'.stay b4
  have q2 := q2'.stay b4
  have bel := bel'.trans (b4.mono bel'.size)
  clear q1' q2' bel' b4
  go_wp2_with fail
  refine (Merge.zzKey_any f u s a' c' (!bg) _ q1).mono ?_
  rintro e w5 ⟨rfl, b5⟩
  have q1' := q1.stay b5
  have q2' := q2.stay b5
  have bel' := bel.trans (b5.mono bel.size)
  clear q1 q2 bel b5
  go_wp2_with fail
  refine (Merge.same_other f (Merge.keyId u s) bg _).mono ?_
  rintro e w6 ⟨rfl, rfl⟩
  go_wp2_with fail
  refine (Merge.same_any f (Merge.keyId u s) (Merge.keyId v t) bg _).mono ?_
  rintro e w6 ⟨rfl, rfl⟩
  have cv1 := q1'.conv c'
  have cv2 := q2'.conv c''
  cases hu : (u.toList == [45]) <;> cases hv : (v.toList == [45])
  · -- two ids
    have fin := last_nn (s := s) (t := t) hu hv
    clear cv1 cv2
    go_wp2
    go_ret
    exact ⟨by simp, bel'⟩
  · -- an id and a dash
    have fin := last_nd (s := s) (t := t) hu hv
    clear cv1
    go_wp2
    go_ret
    exact ⟨by simp, bel'⟩
  · -- a dash and an id
    have fin := last_dn (s := s) (t := t) hu hv
    clear cv2
    go_wp2
    go_ret
    exact ⟨by simp, bel'⟩
  · -- two dashes
    have fin := last_dd (s := s) (t := t) hu hv
    clear cv1 cv2
    go_wp2_with fail
    refine (Merge.equal_any a' a'' s t c' c'' _ (by omega) q1' q2').mono ?_
    rintro e w7 ⟨rfl, b7⟩
    go_wp2
    go_ret
    exact ⟨by simp, bel'.trans (b7.mono bel'.size)⟩

theorem walk (a0 : ByteArray) (a1 : ByteArray) (a2 : ByteArray) (a3 : Option Addr) (len3 cap3 : Nat) (z3 : List Int) (a4 : Option Addr) (len4 cap4 : Nat) (z4 : List Int) (a5 : Bool) (w : World) (w0 : a0.size ≤ maxLen) (w1 : a1.size ≤ maxLen) (w2 : a2.size ≤ maxLen) (w3 : IsRow .u8 w a3 len3 cap3 z3) (w4 : IsRow .u8 w a4 len4 cap4 z4) :
    Calls Trym.prog 3 #[.string a0, .string a1, .string a2, .slice a3 len3 cap3, .slice a4 len4 cap4, .bool a5] w fun e w' => e = .returned (.bool true) ∧ Below w.heap.size w w' := by
  have view : ∀ (a : Option Addr) (len cap : Nat) (z : List Int), IsRow .u8 w a len cap z → ∃ s : ByteArray, s.size = len ∧ len ≤ maxLen ∧ (a = none → cap = 0) ∧ Merge.Comes w a s := by
    intro a len cap z h
    rcases h with ⟨rfl, rfl, rfl, rfl⟩ | ⟨x, rfl, hl, hm, hz, hc, hw⟩
    · exact ⟨ByteArray.empty, rfl, Nat.zero_le _, fun _ => rfl, .inl ⟨rfl, rfl⟩⟩
    · obtain ⟨s, hs, hcm⟩ := Merge.comes_of (w := w) (len := len) (zs := z) (by omega) hw x rfl hc
      exact ⟨s, hs, by omega, fun e => (by cases e), hcm⟩
  obtain ⟨s, rfl, ms, ns, hs⟩ := view a3 len3 cap3 z3 w3
  obtain ⟨t, rfl, mt, nt, ht⟩ := view a4 len4 cap4 z4 w4
  exact walk_bytes a0 a1 a2 a3 a4 s t cap3 cap4 a5 w w0 w1 w2 ms mt ns nt hs ht

/-! ### THE ROW's STEP -/
set_option maxRecDepth 100000 in
theorem lifted (os : Os) (started : os.Started) (H : Type) (enc : TypeId × Value → H) :
    ReturnsInHanded {} Trym.checked os 3 .any (Rows.fnMergeKeyOfJoinsExactlySpec.pre6 enc Trym.prog Trym.f3 Rows.fnMergeKeyOfJoinsExactlyRow.domain false) (Rows.fnMergeKeyOfJoinsExactlySpec.post enc Trym.prog Trym.f3 false true false false) := by
  refine returnsInHanded_of_change (C := Trym.checked) own started (by kernel_rfl) Trym.func3
    (ChangeSpec.witness6 (enc := enc) (C := Trym.checked) false ⟨#[], #[.string ByteArray.empty, .string ByteArray.empty, .string ByteArray.empty, .slice none 0 0, .slice none 0 0, .bool false], []⟩ 8 (by kernel_rfl) (by kernel_rfl) (by kernel_rfl) (by kernel_rfl)) ?_
  intro W base args ds gs before hval0 hW hcnd _
  have hval : ∀ (j : Nat) t v, Trym.f3.params[j]? = some t → args[j]? = some v → Value.okWide Trym.prog W .any base t v := hval0
  have hW' := hW
  obtain ⟨p, q, hA0, hV, rfl, hfz, hnd⟩ := hW
  have hA : DataW.TrodAll enc Trym.prog W 0 (fun _ => true) true Trym.f3.params.toList args.toList ds p := hA0
  rw [Trym.params3] at hA hval
  obtain ⟨v0, vs0, d0, ds0, p0, q0, hargs, rfl, rfl, h0, r0⟩ := trodAll_cons hA
  obtain ⟨v1, vs1, d1, ds1, p1, q1, rfl, rfl, rfl, h1, r1⟩ := trodAll_cons r0
  obtain ⟨v2, vs2, d2, ds2, p2, q2, rfl, rfl, rfl, h2, r2⟩ := trodAll_cons r1
  obtain ⟨v3, vs3, d3, ds3, p3, q3, rfl, rfl, rfl, h3, r3⟩ := trodAll_cons r2
  obtain ⟨v4, vs4, d4, ds4, p4, q4, rfl, rfl, rfl, h4, r4⟩ := trodAll_cons r3
  obtain ⟨v5, vs5, d5, ds5, p5, q5, rfl, rfl, rfl, h5, r5⟩ := trodAll_cons r4
  obtain ⟨rfl, rfl, rfl⟩ := trodAll_nil r5
  obtain rfl : args = #[v0, v1, v2, v3, v4, v5] := by cases args; simp_all
  obtain ⟨rfl, rfl⟩ := trodVars_none hV
  obtain ⟨a0, rfl, rfl, rfl, w0⟩ := open_string Trym.underlying9 (hval 0 9 v0 rfl rfl) h0
  obtain ⟨a1, rfl, rfl, rfl, w1⟩ := open_string Trym.underlying9 (hval 1 9 v1 rfl rfl) h1
  obtain ⟨a2, rfl, rfl, rfl, w2⟩ := open_string Trym.underlying9 (hval 2 9 v2 rfl rfl) h2
  obtain ⟨a3, len3, cap3, rfl⟩ := okWide_slice Trym.underlying22 (hval 3 22 v3 rfl rfl)
  have k3 := h3
  have lt3 : ∀ x ∈ p3, x.block < W.heap.size := by obtain ⟨m, hm⟩ := k3; exact DataW.trod_lt m _ _ _ hm
  obtain ⟨z3, w3⟩ : ∃ zs, IsRow .u8 W a3 len3 cap3 zs := by
    obtain ⟨fuel, hf⟩ := h3
    rcases open_ints Trym.underlying22 Trym.underlying5 (by kernel_rfl) hf with ⟨hcs, _⟩ | ⟨x, l, c, zs, hcs, _, hl, hm, hz, _, hcell, hwz⟩
    · simp [Value.cells] at hcs
      obtain ⟨rfl, rfl, rfl⟩ := hcs
      exact ⟨[], .inl ⟨rfl, rfl, rfl, rfl⟩⟩
    · simp [Value.cells] at hcs
      obtain ⟨rfl, rfl, rfl⟩ := hcs
      exact ⟨zs, .inr ⟨_, rfl, hl, hm, by simpa using hz, hcell, hwz⟩⟩
  obtain ⟨a4, len4, cap4, rfl⟩ := okWide_slice Trym.underlying22 (hval 4 22 v4 rfl rfl)
  have k4 := h4
  have lt4 : ∀ x ∈ p4, x.block < W.heap.size := by obtain ⟨m, hm⟩ := k4; exact DataW.trod_lt m _ _ _ hm
  obtain ⟨z4, w4⟩ : ∃ zs, IsRow .u8 W a4 len4 cap4 zs := by
    obtain ⟨fuel, hf⟩ := h4
    rcases open_ints Trym.underlying22 Trym.underlying5 (by kernel_rfl) hf with ⟨hcs, _⟩ | ⟨x, l, c, zs, hcs, _, hl, hm, hz, _, hcell, hwz⟩
    · simp [Value.cells] at hcs
      obtain ⟨rfl, rfl, rfl⟩ := hcs
      exact ⟨[], .inl ⟨rfl, rfl, rfl, rfl⟩⟩
    · simp [Value.cells] at hcs
      obtain ⟨rfl, rfl, rfl⟩ := hcs
      exact ⟨zs, .inr ⟨_, rfl, hl, hm, by simpa using hz, hcell, hwz⟩⟩
  obtain ⟨a5, rfl, rfl, rfl⟩ := open_bool Trym.underlying4 (hval 5 4 v5 rfl rfl) h5
  clear hA0 hval0
  refine (walk a0 a1 a2 a3 len3 cap3 z3 a4 len4 cap4 z4 a5 W w0 w1 w2 w3 w4).mono fun e W' ⟨he, bel⟩ => ?_
  subst he
  exact ⟨_, rfl, _, _, _, [], _, [], hW', trodAll_mk1 (shut_bool Trym.underlying4 _), (trodAll_cons_mk (shut_string Trym.underlying9 w0) (trodAll_cons_mk (shut_string Trym.underlying9 w1) (trodAll_cons_mk (shut_string Trym.underlying9 w2) (trodAll_cons_mk (Below.trod laidOut (by kernel_rfl) (of_decide_eq_true (by kernel_rfl)) k3 bel lt3) (trodAll_cons_mk (Below.trod laidOut (by kernel_rfl) (of_decide_eq_true (by kernel_rfl)) k4 bel lt4) (trodAll_cons_mk (shut_bool Trym.underlying4 _) trodAll_mk0)))))), rfl, bel.frame _, fun h => by cases h⟩

theorem over : Rows.fnMergeKeyOfJoinsExactlyRow.holds Trym.pinned (OpenSpec.ofChange Rows.fnMergeKeyOfJoinsExactlySpec) :=
  OpenClaim.holds_of_wide 3 Trym.f3 rfl rfl rfl rfl rfl rfl rfl ⟨rfl, rfl, rfl, rfl, rfl⟩ rfl rfl rfl rfl rfl (by kernel_rfl) Trym.func3 (by kernel_rfl)
    (of_decide_eq_true (by kernel_rfl)) (by unfold Func.isWrapper; first | (rw [if_pos (by decide +kernel)]; kernel_rfl) | (rw [if_neg (by decide +kernel)]; exact ⟨rfl, rfl⟩))
    (fun os started H enc _ => lifted os started H enc)

/-- THE STATEMENT. -/
theorem proved : Rows.FnMergeKeyOfJoinsExactlySaid := over
end Go.Proofs.Qxb6605832aMods.fnMergeKeyOfJoinsExactly
