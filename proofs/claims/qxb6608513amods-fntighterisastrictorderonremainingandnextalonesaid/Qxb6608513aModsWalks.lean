/-
  SEAT b6608513aM: THE CALLEES' CONTRACTS for 'Rows.FnTighterIsAStrictOrderOnRemainingAndNextAloneSaid'. Of time.Time.Add no more is said than the law wants: it answers some instant, in new memory.
-/
import Derived.Test.Qxb6608513aModsRows
import Derived.WalkKit
import Derived.ProofKit
import Derived.OpenShut
namespace Go.Proofs.Qxb6608513aMods.Tight
open Go.ChangeShapes Go.WideShapes Go.ChangeAt Go.RowKit

/-- nsec. -/
theorem nsec_any (b : Nat) (W : Int) (w : World) (h : w.cell? ⟨b, 0, none⟩ = some (.int .u64 W)) :
    Calls Trym.prog 11 #[.pointer (some ⟨b, 0, none⟩)] w fun e w' => ∃ n : Int, e = .returned (.int .i32 n) ∧ w' = w := by
  go_enter Trym.func11, Trym.ntmps11
  go_wp2
  go_ret
  exact ⟨_, rfl, rfl⟩

/-- sec. -/
theorem sec_any (b : Nat) (W E : Int) (w : World) (h0 : w.cell? ⟨b, 0, none⟩ = some (.int .u64 W)) (h1 : w.cell? ⟨b, 1, none⟩ = some (.int .i64 E)) :
    Calls Trym.prog 14 #[.pointer (some ⟨b, 0, none⟩)] w fun e w' => ∃ n : Int, e = .returned (.int .i64 n) ∧ w' = w := by
  go_enter Trym.func14, Trym.ntmps14
  go_wp2
  all_goals (go_ret; exact ⟨_, rfl, rfl⟩)

/-- stripMono: on the receiver's box. -/
theorem strip_any (W E : Int) (L : Value) (o : Obj) (w : World) :
    Calls Trym.prog 13 #[.pointer (some ⟨w.heap.size, 0, none⟩)] ((w.alloc (.cells #[.int .u64 W, .int .i64 E, L] 29)).alloc o) fun e w' =>
      e = .returned (.tuple #[]) ∧ ∃ W' E' : Int, w' = (w.alloc (.cells #[.int .u64 W', .int .i64 E', L] 29)).alloc o := by
  go_enter Trym.func13, Trym.ntmps13
  go_wp2_with (go_at_call 14; refine (sec_any w.heap.size W E _ (by simp [go_sem]) (by simp [go_sem])).mono ?_; rintro e w' ⟨n, rfl, rfl⟩)
  all_goals (go_end0; exact ⟨rfl, _, _, rfl⟩)

set_option maxHeartbeats 800000 in
/-- addSec: on the receiver's box. -/
theorem addSec_any (W E D : Int) (L : Value) (o : Obj) (w : World) :
    Calls Trym.prog 12 #[.pointer (some ⟨w.heap.size, 0, none⟩), .int .i64 D] ((w.alloc (.cells #[.int .u64 W, .int .i64 E, L] 29)).alloc o) fun e w' =>
      e = .returned (.tuple #[]) ∧ ∃ W' E' : Int, w' = (w.alloc (.cells #[.int .u64 W', .int .i64 E', L] 29)).alloc o := by
  go_enter Trym.func12, Trym.ntmps12
  go_wp2_with (go_at_call 13; refine (strip_any _ _ L o w).mono ?_; rintro e w' ⟨rfl, W', E', rfl⟩)
  all_goals first | (refine bodyPost_ret (results_none rfl _ _ _) rfl ?_; exact ⟨rfl, _, _, rfl⟩) | (go_end0; exact ⟨rfl, _, _, rfl⟩)

/-- An instant has come back; two new blocks. -/
def Instant (w : World) (e : Ending) (w' : World) : Prop :=
  ∃ W' E' : Int, e = .returned (.agg #[.int .u64 W', .int .i64 E', .pointer none]) ∧ ∃ c1 c2 : Array Value, w' = (w.alloc (.cells c1 29)).alloc (.cells c2 29)

set_option maxHeartbeats 1600000 in
/-- Time.Add: some instant. -/
theorem add_any (W E D : Int) (w : World) : Calls Trym.prog 8 #[.agg #[.int .u64 W, .int .i64 E, .pointer none], .int .i64 D] w (Instant w) := by
  go_enter Trym.func8, Trym.ntmps8
  go_wp2_with fail
  refine (nsec_any _ W _ (by simp [go_sem])).mono ?_
  rintro e w' ⟨n, rfl, rfl⟩
  go_wp2_with (first
    | (go_at_call 12; refine (addSec_any _ _ _ (.pointer none) _ w).mono ?_; rintro e w' ⟨rfl, W', E', rfl⟩)
    | (go_at_call 13; refine (strip_any _ _ (.pointer none) _ w).mono ?_; rintro e w' ⟨rfl, W'', E'', rfl⟩))
  all_goals
    simp [bodyPost, results, Trym.results8, go_sem]
    exact ⟨_, _, rfl, _, _, rfl⟩

end Go.Proofs.Qxb6608513aMods.Tight
