/-
  SEAT b6605832aM: THE CALLEES' CONTRACTS for 'Rows.FnMergeKeyOfJoinsExactlySaid'.
-/
import Derived.Test.Qxb6605832aModsParts
import Derived.Deep.QuietTactic
import Derived.BigQuiet
namespace Go.Proofs.Qxb6605832aMods.Merge
open Go.ChangeShapes Go.WideShapes Go.ChangeAt Go.RowKit

theorem info5 : (Trym.prog.info? 5).map (fun i => (i.zero, i.size, i.bytes)) = some (some (.int .u8 0), 1, 1) := by kernel_rfl

/-- zzBytes_FnMergeKeyOfJoinsExactly answers; what, does not matter. -/
theorem zzBytes_any (f u v : ByteArray) (a b : Option Addr) (n m c d : Nat) (bg : Bool) (w : World) (hf : f.size ≤ maxLen) (hu : u.size ≤ maxLen) (hv : v.size ≤ maxLen) (hn : n ≤ maxLen) (hm : m ≤ maxLen) :
    Calls Trym.prog 4 #[.string f, .string u, .string v, .slice a n c, .slice b m d, .bool bg] w fun e w' => ∃ t : Bool, e = .returned (.bool t) ∧ w' = w := by
  unfold maxLen at hf hu hv hn hm
  go_enter Trym.func4, Trym.ntmps4
  go_wp2
  all_goals (go_ret; exact ⟨_, rfl, rfl⟩)

/-- sameKey: one function and kind. -/
theorem same_any (f i j : ByteArray) (b : Bool) (w : World) :
    Calls Trym.prog 7 #[.string f, .string i, .bool b, .string f, .string j, .bool b] w fun e w' => e = .returned (.bool (i.toList == j.toList)) ∧ w' = w := by
  cases h : (i.toList == j.toList)
  · go_enter Trym.func7, Trym.ntmps7
    go_wp2
    go_ret
    exact ⟨rfl, rfl⟩
  · go_enter Trym.func7, Trym.ntmps7
    go_wp2
    go_ret
    exact ⟨rfl, rfl⟩
/-- sameKey: the other kind. -/
theorem same_other (f i : ByteArray) (b : Bool) (w : World) :
    Calls Trym.prog 7 #[.string f, .string i, .bool b, .string f, .string i, .bool (!b)] w fun e w' => e = .returned (.bool false) ∧ w' = w := by
  cases b
  · go_enter Trym.func7, Trym.ntmps7
    go_wp2
    go_ret
    exact ⟨rfl, rfl⟩
  · go_enter Trym.func7, Trym.ntmps7
    go_wp2
    go_ret
    exact ⟨rfl, rfl⟩

/-- The id that a submission merges on. -/
def keyId (u s : ByteArray) : ByteArray := cond (u.toList == [45]) s u

/-- mergeKeyOf. -/
theorem mergeKeyOf_any (f u s : ByteArray) (a : Option Addr) (c : Nat) (b : Bool) (w : World) (hr : Reads w a s) :
    Calls Trym.prog 9 #[.string f, .string u, .slice a s.size c, .bool b] w fun e w' => e = .returned (.agg #[.string f, .string (keyId u s), .bool b]) ∧ Below w.heap.size w w' := by
  have hconv : ∀ o, (convert 22 9 (.slice a s.size c)).run Trym.prog (w.alloc o) = .ok (.string s) (w.alloc o) := fun o => (hr.stay ((Below.refl _ _).alloc (Nat.le_refl _) o)).conv c
  clear hr
  unfold keyId
  cases h : (u.toList == [45])
  · go_enter Trym.func9, Trym.ntmps9
    go_wp2
    exact bodyPost_ret (v := .agg #[.string f, .string u, .bool b]) (by simp [results, Trym.results9, go_sem]) rfl ⟨rfl, (Below.refl _ _).alloc (Nat.le_refl _) _⟩
  · go_enter Trym.func9, Trym.ntmps9
    go_wp2
    exact bodyPost_ret (v := .agg #[.string f, .string s, .bool b]) (by simp [results, Trym.results9, go_sem]) rfl ⟨rfl, (Below.refl _ _).alloc (Nat.le_refl _) _⟩

end Go.Proofs.Qxb6605832aMods.Merge
