/-
  SEAT b6608513aM: THE CALLEES' CONTRACTS, second text: ZZnewStanding, ZZtighter; and what is carried from call to call.
-/
import Derived.Test.Qxb6608513aModsWalks
import Derived.Below
namespace Go.Proofs.Qxb6608513aMods.Tight
open Go.ChangeShapes Go.WideShapes Go.ChangeAt Go.RowKit

/-- The world has at most new blocks. -/
def More (w w' : World) : Prop := Grown w w' ∧ Below w.heap.size w w'
theorem More.refl (w : World) : More w w := ⟨Grown.refl _, Below.refl _ _⟩
theorem More.alloc {w w' : World} (h : More w w') (c : Array Value) (t : TypeId) : More w (w'.alloc (.cells c t)) := ⟨h.1.alloc c t, h.2.alloc h.2.size _⟩
theorem More.trans {w w' w'' : World} (h : More w w') (k : More w' w'') : More w w'' :=
  ⟨⟨World.keptBut_trans h.1.1 k.1.1, fun a => (k.1.2.1 a).trans (h.1.2.1 a), Nat.le_trans h.1.2.2 k.1.2.2⟩, h.2.trans (k.2.mono h.2.size)⟩

/-- A standing has come back. -/
def Standing (al : Bool) (li re ne : Int) (w : World) (e : Ending) (w' : World) : Prop :=
  ∃ W E : Int, e = .returned (.agg #[.bool al, .int .i64 li, .int .i64 re, .int .u64 W, .int .i64 E, .pointer none, .int .i64 ne]) ∧ More w w'

/-- ZZnewStanding. -/
theorem new_any (al : Bool) (li re fu ne : Int) (w : World) :
    Calls Trym.prog 6 #[.bool al, .int .i64 li, .int .i64 re, .int .i64 fu, .int .i64 ne] w (Standing al li re ne w) := by
  go_enter Trym.func6, Trym.ntmps6
  go_wp2_with fail
  refine (add_any _ _ _ _).mono ?_
  rintro e w' ⟨W, E, rfl, c1, c2, rfl⟩
  go_wp2
  simp [bodyPost, results, Trym.results6, go_sem]
  exact ⟨_, _, rfl, (((More.refl _).alloc _ _).alloc _ _).alloc _ _⟩

/-- What tighter answers of two standings. -/
def tb (r n r' n' : Int) : Bool := if r = r' then decide (n' < n) else decide (r < r')

/-- ZZtighter. -/
theorem tighter_is {al al' : Bool} {li re W E ne li' re' W' E' ne' : Int} {q : Bool} (hq : tb re ne re' ne' = q) (w : World) :
    Calls Trym.prog 7 #[.agg #[.bool al, .int .i64 li, .int .i64 re, .int .u64 W, .int .i64 E, .pointer none, .int .i64 ne], .agg #[.bool al', .int .i64 li', .int .i64 re', .int .u64 W', .int .i64 E', .pointer none, .int .i64 ne']] w
      fun e w' => e = .returned (.bool q) ∧ More w w' := by
  subst hq
  unfold tb
  by_cases h : re = re'
  · subst h
    go_enter Trym.func7, Trym.ntmps7
    go_wp2
    go_ret
    exact ⟨by simp, ((((More.refl _).alloc _ _).alloc _ _).alloc _ _).alloc _ _⟩
  · have h' : (re != re') = true := by simp [h]
    go_enter Trym.func7, Trym.ntmps7
    go_wp2
    go_ret
    exact ⟨by simp, ((((More.refl _).alloc _ _).alloc _ _).alloc _ _).alloc _ _⟩

/-- The plain law of tighter: five ways, each with the answers both ways round. -/
theorem tb_self (r n : Int) : tb r n r n = false := by simp [tb]
theorem ways (r n r' n' : Int) :
    (r < r' ∧ tb r n r' n' = true ∧ tb r' n' r n = false) ∨ (r' < r ∧ tb r n r' n' = false ∧ tb r' n' r n = true) ∨
    (r = r' ∧ n' < n ∧ tb r n r' n' = true ∧ tb r' n' r n = false) ∨ (r = r' ∧ n < n' ∧ tb r n r' n' = false ∧ tb r' n' r n = true) ∨
    (r = r' ∧ n = n' ∧ tb r n r' n' = false ∧ tb r' n' r n = false) := by
  unfold tb
  rcases Int.lt_trichotomy r r' with h | h | h
  · exact .inl ⟨h, by rw [if_neg (by omega)]; simp [h], by rw [if_neg (by omega)]; simp; omega⟩
  · subst h
    rcases Int.lt_trichotomy n n' with k | k | k
    · exact .inr (.inr (.inr (.inl ⟨rfl, k, by simp; omega, by simp [k]⟩)))
    · subst k; exact .inr (.inr (.inr (.inr ⟨rfl, rfl, by simp, by simp⟩)))
    · exact .inr (.inr (.inl ⟨rfl, k, by simp [k], by simp; omega⟩))
  · exact .inr (.inl ⟨h, by rw [if_neg (by omega)]; simp; omega, by rw [if_neg (by omega)]; simp [h]⟩)

/-- Block b holds a standing. -/
def Has (w : World) (b : Nat) (al : Bool) (li re W E ne : Int) : Prop :=
  b < w.heap.size ∧ w.cell? ⟨b, 0, none⟩ = some (.bool al) ∧ w.cell? ⟨b, 1, none⟩ = some (.int .i64 li) ∧ w.cell? ⟨b, 2, none⟩ = some (.int .i64 re) ∧ w.cell? ⟨b, 3, none⟩ = some (.int .u64 W) ∧
    w.cell? ⟨b, 4, none⟩ = some (.int .i64 E) ∧ w.cell? ⟨b, 5, none⟩ = some (.pointer none) ∧ w.cell? ⟨b, 6, none⟩ = some (.int .i64 ne)
theorem Has.more {w w' : World} {b : Nat} {al : Bool} {li re W E ne : Int} (h : Has w b al li re W E ne) (m : More w w') : Has w' b al li re W E ne := by
  obtain ⟨hl, h0, h1, h2, h3, h4, h5, h6⟩ := h
  have k : ∀ i, w'.cell? ⟨b, i, none⟩ = w.cell? ⟨b, i, none⟩ := fun i => m.2.cell (p := ⟨b, i, none⟩) hl
  exact ⟨Nat.lt_of_lt_of_le hl m.2.size, (k 0).trans h0, (k 1).trans h1, (k 2).trans h2, (k 3).trans h3, (k 4).trans h4, (k 5).trans h5, (k 6).trans h6⟩
theorem Has.new (w : World) (al : Bool) (li re W E ne : Int) :
    Has (w.alloc (.cells #[.bool al, .int .i64 li, .int .i64 re, .int .u64 W, .int .i64 E, .pointer none, .int .i64 ne] 32)) w.heap.size al li re W E ne := by
  refine ⟨by simp, ?_, ?_, ?_, ?_, ?_, ?_, ?_⟩ <;> simp [go_sem]
end Go.Proofs.Qxb6608513aMods.Tight
