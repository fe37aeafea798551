/-
  SEAT b6605832aM: THE CALLEES' CONTRACTS, second text: ZZmergeKeyOf, cloneBytes, bytesEqual.
-/
import Derived.Test.Qxb6605832aModsWalks
namespace Go.Proofs.Qxb6605832aMods.Merge
open Go.ChangeShapes Go.WideShapes Go.ChangeAt Go.RowKit

theorem below_draws {B : Nat} {a w : World} (h : Below B a w) (n : Nat) : Below B a (w.drewN n) := h.trans ⟨rfl, rfl, rfl, Nat.le_refl _, fun _ _ => rfl⟩

/-- ZZmergeKeyOf. -/
theorem zzKey_any (f u s : ByteArray) (a : Option Addr) (c : Nat) (b : Bool) (w : World) (hr : Reads w a s) :
    Calls Trym.prog 6 #[.string f, .string u, .slice a s.size c, .bool b] w fun e w' => e = .returned (.tuple #[.string f, .string (keyId u s), .bool b]) ∧ Below w.heap.size w w' := by
  go_enter Trym.func6, Trym.ntmps6
  go_wp2_with fail
  refine (mergeKeyOf_any f u s a c b _ hr).mono ?_
  rintro e w' ⟨rfl, hb⟩
  go_wp2
  go_quiet (fail)
  go_wp2
  go_ret3
  exact ⟨rfl, below_draws (hb.alloc hb.size _) _⟩

/-- cloneBytes: a nil slice. -/
theorem clone_nil (w : World) :
    Calls Trym.prog 5 #[.slice none 0 0] w fun e w' => e = .returned (.slice none 0 0) ∧ w' = w := by
  have q22 : ∀ (w : World) (a : Option Addr) (n c n' c' : Nat), (binOp .eql 22 (.slice a n c) (.slice none n' c')).run Trym.prog w = .ok (.bool a.isNone) w := fun w a n c n' c' => Lib.run_eql_slice_nil w _ _ a n c n' c' Trym.underlying22
  go_enter Trym.func5, Trym.ntmps5
  go_wp2
  go_ret
  exact ⟨rfl, rfl⟩

/-- What the clone's row holds behind k rounds. -/
def soFar (s : ByteArray) (k : Nat) : Nat → Value := fun j => if j < k then .int .u8 (bt s j) else .int .u8 0
theorem soFar_start (w : World) (s : ByteArray) : (w.alloc (.cells (madeCells #[.int .u8 0] s.size) 5)).rowIs w.heap.size 5 s.size (soFar s 0) :=
  (World.rowIs_made w (.int .u8 0) s.size 5).congr fun i _ => by simp [soFar]
theorem soFar_step {w wr : World} {s : ByteArray} {k : Nat} (h : wr.rowIs w.heap.size 5 s.size (soFar s k)) : (wr.setCell ⟨w.heap.size, k, none⟩ (.int .u8 (bt s k))).rowIs w.heap.size 5 s.size (soFar s (k + 1)) := by
  refine (h.set k _).congr fun i _ => ?_
  unfold soFar
  by_cases e : i = k
  · subst e; simp
  · rw [if_neg e]
    by_cases hlt : i < k
    · rw [if_pos hlt, if_pos (by omega)]
    · rw [if_neg hlt, if_neg (by omega)]

set_option maxHeartbeats 400000 in
/-- cloneBytes: a slice that is not nil. -/
theorem clone_some (b off : Nat) (sp : Option Nat) (s : ByteArray) (cap : Nat) (w : World) (hlen : s.size ≤ 131072)
    (hc : ∀ j, j < s.size → sp = none ∧ w.cell? ⟨b, off + j, none⟩ = some (.int .u8 (bt s j))) :
    Calls Trym.prog 5 #[.slice (some ⟨b, off, sp⟩) s.size cap] w fun e w' => e = .returned (.slice (some ⟨w.heap.size, 0, none⟩) s.size s.size) ∧ w'.rowIs w.heap.size 5 s.size (soFar s s.size) ∧ Below w.heap.size w w' := by
  have q22 : ∀ (w : World) (a : Option Addr) (n c n' c' : Nat), (binOp .eql 22 (.slice a n c) (.slice none n' c')).run Trym.prog w = .ok (.bool a.isNone) w := fun w a n c n' c' => Lib.run_eql_slice_nil w _ _ a n c n' c' Trym.underlying22
  have hmk := run_make_row' (P := Trym.prog) 22 5 (.int .u8 0) 1 Trym.underlying22 info5 rfl .i64 .i64 s.size (by omega) (by omega)
  go_enter Trym.func5, Trym.ntmps5
  go_wp2
  clear hmk q22
  go_loopw [4] (fun i wr => ∃ k : Nat, k ≤ s.size ∧ i = .int .i64 k ∧ wr.rowIs w.heap.size 5 s.size (soFar s k) ∧ Below w.heap.size w wr) (fun i _ => s.size - (intOf i).toNat)
  case atStart => exact ⟨0, Nat.zero_le _, rfl, soFar_start w s, (Below.refl _ _).alloc (Nat.le_refl _) _⟩
  case round =>
    obtain ⟨k, hk, rfl, hrow, hbel⟩ := hrel
    by_cases hlt : k < s.size
    · obtain ⟨rfl, hcell⟩ := hc k hlt
      have hsrc : wr.cell? ⟨b, off + k, none⟩ = some (.int .u8 (bt s k)) := (hbel.cell (p := ⟨b, off + k, none⟩) (World.block_lt_of_cell? _ _ hcell)).trans hcell
      have hdst : wr.cell? ⟨w.heap.size, k, none⟩ = some (soFar s k k) := hrow.cell hlt
      have hfz : wr.frozen? ⟨w.heap.size, k, none⟩ = false := hrow.frozen k
      have hltz : (k : Int) < (s.size : Int) := by omega
      clear hc hcell
      go_wp2
      go_roundw
      case rel => exact ⟨k + 1, by omega, by go_num, soFar_step hrow, hbel.setCell (Nat.le_refl _) _⟩
      case measure => simp [intOf]; omega
    · obtain rfl : k = s.size := by omega
      go_wp2
      go_ret
      exact ⟨rfl, hrow, hbel⟩

/-- cloneBytes. -/
theorem clone_any (a : Option Addr) (s : ByteArray) (cap : Nat) (w : World) (hlen : s.size ≤ 131072) (hn : a = none → cap = 0) (h : Comes w a s) :
    Calls Trym.prog 5 #[.slice a s.size cap] w fun e w' => ∃ a' c', e = .returned (.slice a' s.size c') ∧ Reads w' a' s ∧ Below w.heap.size w w' := by
  rcases h with ⟨rfl, h0⟩ | ⟨b, off, sp, rfl, hc⟩
  · rw [h0, hn rfl]
    refine (clone_nil w).mono ?_
    rintro e w' ⟨rfl, rfl⟩
    exact ⟨none, 0, rfl, .inl ⟨rfl, h0⟩, Below.refl _ _⟩
  · refine (clone_some b off sp s cap w hlen hc).mono ?_
    rintro e w' ⟨rfl, hrow, hb⟩
    refine ⟨_, _, rfl, .inr ⟨w.heap.size, rfl, hrow.lt, fun j hj => (hrow.cell hj).trans ?_⟩, hb⟩
    simp [soFar, hj]

set_option maxHeartbeats 400000 in
/-- bytesEqual: two rows of one length, not empty. -/
theorem equal_rows (b1 b2 : Nat) (s1 s2 : ByteArray) (c1 c2 : Nat) (w : World) (hl : s1.size ≤ 131072) (hs : s1.size = s2.size)
    (h1 : ∀ j, j < s1.size → w.cell? ⟨b1, j, none⟩ = some (.int .u8 (bt s1 j))) (h2 : ∀ j, j < s1.size → w.cell? ⟨b2, j, none⟩ = some (.int .u8 (bt s2 j))) :
    Calls Trym.prog 8 #[.slice (some ⟨b1, 0, none⟩) s1.size c1, .slice (some ⟨b2, 0, none⟩) s1.size c2] w fun e w' => e = .returned (.bool (s1.toList == s2.toList)) ∧ Below w.heap.size w w' := by
  have HS : Hid (s1.size = s2.size) := hs
  clear hs
  go_enter Trym.func8, Trym.ntmps8
  go_wp2
  go_loopw [5] (fun i wr => ∃ k : Nat, k ≤ s1.size ∧ i = .int .i64 k ∧ Hid (∀ j, j < k → bt s1 j = bt s2 j) ∧ ∃ n, wr = w.drewN n) (fun i _ => s1.size - (intOf i).toNat)
  case atStart => exact ⟨0, Nat.zero_le _, rfl, fun j hj => by omega, 0, rfl⟩
  case round =>
    obtain ⟨k, hk, rfl, HE, n, rfl⟩ := hrel
    by_cases hlt : k < s1.size
    · have g1 := h1 k hlt
      have g2 := h2 k hlt
      have hltz : (k : Int) < (s1.size : Int) := by omega
      clear h1 h2
      by_cases he : bt s1 k = bt s2 k
      · have hq : (bt s1 k != bt s2 k) = false := by simp [he]
        have HK : Hid (bt s1 k = bt s2 k) := he
        clear he
        go_wp2
        go_quiet (fail)
        go_wp2
        go_roundw
        case rel => exact ⟨k + 1, by omega, by go_num, fun j hj => if e : j = k then by subst e; exact HK.out else HE.out j (by omega), _, rfl⟩
        case measure => simp [intOf]; omega
      · have hq : (bt s1 k != bt s2 k) = true := by simp [he]
        have hres := beq_no he
        clear he
        go_wp2
        go_quiet (fail)
        go_wp2
        go_ret
        exact ⟨by rw [hres]; rfl, below_draws (below_draws (Below.refl _ _) _) _⟩
    · obtain rfl : k = s1.size := by omega
      have hres := beq_yes HS.out HE.out
      clear h1 h2
      go_wp2
      go_ret
      exact ⟨by rw [hres]; rfl, below_draws (Below.refl _ _) _⟩

/-- bytesEqual: two lengths. -/
theorem equal_sizes (a1 a2 : Option Addr) (s1 s2 : ByteArray) (c1 c2 : Nat) (w : World) (hs : s1.size ≠ s2.size) :
    Calls Trym.prog 8 #[.slice a1 s1.size c1, .slice a2 s2.size c2] w fun e w' => e = .returned (.bool (s1.toList == s2.toList)) ∧ Below w.heap.size w w' := by
  have hres := beq_size hs
  have hq : ((s1.size : Int) != (s2.size : Int)) = true := by simp; omega
  go_enter Trym.func8, Trym.ntmps8
  go_wp2
  go_ret
  exact ⟨by rw [hres]; rfl, Below.refl _ _⟩

/-- bytesEqual: nothing in either. -/
theorem equal_empty (a1 a2 : Option Addr) (s1 s2 : ByteArray) (c1 c2 : Nat) (w : World) (h1 : s1.size = 0) (h2 : s2.size = 0) :
    Calls Trym.prog 8 #[.slice a1 0 c1, .slice a2 0 c2] w fun e w' => e = .returned (.bool (s1.toList == s2.toList)) ∧ Below w.heap.size w w' := by
  have hres := beq_yes (h1.trans h2.symm) (fun j hj => by omega)
  clear h1 h2
  go_enter Trym.func8, Trym.ntmps8
  go_wp2
  refine wp_loop_rounds 1 ?_
  rw [rounds_succ]
  go_wp2
  go_ret
  exact ⟨by rw [hres]; rfl, Below.refl _ _⟩

/-- bytesEqual. -/
theorem equal_any (a1 a2 : Option Addr) (s1 s2 : ByteArray) (c1 c2 : Nat) (w : World) (hl : s1.size ≤ 131072) (r1 : Reads w a1 s1) (r2 : Reads w a2 s2) :
    Calls Trym.prog 8 #[.slice a1 s1.size c1, .slice a2 s2.size c2] w fun e w' => e = .returned (.bool (s1.toList == s2.toList)) ∧ Below w.heap.size w w' := by
  by_cases hs : s1.size = s2.size
  · by_cases h0 : s1.size = 0
    · have h0' := hs.symm.trans h0
      rw [h0, h0']
      exact equal_empty a1 a2 s1 s2 c1 c2 w h0 h0'
    · rcases r1 with ⟨_, e⟩ | ⟨b1, rfl, _, g1⟩
      · exact absurd e h0
      rcases r2 with ⟨_, e⟩ | ⟨b2, rfl, _, g2⟩
      · exact absurd (hs.trans e) h0
      rw [← hs]
      exact equal_rows b1 b2 s1 s2 c1 c2 w hl hs g1 (fun j hj => g2 j (by omega))
  · exact equal_sizes a1 a2 s1 s2 c1 c2 w hs
end Go.Proofs.Qxb6605832aMods.Merge
