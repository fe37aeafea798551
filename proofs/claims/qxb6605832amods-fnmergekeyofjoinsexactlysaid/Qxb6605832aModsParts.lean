/-
  SEAT b6605832aM: THE PLAIN PARTS of the proof of 'Rows.FnMergeKeyOfJoinsExactlySaid': bytes, and what it means that a slice reads them.
-/
import Derived.Test.Qxb6605832aModsRows
import Derived.WalkKit
import Derived.ProofKit
import Derived.Below
import Derived.OpenShut
import Derived.Deep.OwnRows
import Derived.Laws.IdiomStrings
import Derived.Lib.SliceRun
import Derived.Lib.Strings
namespace Go.Proofs.Qxb6605832aMods.Merge
open Go.ChangeShapes Go.WideShapes Go.ChangeAt Go.RowKit

/-- Byte j of s, as a number. -/
def bt (s : ByteArray) (j : Nat) : Int := ((s.data.toList.getD j 0).toNat : Int)

theorem bt_at (s : ByteArray) (j : Nat) (h : j < s.data.toList.length) : bt s j = (s.data.toList[j].toNat : Int) := by
  simp only [bt, List.getD_eq_getElem?_getD, List.getElem?_eq_getElem h, Option.getD_some]

/-- A slice of s.size elements at 'a' reads the bytes of s; where it is not nil it begins at the head of a block. -/
def Reads (w : World) (a : Option Addr) (s : ByteArray) : Prop :=
  (a = none ∧ s.size = 0) ∨ ∃ b, a = some ⟨b, 0, none⟩ ∧ b < w.heap.size ∧ ∀ j, j < s.size → w.cell? ⟨b, j, none⟩ = some (.int .u8 (bt s j))

theorem Reads.stay {w w' : World} {a : Option Addr} {s : ByteArray} (h : Reads w a s) (hb : Below w.heap.size w w') : Reads w' a s := by
  rcases h with h | ⟨b, rfl, hlt, hc⟩
  · exact .inl h
  · exact .inr ⟨b, rfl, Nat.lt_of_lt_of_le hlt hb.size, fun j hj => (hb.cell (p := ⟨b, j, none⟩) hlt).trans (hc j hj)⟩

/-- 'string(arg)'. -/
theorem Reads.conv {w : World} {a : Option Addr} {s : ByteArray} (h : Reads w a s) (c : Nat) : (convert 22 9 (.slice a s.size c)).run Trym.prog w = .ok (.string s) w := by
  rcases h with ⟨rfl, h0⟩ | ⟨b, rfl, _, hc⟩
  · rw [run_convert_bytes_string w 22 9 5 none s.size c Trym.underlying22 Trym.underlying5 Trym.underlying9]
    have : s = ByteArray.empty := by
      cases s with | mk d =>
      have : d.size = 0 := h0
      have := Array.eq_empty_of_size_eq_zero this
      subst this; rfl
    subst this
    simp [Conv.bytesToString, Sem.run_pure]
  · have := run_convert_bytes_back (P := Trym.prog) w 22 9 5 ⟨b, 0, none⟩ c s.data.toList Trym.underlying22 Trym.underlying5 Trym.underlying9 (fun j hj => by
      rw [add_plain, Nat.zero_add, hc j (by rw [Lib.size_eq]; exact hj), bt_at s j hj])
    rw [Lib.mk_data, ← Lib.size_eq] at this
    exact this

theorem bt_inj {s t : ByteArray} (hs : s.size = t.size) (h : ∀ j, j < s.size → bt s j = bt t j) : s.toList = t.toList := by
  rw [Lib.toList_data, Lib.toList_data]
  rw [Lib.size_eq, Lib.size_eq] at hs
  apply List.ext_getElem hs
  intro i h1 h2
  have := h i (by rw [Lib.size_eq]; exact h1)
  rw [bt_at s i h1, bt_at t i h2] at this
  exact UInt8.toNat_inj.1 (by omega)
theorem beq_yes {s t : ByteArray} (hs : s.size = t.size) (h : ∀ j, j < s.size → bt s j = bt t j) : (s.toList == t.toList) = true := by
  rw [bt_inj hs h]; simp
theorem beq_size {s t : ByteArray} (hs : s.size ≠ t.size) : (s.toList == t.toList) = false := by
  rw [beq_eq_false_iff_ne]
  intro e
  rw [Lib.toList_data, Lib.toList_data] at e
  exact hs (by rw [Lib.size_eq, Lib.size_eq, e])
theorem beq_no {s t : ByteArray} {j : Nat} (h : bt s j ≠ bt t j) : (s.toList == t.toList) = false := by
  rw [beq_eq_false_iff_ne]
  intro e
  rw [Lib.toList_data, Lib.toList_data] at e
  exact h (by simp [bt, e])

/-- What the clone is told of a slice that came in. -/
def Comes (w : World) (a : Option Addr) (s : ByteArray) : Prop :=
  (a = none ∧ s.size = 0) ∨ ∃ b off sp, a = some ⟨b, off, sp⟩ ∧ ∀ j, j < s.size → sp = none ∧ w.cell? ⟨b, off + j, none⟩ = some (.int .u8 (bt s j))

theorem Comes.stay {w w' : World} {a : Option Addr} {s : ByteArray} (h : Comes w a s) (hb : Below w.heap.size w w') : Comes w' a s := by
  rcases h with h | ⟨b, off, sp, rfl, hc⟩
  · exact .inl h
  · exact .inr ⟨b, off, sp, rfl, fun j hj => ⟨(hc j hj).1, (hb.cell (p := ⟨b, off + j, none⟩) (World.block_lt_of_cell? _ _ (hc j hj).2)).trans (hc j hj).2⟩⟩

/-- The bytes of a list of numbers, each a byte. -/
theorem bytes_of (zs : List Int) (h : ∀ n ∈ zs, (Lit.int .u8 n).wf = true) : ∃ s : ByteArray, s.size = zs.length ∧ ∀ j, j < zs.length → bt s j = zs.getD j 0 := by
  refine ⟨⟨(zs.map fun z => UInt8.ofNat z.toNat).toArray⟩, by simp [ByteArray.size], fun j hj => ?_⟩
  have hb := bounds_u8 (h zs[j] (List.getElem_mem hj))
  simp [bt, hj]
  omega

theorem comes_of {w : World} {a : Option Addr} {len : Nat} {zs : List Int} (hl : len ≤ zs.length) (h : ∀ n ∈ zs, (Lit.int .u8 n).wf = true) (x : Addr) (ha : a = some x)
    (hc : ∀ i, i < zs.length → w.cell? (x.add i) = some (.int .u8 (zs.getD i 0))) : ∃ s : ByteArray, s.size = len ∧ Comes w a s := by
  obtain ⟨s, h1, h2⟩ := bytes_of (zs.take len) (fun n hn => h n (List.mem_of_mem_take hn))
  have h1' : s.size = len := by rw [h1]; simp; omega
  refine ⟨s, h1', .inr ?_⟩
  obtain ⟨b, off, sp⟩ := x
  refine ⟨b, off, sp, ha, fun j hj => ?_⟩
  have hc' := hc j (by omega)
  have hsp : sp = none := by simpa [Addr.add] using World.cell?_spot (hc 0 (by omega))
  subst hsp
  rw [add_plain] at hc'
  refine ⟨rfl, hc'.trans ?_⟩
  rw [h2 j (by simp; omega)]
  simp [show j < len by omega]

end Go.Proofs.Qxb6605832aMods.Merge
