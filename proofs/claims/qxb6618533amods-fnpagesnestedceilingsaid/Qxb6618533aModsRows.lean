/-
  No cell of these rows narrows 'for every input' (looked for: loops, veiled, ifaces, maps, wideKeys, modest, calm, conditions, laid).
  DERIVED. THE GIVEN ROWS OF THIS SEAT. 3 by the template 'for every input the law returns true; each argument reads behind the call as it read before'; 0 by the template 'total and deterministic' (their statements: Qxb6618533aModsTotals.lean).
  GIVEN WITH THE SEED: the statements are not yours to turn. If you find one false, say at which input.
  Laid BY PROGRAM, IN A SANDBOX (cutbox-rows.mjs): the forced cells as the released guide's own fill.sh prints them over the translation 59fe339a073b9a9d… (all of the seat's roots in one cut). By AI agents, Wed Nov 11 2026. No macro, syntax, notation, axiom, sorry.
-/
import Derived.Test.Qxb6618533aModsChecked
import GoSem.Claim
import GoSem.ClaimJoined
import GoSem.ClaimMapViews
import Derived.JoinedTies
import Derived.KernelRfl
namespace Go.Proofs.Qxb6618533aMods
/- THE CELL 'sum', in the pinned program and in every row, IS THE sha256 OF THE DUMP (.gsa) THAT Qxb6618533aModsProg.lean LOADS. Nothing in Lean hashes anything: it is a label: what it is worth is what the hold of that sum in a sandbox is worth. -/
noncomputable def Trym.pinned : Pinned := { name := "qxb6618533amods", sum := "59fe339a073b9a9d2e961b6183c556b7f59dd9df7993bdd0cc94e5eb709bcb9f", checked := Trym.checked }
namespace Rows
def none {H : Type} : Left H := { results := [], args := [] }

/-- 'zzlaws_stream_b1.FnPagesNestedCeiling': WHATEVER THE INPUT: true; the input reads as it did. -/
def fnPagesNestedCeilingSpec : ChangeSpec := { name := "fnPagesNestedCeiling", fn := fun _ => fun
  | [d1, d2, d3] => { results := [.lit (.bool true)], args := [d1, d2, d3] }
  | _ => none }
def fnPagesNestedCeilingRow : OpenClaim := { program := "qxb6618533amods", sum := "59fe339a073b9a9d2e961b6183c556b7f59dd9df7993bdd0cc94e5eb709bcb9f", func := "example.com/ledgerchord/ledgerchord/zzlaws_stream_b1.FnPagesNestedCeiling", spec := "fnPagesNestedCeiling", make := .lifted ["publicsums"], apart := false }
def FnPagesNestedCeilingSaid : Prop := fnPagesNestedCeilingRow.holds Trym.pinned (OpenSpec.ofChange fnPagesNestedCeilingSpec)

/-- ITS FALSE NEIGHBOUR: 'it returns false'. Refute it at one input. -/
def fnPagesNestedCeilingWrong : ChangeSpec := { name := "fnPagesNestedCeiling", fn := fun _ => fun
  | [d1, d2, d3] => { results := [.lit (.bool false)], args := [d1, d2, d3] }
  | _ => none }
def FnPagesNestedCeilingWrongFalsely : Prop := fnPagesNestedCeilingRow.holds Trym.pinned (OpenSpec.ofChange fnPagesNestedCeilingWrong)

/-- 'zzlaws_stream_b1.FnDropEmptiesQueue': WHATEVER THE INPUT: true; the input reads as it did. -/
def fnDropEmptiesQueueSpec : ChangeSpec := { name := "fnDropEmptiesQueue", fn := fun _ => fun
  | [d1, d2, d3] => { results := [.lit (.bool true)], args := [d1, d2, d3] }
  | _ => none }
def fnDropEmptiesQueueRow : OpenClaim := { program := "qxb6618533amods", sum := "59fe339a073b9a9d2e961b6183c556b7f59dd9df7993bdd0cc94e5eb709bcb9f", func := "example.com/ledgerchord/ledgerchord/zzlaws_stream_b1.FnDropEmptiesQueue", spec := "fnDropEmptiesQueue", make := .lifted ["publicsums"], apart := false }
def FnDropEmptiesQueueSaid : Prop := fnDropEmptiesQueueRow.holds Trym.pinned (OpenSpec.ofChange fnDropEmptiesQueueSpec)

/-- ITS FALSE NEIGHBOUR: 'it returns false'. Refute it at one input. -/
def fnDropEmptiesQueueWrong : ChangeSpec := { name := "fnDropEmptiesQueue", fn := fun _ => fun
  | [d1, d2, d3] => { results := [.lit (.bool false)], args := [d1, d2, d3] }
  | _ => none }
def FnDropEmptiesQueueWrongFalsely : Prop := fnDropEmptiesQueueRow.holds Trym.pinned (OpenSpec.ofChange fnDropEmptiesQueueWrong)

/-- 'zzlaws_stream_b1.FnDropAfterFreeRoom': WHATEVER THE INPUT: true; the input reads as it did. -/
def fnDropAfterFreeRoomSpec : ChangeSpec := { name := "fnDropAfterFreeRoom", fn := fun _ => fun
  | [d1, d2, d3] => { results := [.lit (.bool true)], args := [d1, d2, d3] }
  | _ => none }
def fnDropAfterFreeRoomRow : OpenClaim := { program := "qxb6618533amods", sum := "59fe339a073b9a9d2e961b6183c556b7f59dd9df7993bdd0cc94e5eb709bcb9f", func := "example.com/ledgerchord/ledgerchord/zzlaws_stream_b1.FnDropAfterFreeRoom", spec := "fnDropAfterFreeRoom", make := .lifted ["publicsums"], apart := false }
def FnDropAfterFreeRoomSaid : Prop := fnDropAfterFreeRoomRow.holds Trym.pinned (OpenSpec.ofChange fnDropAfterFreeRoomSpec)

/-- ITS FALSE NEIGHBOUR: 'it returns false'. Refute it at one input. -/
def fnDropAfterFreeRoomWrong : ChangeSpec := { name := "fnDropAfterFreeRoom", fn := fun _ => fun
  | [d1, d2, d3] => { results := [.lit (.bool false)], args := [d1, d2, d3] }
  | _ => none }
def FnDropAfterFreeRoomWrongFalsely : Prop := fnDropAfterFreeRoomRow.holds Trym.pinned (OpenSpec.ofChange fnDropAfterFreeRoomWrong)

end Rows
end Go.Proofs.Qxb6618533aMods
