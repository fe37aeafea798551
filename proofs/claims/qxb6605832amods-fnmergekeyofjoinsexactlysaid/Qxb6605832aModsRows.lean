/-
  No cell of these rows narrows 'for every input' (looked for: loops, veiled, ifaces, maps, wideKeys, modest, calm, conditions, laid).
  DERIVED. THE GIVEN ROWS OF THIS SEAT. 1 by the template 'for every input the law returns true; each argument reads behind the call as it read before'; 0 by the template 'total and deterministic' (their statements: Qxb6605832aModsTotals.lean).
  GIVEN WITH THE SEED: the statements are not yours to turn. If you find one false, say at which input.
  Laid BY PROGRAM, IN A SANDBOX (cutbox-rows.mjs): the forced cells as the released guide's own fill.sh prints them over the translation a43c084e0d5c5dc4… (all of the seat's roots in one cut). By AI agents, Wed Nov 11 2026. No macro, syntax, notation, axiom, sorry.
-/
import Derived.Test.Qxb6605832aModsChecked
import GoSem.Claim
import GoSem.ClaimJoined
import GoSem.ClaimMapViews
import Derived.JoinedTies
import Derived.KernelRfl
namespace Go.Proofs.Qxb6605832aMods
/- THE CELL 'sum', in the pinned program and in every row, IS THE sha256 OF THE DUMP (.gsa) THAT Qxb6605832aModsProg.lean LOADS. Nothing in Lean hashes anything: it is a label: what it is worth is what the hold of that sum in a sandbox is worth. -/
noncomputable def Trym.pinned : Pinned := { name := "qxb6605832amods", sum := "a43c084e0d5c5dc4c44210aa6d8e5f004128333cdccb37f7405b4ab5f8e7cd13", checked := Trym.checked }
namespace Rows
def none {H : Type} : Left H := { results := [], args := [] }

/-- 'zzlaws_server_b1.FnMergeKeyOfJoinsExactly': WHATEVER THE INPUT: true; the input reads as it did. -/
def fnMergeKeyOfJoinsExactlySpec : ChangeSpec := { name := "fnMergeKeyOfJoinsExactly", fn := fun _ => fun
  | [d1, d2, d3, d4, d5, d6] => { results := [.lit (.bool true)], args := [d1, d2, d3, d4, d5, d6] }
  | _ => none }
def fnMergeKeyOfJoinsExactlyRow : OpenClaim := { program := "qxb6605832amods", sum := "a43c084e0d5c5dc4c44210aa6d8e5f004128333cdccb37f7405b4ab5f8e7cd13", func := "example.com/millwright/millwright/zzlaws_server_b1.FnMergeKeyOfJoinsExactly", spec := "fnMergeKeyOfJoinsExactly", make := .lifted ["publicsums"], apart := false }
def FnMergeKeyOfJoinsExactlySaid : Prop := fnMergeKeyOfJoinsExactlyRow.holds Trym.pinned (OpenSpec.ofChange fnMergeKeyOfJoinsExactlySpec)

/-- ITS FALSE NEIGHBOUR: 'it returns false'. Refute it at one input. -/
def fnMergeKeyOfJoinsExactlyWrong : ChangeSpec := { name := "fnMergeKeyOfJoinsExactly", fn := fun _ => fun
  | [d1, d2, d3, d4, d5, d6] => { results := [.lit (.bool false)], args := [d1, d2, d3, d4, d5, d6] }
  | _ => none }
def FnMergeKeyOfJoinsExactlyWrongFalsely : Prop := fnMergeKeyOfJoinsExactlyRow.holds Trym.pinned (OpenSpec.ofChange fnMergeKeyOfJoinsExactlyWrong)

end Rows
end Go.Proofs.Qxb6605832aMods
