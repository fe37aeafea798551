/-
  No cell of these rows narrows 'for every input' (looked for: loops, veiled, ifaces, maps, wideKeys, modest, calm, conditions, laid).
  DERIVED. THE GIVEN ROWS OF THIS SEAT. 1 by the template 'for every input the law returns true; each argument reads behind the call as it read before'; 0 by the template 'total and deterministic' (their statements: Qxb6619043aModsTotals.lean).
  GIVEN WITH THE SEED: the statements are not yours to turn. If you find one false, say at which input.
  Laid BY PROGRAM, IN A SANDBOX (cutbox-rows.mjs): the forced cells as the released guide's own fill.sh prints them over the translation 2e6c907082ee7388… (all of the seat's roots in one cut). By AI agents, Wed Nov 11 2026. No macro, syntax, notation, axiom, sorry.
-/
import Derived.Test.Qxb6619043aModsChecked
import GoSem.Claim
import GoSem.ClaimJoined
import GoSem.ClaimMapViews
import Derived.JoinedTies
import Derived.KernelRfl
namespace Go.Proofs.Qxb6619043aMods
/- THE CELL 'sum', in the pinned program and in every row, IS THE sha256 OF THE DUMP (.gsa) THAT Qxb6619043aModsProg.lean LOADS. Nothing in Lean hashes anything: it is a label: what it is worth is what the hold of that sum in a sandbox is worth. -/
noncomputable def Trym.pinned : Pinned := { name := "qxb6619043amods", sum := "2e6c907082ee738810324849cddd4c49828a6c05d79bc598a9177746917864ba", checked := Trym.checked }
namespace Rows
def none {H : Type} : Left H := { results := [], args := [] }

/-- 'zzlaws_internal_auth_b1.FnAlnumCaseTwins': WHATEVER THE INPUT: true; the input reads as it did. -/
def fnAlnumCaseTwinsSpec : ChangeSpec := { name := "fnAlnumCaseTwins", fn := fun _ => fun
  | [d] => { results := [.lit (.bool true)], args := [d] }
  | _ => none }
def fnAlnumCaseTwinsRow : OpenClaim := { program := "qxb6619043amods", sum := "2e6c907082ee738810324849cddd4c49828a6c05d79bc598a9177746917864ba", func := "example.com/garter/garter/zzlaws_internal_auth_b1.FnAlnumCaseTwins", spec := "fnAlnumCaseTwins", make := .lifted ["publicsums"], apart := false }
def FnAlnumCaseTwinsSaid : Prop := fnAlnumCaseTwinsRow.holds Trym.pinned (OpenSpec.ofChange fnAlnumCaseTwinsSpec)

/-- ITS FALSE NEIGHBOUR: 'it returns false'. Refute it at one input. -/
def fnAlnumCaseTwinsWrong : ChangeSpec := { name := "fnAlnumCaseTwins", fn := fun _ => fun
  | [d] => { results := [.lit (.bool false)], args := [d] }
  | _ => none }
def FnAlnumCaseTwinsWrongFalsely : Prop := fnAlnumCaseTwinsRow.holds Trym.pinned (OpenSpec.ofChange fnAlnumCaseTwinsWrong)

end Rows
end Go.Proofs.Qxb6619043aMods
