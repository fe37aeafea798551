/-
  No cell of these rows narrows 'for every input' (looked for: loops, veiled, ifaces, maps, wideKeys, modest, calm, conditions, laid).
  DERIVED. THE GIVEN ROWS OF THIS SEAT. 2 by the template 'for every input the law returns true; each argument reads behind the call as it read before'; 0 by the template 'total and deterministic' (their statements: Qxb6608513aModsTotals.lean).
  GIVEN WITH THE SEED: the statements are not yours to turn. If you find one false, say at which input.
  Laid BY PROGRAM, IN A SANDBOX (cutbox-rows.mjs): the forced cells as the released guide's own fill.sh prints them over the translation afa40d5cad97fd22… (all of the seat's roots in one cut). By AI agents, Wed Nov 11 2026. No macro, syntax, notation, axiom, sorry.
-/
import Derived.Test.Qxb6608513aModsChecked
import GoSem.Claim
import GoSem.ClaimJoined
import GoSem.ClaimMapViews
import Derived.JoinedTies
import Derived.KernelRfl
namespace Go.Proofs.Qxb6608513aMods
/- THE CELL 'sum', in the pinned program and in every row, IS THE sha256 OF THE DUMP (.gsa) THAT Qxb6608513aModsProg.lean LOADS. Nothing in Lean hashes anything: it is a label: what it is worth is what the hold of that sum in a sandbox is worth. -/
noncomputable def Trym.pinned : Pinned := { name := "qxb6608513amods", sum := "afa40d5cad97fd22f087f3a074bdd92b5b5efc7786827b9bc570260b1f064e49", checked := Trym.checked }
namespace Rows
def none {H : Type} : Left H := { results := [], args := [] }

/-- 'zzlaws_internal_clientlimit_b1.FnTightestByScanIsFewestRemainingThenLatestNext': WHATEVER THE INPUT: true; the input reads as it did. -/
def fnTightestByScanIsFewestRemainingThenLatestNextSpec : ChangeSpec := { name := "fnTightestByScanIsFewestRemainingThenLatestNext", fn := fun _ => fun
  | [d1, d2, d3, d4, d5] => { results := [.lit (.bool true)], args := [d1, d2, d3, d4, d5] }
  | _ => none }
def fnTightestByScanIsFewestRemainingThenLatestNextRow : OpenClaim := { program := "qxb6608513amods", sum := "afa40d5cad97fd22f087f3a074bdd92b5b5efc7786827b9bc570260b1f064e49", func := "example.com/limen/limen/zzlaws_internal_clientlimit_b1.FnTightestByScanIsFewestRemainingThenLatestNext", spec := "fnTightestByScanIsFewestRemainingThenLatestNext", make := .lifted ["publicsums"], apart := false }
def FnTightestByScanIsFewestRemainingThenLatestNextSaid : Prop := fnTightestByScanIsFewestRemainingThenLatestNextRow.holds Trym.pinned (OpenSpec.ofChange fnTightestByScanIsFewestRemainingThenLatestNextSpec)

/-- ITS FALSE NEIGHBOUR: 'it returns false'. Refute it at one input. -/
def fnTightestByScanIsFewestRemainingThenLatestNextWrong : ChangeSpec := { name := "fnTightestByScanIsFewestRemainingThenLatestNext", fn := fun _ => fun
  | [d1, d2, d3, d4, d5] => { results := [.lit (.bool false)], args := [d1, d2, d3, d4, d5] }
  | _ => none }
def FnTightestByScanIsFewestRemainingThenLatestNextWrongFalsely : Prop := fnTightestByScanIsFewestRemainingThenLatestNextRow.holds Trym.pinned (OpenSpec.ofChange fnTightestByScanIsFewestRemainingThenLatestNextWrong)

/-- 'zzlaws_internal_clientlimit_b1.FnTighterIsAStrictOrderOnRemainingAndNextAlone': WHATEVER THE INPUT: true; the input reads as it did. -/
def fnTighterIsAStrictOrderOnRemainingAndNextAloneSpec : ChangeSpec := { name := "fnTighterIsAStrictOrderOnRemainingAndNextAlone", fn := fun _ => fun
  | [d1, d2, d3, d4, d5, d6, d7, d8, d9, d10] => { results := [.lit (.bool true)], args := [d1, d2, d3, d4, d5, d6, d7, d8, d9, d10] }
  | _ => none }
def fnTighterIsAStrictOrderOnRemainingAndNextAloneRow : OpenClaim := { program := "qxb6608513amods", sum := "afa40d5cad97fd22f087f3a074bdd92b5b5efc7786827b9bc570260b1f064e49", func := "example.com/limen/limen/zzlaws_internal_clientlimit_b1.FnTighterIsAStrictOrderOnRemainingAndNextAlone", spec := "fnTighterIsAStrictOrderOnRemainingAndNextAlone", make := .lifted ["publicsums"], apart := false }
def FnTighterIsAStrictOrderOnRemainingAndNextAloneSaid : Prop := fnTighterIsAStrictOrderOnRemainingAndNextAloneRow.holds Trym.pinned (OpenSpec.ofChange fnTighterIsAStrictOrderOnRemainingAndNextAloneSpec)

/-- ITS FALSE NEIGHBOUR: 'it returns false'. Refute it at one input. -/
def fnTighterIsAStrictOrderOnRemainingAndNextAloneWrong : ChangeSpec := { name := "fnTighterIsAStrictOrderOnRemainingAndNextAlone", fn := fun _ => fun
  | [d1, d2, d3, d4, d5, d6, d7, d8, d9, d10] => { results := [.lit (.bool false)], args := [d1, d2, d3, d4, d5, d6, d7, d8, d9, d10] }
  | _ => none }
def FnTighterIsAStrictOrderOnRemainingAndNextAloneWrongFalsely : Prop := fnTighterIsAStrictOrderOnRemainingAndNextAloneRow.holds Trym.pinned (OpenSpec.ofChange fnTighterIsAStrictOrderOnRemainingAndNextAloneWrong)

end Rows
end Go.Proofs.Qxb6608513aMods
