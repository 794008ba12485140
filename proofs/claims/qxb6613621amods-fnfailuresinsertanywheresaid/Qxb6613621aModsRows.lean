/-
  No cell of these rows narrows 'for every input' (looked for: loops, veiled, ifaces, maps, wideKeys, modest, calm, conditions, laid).
  DERIVED. THE GIVEN ROWS OF THIS SEAT. 2 by the template 'for every input the law returns true; each argument reads behind the call as it read before'; 0 by the template 'total and deterministic' (their statements: Qxb6613621aModsTotals.lean).
  GIVEN WITH THE SEED: the statements are not yours to turn. If you find one false, say at which input.
  Laid BY PROGRAM, IN A SANDBOX (cutbox-rows.mjs): the forced cells as the released guide's own fill.sh prints them over the translation 055854728fde673a… (all of the seat's roots in one cut). By AI agents, Wed Nov 11 2026. No macro, syntax, notation, axiom, sorry.
-/
import Derived.Test.Qxb6613621aModsChecked
import GoSem.Claim
import GoSem.ClaimJoined
import GoSem.ClaimMapViews
import Derived.JoinedTies
import Derived.KernelRfl
namespace Go.Proofs.Qxb6613621aMods
/- THE CELL 'sum', in the pinned program and in every row, IS THE sha256 OF THE DUMP (.gsa) THAT Qxb6613621aModsProg.lean LOADS. Nothing in Lean hashes anything: it is a label: what it is worth is what the hold of that sum in a sandbox is worth. -/
noncomputable def Trym.pinned : Pinned := { name := "qxb6613621amods", sum := "055854728fde673afd3b325ee7c3fc7854bfc31439c6afebbf1f9bbba7e5b05f", checked := Trym.checked }
namespace Rows
def none {H : Type} : Left H := { results := [], args := [] }

/-- 'zzlaws_internal_conformance_b1.FnFailuresSplitAtAnyCut': WHATEVER THE INPUT: true; the input reads as it did. -/
def fnFailuresSplitAtAnyCutSpec : ChangeSpec := { name := "fnFailuresSplitAtAnyCut", fn := fun _ => fun
  | [d1, d2] => { results := [.lit (.bool true)], args := [d1, d2] }
  | _ => none }
def fnFailuresSplitAtAnyCutRow : OpenClaim := { program := "qxb6613621amods", sum := "055854728fde673afd3b325ee7c3fc7854bfc31439c6afebbf1f9bbba7e5b05f", func := "example.com/admitd/admitd/zzlaws_internal_conformance_b1.FnFailuresSplitAtAnyCut", spec := "fnFailuresSplitAtAnyCut", make := .lifted ["publicsums"], apart := false }
def FnFailuresSplitAtAnyCutSaid : Prop := fnFailuresSplitAtAnyCutRow.holds Trym.pinned (OpenSpec.ofChange fnFailuresSplitAtAnyCutSpec)

/-- ITS FALSE NEIGHBOUR: 'it returns false'. Refute it at one input. -/
def fnFailuresSplitAtAnyCutWrong : ChangeSpec := { name := "fnFailuresSplitAtAnyCut", fn := fun _ => fun
  | [d1, d2] => { results := [.lit (.bool false)], args := [d1, d2] }
  | _ => none }
def FnFailuresSplitAtAnyCutWrongFalsely : Prop := fnFailuresSplitAtAnyCutRow.holds Trym.pinned (OpenSpec.ofChange fnFailuresSplitAtAnyCutWrong)

/-- 'zzlaws_internal_conformance_b1.FnFailuresInsertAnywhere': WHATEVER THE INPUT: true; the input reads as it did. -/
def fnFailuresInsertAnywhereSpec : ChangeSpec := { name := "fnFailuresInsertAnywhere", fn := fun _ => fun
  | [d1, d2, d3] => { results := [.lit (.bool true)], args := [d1, d2, d3] }
  | _ => none }
def fnFailuresInsertAnywhereRow : OpenClaim := { program := "qxb6613621amods", sum := "055854728fde673afd3b325ee7c3fc7854bfc31439c6afebbf1f9bbba7e5b05f", func := "example.com/admitd/admitd/zzlaws_internal_conformance_b1.FnFailuresInsertAnywhere", spec := "fnFailuresInsertAnywhere", make := .lifted ["publicsums"], apart := false }
def FnFailuresInsertAnywhereSaid : Prop := fnFailuresInsertAnywhereRow.holds Trym.pinned (OpenSpec.ofChange fnFailuresInsertAnywhereSpec)

/-- ITS FALSE NEIGHBOUR: 'it returns false'. Refute it at one input. -/
def fnFailuresInsertAnywhereWrong : ChangeSpec := { name := "fnFailuresInsertAnywhere", fn := fun _ => fun
  | [d1, d2, d3] => { results := [.lit (.bool false)], args := [d1, d2, d3] }
  | _ => none }
def FnFailuresInsertAnywhereWrongFalsely : Prop := fnFailuresInsertAnywhereRow.holds Trym.pinned (OpenSpec.ofChange fnFailuresInsertAnywhereWrong)

end Rows
end Go.Proofs.Qxb6613621aMods
