/-
  No cell of these rows narrows 'for every input' (looked for: loops, veiled, ifaces, maps, wideKeys, modest, calm, conditions, laid).
  DERIVED. THE GIVEN ROWS OF THIS SEAT. 2 by the template 'for every input the law returns true; each argument reads behind the call as it read before'; 0 by the template 'total and deterministic' (their statements: Qxb6613346aModsTotals.lean).
  GIVEN WITH THE SEED: the statements are not yours to turn. If you find one false, say at which input.
  Laid BY PROGRAM, IN A SANDBOX (cutbox-rows.mjs): the forced cells as the released guide's own fill.sh prints them over the translation c35b87a96317fc45… (all of the seat's roots in one cut). By AI agents, Wed Nov 11 2026. No macro, syntax, notation, axiom, sorry.
-/
import Derived.Test.Qxb6613346aModsChecked
import GoSem.Claim
import GoSem.ClaimJoined
import GoSem.ClaimMapViews
import Derived.JoinedTies
import Derived.KernelRfl
namespace Go.Proofs.Qxb6613346aMods
/- THE CELL 'sum', in the pinned program and in every row, IS THE sha256 OF THE DUMP (.gsa) THAT Qxb6613346aModsProg.lean LOADS. Nothing in Lean hashes anything: it is a label: what it is worth is what the hold of that sum in a sandbox is worth. -/
noncomputable def Trym.pinned : Pinned := { name := "qxb6613346amods", sum := "c35b87a96317fc45c69c65d395af28705a68e8c1647a024d5e5eda14efb24ee3", checked := Trym.checked }
namespace Rows
def none {H : Type} : Left H := { results := [], args := [] }

/-- 'zzlaws_pkg_scheduler_b1.FnObjectOpenRepeatedAppendsBraces': WHATEVER THE INPUT: true; the input reads as it did. -/
def fnObjectOpenRepeatedAppendsBracesSpec : ChangeSpec := { name := "fnObjectOpenRepeatedAppendsBraces", fn := fun _ => fun
  | [d1, d2, d3] => { results := [.lit (.bool true)], args := [d1, d2, d3] }
  | _ => none }
def fnObjectOpenRepeatedAppendsBracesRow : OpenClaim := { program := "qxb6613346amods", sum := "c35b87a96317fc45c69c65d395af28705a68e8c1647a024d5e5eda14efb24ee3", func := "example.com/tickwright/tickwright/zzlaws_pkg_scheduler_b1.FnObjectOpenRepeatedAppendsBraces", spec := "fnObjectOpenRepeatedAppendsBraces", make := .lifted ["publicsums"], apart := false }
def FnObjectOpenRepeatedAppendsBracesSaid : Prop := fnObjectOpenRepeatedAppendsBracesRow.holds Trym.pinned (OpenSpec.ofChange fnObjectOpenRepeatedAppendsBracesSpec)

/-- ITS FALSE NEIGHBOUR: 'it returns false'. Refute it at one input. -/
def fnObjectOpenRepeatedAppendsBracesWrong : ChangeSpec := { name := "fnObjectOpenRepeatedAppendsBraces", fn := fun _ => fun
  | [d1, d2, d3] => { results := [.lit (.bool false)], args := [d1, d2, d3] }
  | _ => none }
def FnObjectOpenRepeatedAppendsBracesWrongFalsely : Prop := fnObjectOpenRepeatedAppendsBracesRow.holds Trym.pinned (OpenSpec.ofChange fnObjectOpenRepeatedAppendsBracesWrong)

/-- 'zzlaws_pkg_scheduler_b1.FnObjectOpenCommutesWithPrefix': WHATEVER THE INPUT: true; the input reads as it did. -/
def fnObjectOpenCommutesWithPrefixSpec : ChangeSpec := { name := "fnObjectOpenCommutesWithPrefix", fn := fun _ => fun
  | [d1, d2, d3, d4] => { results := [.lit (.bool true)], args := [d1, d2, d3, d4] }
  | _ => none }
def fnObjectOpenCommutesWithPrefixRow : OpenClaim := { program := "qxb6613346amods", sum := "c35b87a96317fc45c69c65d395af28705a68e8c1647a024d5e5eda14efb24ee3", func := "example.com/tickwright/tickwright/zzlaws_pkg_scheduler_b1.FnObjectOpenCommutesWithPrefix", spec := "fnObjectOpenCommutesWithPrefix", make := .lifted ["publicsums"], apart := false }
def FnObjectOpenCommutesWithPrefixSaid : Prop := fnObjectOpenCommutesWithPrefixRow.holds Trym.pinned (OpenSpec.ofChange fnObjectOpenCommutesWithPrefixSpec)

/-- ITS FALSE NEIGHBOUR: 'it returns false'. Refute it at one input. -/
def fnObjectOpenCommutesWithPrefixWrong : ChangeSpec := { name := "fnObjectOpenCommutesWithPrefix", fn := fun _ => fun
  | [d1, d2, d3, d4] => { results := [.lit (.bool false)], args := [d1, d2, d3, d4] }
  | _ => none }
def FnObjectOpenCommutesWithPrefixWrongFalsely : Prop := fnObjectOpenCommutesWithPrefixRow.holds Trym.pinned (OpenSpec.ofChange fnObjectOpenCommutesWithPrefixWrong)

end Rows
end Go.Proofs.Qxb6613346aMods
