/-
  NARROWER THAN 'FOR EVERY INPUT', by the rows' own cells (each row's printed sentence says how): FnInUnionCutAnywhereAndMemberFound: loops.
  DERIVED. THE GIVEN ROWS OF THIS SEAT. 3 by the template 'for every input the law returns true; each argument reads behind the call as it read before'; 0 by the template 'total and deterministic' (their statements: Qxb6613075aModsTotals.lean).
  GIVEN WITH THE SEED: the statements are not yours to turn. If you find one false, say at which input.
  Laid BY PROGRAM, IN A SANDBOX (cutbox-rows.mjs): the forced cells as the released guide's own fill.sh prints them over the translation 16085b128065b76f… (all of the seat's roots in one cut). By AI agents, Wed Nov 11 2026. No macro, syntax, notation, axiom, sorry.
-/
import Derived.Test.Qxb6613075aModsChecked
import GoSem.Claim
import GoSem.ClaimJoined
import GoSem.ClaimMapViews
import Derived.JoinedTies
import Derived.KernelRfl
namespace Go.Proofs.Qxb6613075aMods
/- THE CELL 'sum', in the pinned program and in every row, IS THE sha256 OF THE DUMP (.gsa) THAT Qxb6613075aModsProg.lean LOADS. Nothing in Lean hashes anything: it is a label: what it is worth is what the hold of that sum in a sandbox is worth. -/
noncomputable def Trym.pinned : Pinned := { name := "qxb6613075amods", sum := "16085b128065b76fc823cc0107add32a75f16ce15bddd22d54f58a54182dc542", checked := Trym.checked }
namespace Rows
def none {H : Type} : Left H := { results := [], args := [] }

/-- 'zzlaws_internal_validators_b1.FnAtomicCutKeysAnywhere': WHATEVER THE INPUT: true; the input reads as it did. -/
def fnAtomicCutKeysAnywhereSpec : ChangeSpec := { name := "fnAtomicCutKeysAnywhere", fn := fun _ => fun
  | [d1, d2, d3] => { results := [.lit (.bool true)], args := [d1, d2, d3] }
  | _ => none }
def fnAtomicCutKeysAnywhereRow : OpenClaim := { program := "qxb6613075amods", sum := "16085b128065b76fc823cc0107add32a75f16ce15bddd22d54f58a54182dc542", func := "example.com/tagwright/tagwright/zzlaws_internal_validators_b1.FnAtomicCutKeysAnywhere", spec := "fnAtomicCutKeysAnywhere", make := .lifted ["publicsums"], apart := false }
def FnAtomicCutKeysAnywhereSaid : Prop := fnAtomicCutKeysAnywhereRow.holds Trym.pinned (OpenSpec.ofChange fnAtomicCutKeysAnywhereSpec)

/-- ITS FALSE NEIGHBOUR: 'it returns false'. Refute it at one input. -/
def fnAtomicCutKeysAnywhereWrong : ChangeSpec := { name := "fnAtomicCutKeysAnywhere", fn := fun _ => fun
  | [d1, d2, d3] => { results := [.lit (.bool false)], args := [d1, d2, d3] }
  | _ => none }
def FnAtomicCutKeysAnywhereWrongFalsely : Prop := fnAtomicCutKeysAnywhereRow.holds Trym.pinned (OpenSpec.ofChange fnAtomicCutKeysAnywhereWrong)

/-- 'zzlaws_internal_validators_b1.FnInUnionCutAnywhereAndMemberFound': WHATEVER THE INPUT: true; the input reads as it did. -/
def fnInUnionCutAnywhereAndMemberFoundSpec : ChangeSpec := { name := "fnInUnionCutAnywhereAndMemberFound", fn := fun _ => fun
  | [d1, d2, d3] => { results := [.lit (.bool true)], args := [d1, d2, d3] }
  | _ => none }
def fnInUnionCutAnywhereAndMemberFoundRow : OpenClaim := { program := "qxb6613075amods", sum := "16085b128065b76fc823cc0107add32a75f16ce15bddd22d54f58a54182dc542", func := "example.com/tagwright/tagwright/zzlaws_internal_validators_b1.FnInUnionCutAnywhereAndMemberFound", spec := "fnInUnionCutAnywhereAndMemberFound", unfollowed := true, recurses := true, loops := true, make := .lifted ["publicsums"], apart := false }
def FnInUnionCutAnywhereAndMemberFoundSaid : Prop := fnInUnionCutAnywhereAndMemberFoundRow.holds Trym.pinned (OpenSpec.ofChange fnInUnionCutAnywhereAndMemberFoundSpec)

/-- ITS FALSE NEIGHBOUR: 'it returns false'. Refute it at one input. -/
def fnInUnionCutAnywhereAndMemberFoundWrong : ChangeSpec := { name := "fnInUnionCutAnywhereAndMemberFound", fn := fun _ => fun
  | [d1, d2, d3] => { results := [.lit (.bool false)], args := [d1, d2, d3] }
  | _ => none }
def FnInUnionCutAnywhereAndMemberFoundWrongFalsely : Prop := fnInUnionCutAnywhereAndMemberFoundRow.holds Trym.pinned (OpenSpec.ofChange fnInUnionCutAnywhereAndMemberFoundWrong)

/-- 'zzlaws_internal_validators_b1.FnValuePeelsOnePointerPerCall': WHATEVER THE INPUT: true; the input reads as it did. -/
def fnValuePeelsOnePointerPerCallSpec : ChangeSpec := { name := "fnValuePeelsOnePointerPerCall", fn := fun _ => fun
  | [d1, d2] => { results := [.lit (.bool true)], args := [d1, d2] }
  | _ => none }
def fnValuePeelsOnePointerPerCallRow : OpenClaim := { program := "qxb6613075amods", sum := "16085b128065b76fc823cc0107add32a75f16ce15bddd22d54f58a54182dc542", func := "example.com/tagwright/tagwright/zzlaws_internal_validators_b1.FnValuePeelsOnePointerPerCall", spec := "fnValuePeelsOnePointerPerCall", make := .lifted ["publicsums"], apart := false }
def FnValuePeelsOnePointerPerCallSaid : Prop := fnValuePeelsOnePointerPerCallRow.holds Trym.pinned (OpenSpec.ofChange fnValuePeelsOnePointerPerCallSpec)

/-- ITS FALSE NEIGHBOUR: 'it returns false'. Refute it at one input. -/
def fnValuePeelsOnePointerPerCallWrong : ChangeSpec := { name := "fnValuePeelsOnePointerPerCall", fn := fun _ => fun
  | [d1, d2] => { results := [.lit (.bool false)], args := [d1, d2] }
  | _ => none }
def FnValuePeelsOnePointerPerCallWrongFalsely : Prop := fnValuePeelsOnePointerPerCallRow.holds Trym.pinned (OpenSpec.ofChange fnValuePeelsOnePointerPerCallWrong)

end Rows
end Go.Proofs.Qxb6613075aMods
