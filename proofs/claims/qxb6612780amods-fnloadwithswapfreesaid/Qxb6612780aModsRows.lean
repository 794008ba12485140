/-
  No cell of these rows narrows 'for every input' (looked for: loops, veiled, ifaces, maps, wideKeys, modest, calm, conditions, laid).
  DERIVED. THE GIVEN ROWS OF THIS SEAT. 4 by the template 'for every input the law returns true; each argument reads behind the call as it read before'; 0 by the template 'total and deterministic' (their statements: Qxb6612780aModsTotals.lean).
  GIVEN WITH THE SEED: the statements are not yours to turn. If you find one false, say at which input.
  Laid BY PROGRAM, IN A SANDBOX (cutbox-rows.mjs): the forced cells as the released guide's own fill.sh prints them over the translation 0adca2ba9c24cb50… (all of the seat's roots in one cut). By AI agents, Wed Nov 11 2026. No macro, syntax, notation, axiom, sorry.
-/
import Derived.Test.Qxb6612780aModsChecked
import GoSem.Claim
import GoSem.ClaimJoined
import GoSem.ClaimMapViews
import Derived.JoinedTies
import Derived.KernelRfl
namespace Go.Proofs.Qxb6612780aMods
/- THE CELL 'sum', in the pinned program and in every row, IS THE sha256 OF THE DUMP (.gsa) THAT Qxb6612780aModsProg.lean LOADS. Nothing in Lean hashes anything: it is a label: what it is worth is what the hold of that sum in a sandbox is worth. -/
noncomputable def Trym.pinned : Pinned := { name := "qxb6612780amods", sum := "0adca2ba9c24cb506c69583bb6fb3b0ac90a0719f4f25c37af5f920c241689b5", checked := Trym.checked }
namespace Rows
def none {H : Type} : Left H := { results := [], args := [] }

/-- 'zzlaws_internal_store_b1.FnLoadWithFoldIsCountAndSum': WHATEVER THE INPUT: true; the input reads as it did. -/
def fnLoadWithFoldIsCountAndSumSpec : ChangeSpec := { name := "fnLoadWithFoldIsCountAndSum", fn := fun _ => fun
  | [d1, d2, d3] => { results := [.lit (.bool true)], args := [d1, d2, d3] }
  | _ => none }
def fnLoadWithFoldIsCountAndSumRow : OpenClaim := { program := "qxb6612780amods", sum := "0adca2ba9c24cb506c69583bb6fb3b0ac90a0719f4f25c37af5f920c241689b5", func := "example.com/tocsin/tocsin/zzlaws_internal_store_b1.FnLoadWithFoldIsCountAndSum", spec := "fnLoadWithFoldIsCountAndSum", make := .lifted ["publicsums"], apart := false }
def FnLoadWithFoldIsCountAndSumSaid : Prop := fnLoadWithFoldIsCountAndSumRow.holds Trym.pinned (OpenSpec.ofChange fnLoadWithFoldIsCountAndSumSpec)

/-- ITS FALSE NEIGHBOUR: 'it returns false'. Refute it at one input. -/
def fnLoadWithFoldIsCountAndSumWrong : ChangeSpec := { name := "fnLoadWithFoldIsCountAndSum", fn := fun _ => fun
  | [d1, d2, d3] => { results := [.lit (.bool false)], args := [d1, d2, d3] }
  | _ => none }
def FnLoadWithFoldIsCountAndSumWrongFalsely : Prop := fnLoadWithFoldIsCountAndSumRow.holds Trym.pinned (OpenSpec.ofChange fnLoadWithFoldIsCountAndSumWrong)

/-- 'zzlaws_internal_store_b1.FnLoadWithSwapFree': WHATEVER THE INPUT: true; the input reads as it did. -/
def fnLoadWithSwapFreeSpec : ChangeSpec := { name := "fnLoadWithSwapFree", fn := fun _ => fun
  | [d1, d2, d3, d4, d5] => { results := [.lit (.bool true)], args := [d1, d2, d3, d4, d5] }
  | _ => none }
def fnLoadWithSwapFreeRow : OpenClaim := { program := "qxb6612780amods", sum := "0adca2ba9c24cb506c69583bb6fb3b0ac90a0719f4f25c37af5f920c241689b5", func := "example.com/tocsin/tocsin/zzlaws_internal_store_b1.FnLoadWithSwapFree", spec := "fnLoadWithSwapFree", make := .lifted ["publicsums"], apart := false }
def FnLoadWithSwapFreeSaid : Prop := fnLoadWithSwapFreeRow.holds Trym.pinned (OpenSpec.ofChange fnLoadWithSwapFreeSpec)

/-- ITS FALSE NEIGHBOUR: 'it returns false'. Refute it at one input. -/
def fnLoadWithSwapFreeWrong : ChangeSpec := { name := "fnLoadWithSwapFree", fn := fun _ => fun
  | [d1, d2, d3, d4, d5] => { results := [.lit (.bool false)], args := [d1, d2, d3, d4, d5] }
  | _ => none }
def FnLoadWithSwapFreeWrongFalsely : Prop := fnLoadWithSwapFreeRow.holds Trym.pinned (OpenSpec.ofChange fnLoadWithSwapFreeWrong)

/-- 'zzlaws_internal_store_b1.FnSizeCountsDocumentedBytes': WHATEVER THE INPUT: true; the input reads as it did. -/
def fnSizeCountsDocumentedBytesSpec : ChangeSpec := { name := "fnSizeCountsDocumentedBytes", fn := fun _ => fun
  | [d1, d2, d3, d4, d5, d6, d7, d8, d9, d10, d11, d12] => { results := [.lit (.bool true)], args := [d1, d2, d3, d4, d5, d6, d7, d8, d9, d10, d11, d12] }
  | _ => none }
def fnSizeCountsDocumentedBytesRow : OpenClaim := { program := "qxb6612780amods", sum := "0adca2ba9c24cb506c69583bb6fb3b0ac90a0719f4f25c37af5f920c241689b5", func := "example.com/tocsin/tocsin/zzlaws_internal_store_b1.FnSizeCountsDocumentedBytes", spec := "fnSizeCountsDocumentedBytes", make := .lifted ["publicsums"], apart := false }
def FnSizeCountsDocumentedBytesSaid : Prop := fnSizeCountsDocumentedBytesRow.holds Trym.pinned (OpenSpec.ofChange fnSizeCountsDocumentedBytesSpec)

/-- ITS FALSE NEIGHBOUR: 'it returns false'. Refute it at one input. -/
def fnSizeCountsDocumentedBytesWrong : ChangeSpec := { name := "fnSizeCountsDocumentedBytes", fn := fun _ => fun
  | [d1, d2, d3, d4, d5, d6, d7, d8, d9, d10, d11, d12] => { results := [.lit (.bool false)], args := [d1, d2, d3, d4, d5, d6, d7, d8, d9, d10, d11, d12] }
  | _ => none }
def FnSizeCountsDocumentedBytesWrongFalsely : Prop := fnSizeCountsDocumentedBytesRow.holds Trym.pinned (OpenSpec.ofChange fnSizeCountsDocumentedBytesWrong)

/-- 'zzlaws_internal_store_b1.FnSizeAddsOverParts': WHATEVER THE INPUT: true; the input reads as it did. -/
def fnSizeAddsOverPartsSpec : ChangeSpec := { name := "fnSizeAddsOverParts", fn := fun _ => fun
  | [d1, d2, d3, d4, d5, d6, d7, d8, d9, d10, d11, d12] => { results := [.lit (.bool true)], args := [d1, d2, d3, d4, d5, d6, d7, d8, d9, d10, d11, d12] }
  | _ => none }
def fnSizeAddsOverPartsRow : OpenClaim := { program := "qxb6612780amods", sum := "0adca2ba9c24cb506c69583bb6fb3b0ac90a0719f4f25c37af5f920c241689b5", func := "example.com/tocsin/tocsin/zzlaws_internal_store_b1.FnSizeAddsOverParts", spec := "fnSizeAddsOverParts", make := .lifted ["publicsums"], apart := false }
def FnSizeAddsOverPartsSaid : Prop := fnSizeAddsOverPartsRow.holds Trym.pinned (OpenSpec.ofChange fnSizeAddsOverPartsSpec)

/-- ITS FALSE NEIGHBOUR: 'it returns false'. Refute it at one input. -/
def fnSizeAddsOverPartsWrong : ChangeSpec := { name := "fnSizeAddsOverParts", fn := fun _ => fun
  | [d1, d2, d3, d4, d5, d6, d7, d8, d9, d10, d11, d12] => { results := [.lit (.bool false)], args := [d1, d2, d3, d4, d5, d6, d7, d8, d9, d10, d11, d12] }
  | _ => none }
def FnSizeAddsOverPartsWrongFalsely : Prop := fnSizeAddsOverPartsRow.holds Trym.pinned (OpenSpec.ofChange fnSizeAddsOverPartsWrong)

end Rows
end Go.Proofs.Qxb6612780aMods
