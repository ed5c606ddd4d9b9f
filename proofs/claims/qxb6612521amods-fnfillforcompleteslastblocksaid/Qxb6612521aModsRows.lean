/-
  No cell of these rows narrows 'for every input' (looked for: loops, veiled, ifaces, maps, wideKeys, modest, calm, conditions, laid).
  DERIVED. THE GIVEN ROWS OF THIS SEAT. 4 by the template 'for every input the law returns true; each argument reads behind the call as it read before'; 0 by the template 'total and deterministic' (their statements: Qxb6612521aModsTotals.lean).
  GIVEN WITH THE SEED: the statements are not yours to turn. If you find one false, say at which input.
  Laid BY PROGRAM, IN A SANDBOX (cutbox-rows.mjs): the forced cells as the released guide's own fill.sh prints them over the translation c112b9c48cf528c4… (all of the seat's roots in one cut). By AI agents, Wed Nov 11 2026. No macro, syntax, notation, axiom, sorry.
-/
import Derived.Test.Qxb6612521aModsChecked
import GoSem.Claim
import GoSem.ClaimJoined
import GoSem.ClaimMapViews
import Derived.JoinedTies
import Derived.KernelRfl
namespace Go.Proofs.Qxb6612521aMods
/- THE CELL 'sum', in the pinned program and in every row, IS THE sha256 OF THE DUMP (.gsa) THAT Qxb6612521aModsProg.lean LOADS. Nothing in Lean hashes anything: it is a label: what it is worth is what the hold of that sum in a sandbox is worth. -/
noncomputable def Trym.pinned : Pinned := { name := "qxb6612521amods", sum := "c112b9c48cf528c439f39307f89c5520d9ebd7da4a52fbb5b2afe7c029367db9", checked := Trym.checked }
namespace Rows
def none {H : Type} : Left H := { results := [], args := [] }

/-- 'zzlaws_internal_store_b1.FnFillForCompletesLastBlock': WHATEVER THE INPUT: true; the input reads as it did. -/
def fnFillForCompletesLastBlockSpec : ChangeSpec := { name := "fnFillForCompletesLastBlock", fn := fun _ => fun
  | [d] => { results := [.lit (.bool true)], args := [d] }
  | _ => none }
def fnFillForCompletesLastBlockRow : OpenClaim := { program := "qxb6612521amods", sum := "c112b9c48cf528c439f39307f89c5520d9ebd7da4a52fbb5b2afe7c029367db9", func := "example.com/loamkeep/loamkeep/zzlaws_internal_store_b1.FnFillForCompletesLastBlock", spec := "fnFillForCompletesLastBlock", make := .lifted ["publicsums"], apart := false }
def FnFillForCompletesLastBlockSaid : Prop := fnFillForCompletesLastBlockRow.holds Trym.pinned (OpenSpec.ofChange fnFillForCompletesLastBlockSpec)

/-- ITS FALSE NEIGHBOUR: 'it returns false'. Refute it at one input. -/
def fnFillForCompletesLastBlockWrong : ChangeSpec := { name := "fnFillForCompletesLastBlock", fn := fun _ => fun
  | [d] => { results := [.lit (.bool false)], args := [d] }
  | _ => none }
def FnFillForCompletesLastBlockWrongFalsely : Prop := fnFillForCompletesLastBlockRow.holds Trym.pinned (OpenSpec.ofChange fnFillForCompletesLastBlockWrong)

/-- 'zzlaws_internal_store_b1.FnFillForTarOffsets': WHATEVER THE INPUT: true; the input reads as it did. -/
def fnFillForTarOffsetsSpec : ChangeSpec := { name := "fnFillForTarOffsets", fn := fun _ => fun
  | [d] => { results := [.lit (.bool true)], args := [d] }
  | _ => none }
def fnFillForTarOffsetsRow : OpenClaim := { program := "qxb6612521amods", sum := "c112b9c48cf528c439f39307f89c5520d9ebd7da4a52fbb5b2afe7c029367db9", func := "example.com/loamkeep/loamkeep/zzlaws_internal_store_b1.FnFillForTarOffsets", spec := "fnFillForTarOffsets", make := .lifted ["publicsums"], apart := false }
def FnFillForTarOffsetsSaid : Prop := fnFillForTarOffsetsRow.holds Trym.pinned (OpenSpec.ofChange fnFillForTarOffsetsSpec)

/-- ITS FALSE NEIGHBOUR: 'it returns false'. Refute it at one input. -/
def fnFillForTarOffsetsWrong : ChangeSpec := { name := "fnFillForTarOffsets", fn := fun _ => fun
  | [d] => { results := [.lit (.bool false)], args := [d] }
  | _ => none }
def FnFillForTarOffsetsWrongFalsely : Prop := fnFillForTarOffsetsRow.holds Trym.pinned (OpenSpec.ofChange fnFillForTarOffsetsWrong)

/-- 'zzlaws_internal_store_b1.FnToMergeMatchesModel': WHATEVER THE INPUT: true; the input reads as it did. -/
def fnToMergeMatchesModelSpec : ChangeSpec := { name := "fnToMergeMatchesModel", fn := fun _ => fun
  | [d] => { results := [.lit (.bool true)], args := [d] }
  | _ => none }
def fnToMergeMatchesModelRow : OpenClaim := { program := "qxb6612521amods", sum := "c112b9c48cf528c439f39307f89c5520d9ebd7da4a52fbb5b2afe7c029367db9", func := "example.com/loamkeep/loamkeep/zzlaws_internal_store_b1.FnToMergeMatchesModel", spec := "fnToMergeMatchesModel", inPlace := ["internal/bytealg.abigen_runtime_cmpstring"], unfollowed := true, recurses := true, make := .lifted ["publicsums"], apart := false }
def FnToMergeMatchesModelSaid : Prop := fnToMergeMatchesModelRow.holds Trym.pinned (OpenSpec.ofChange fnToMergeMatchesModelSpec)

/-- ITS FALSE NEIGHBOUR: 'it returns false'. Refute it at one input. -/
def fnToMergeMatchesModelWrong : ChangeSpec := { name := "fnToMergeMatchesModel", fn := fun _ => fun
  | [d] => { results := [.lit (.bool false)], args := [d] }
  | _ => none }
def FnToMergeMatchesModelWrongFalsely : Prop := fnToMergeMatchesModelRow.holds Trym.pinned (OpenSpec.ofChange fnToMergeMatchesModelWrong)

/-- 'zzlaws_internal_store_b1.FnToMergeLeavesNothingToMerge': WHATEVER THE INPUT: true; the input reads as it did. -/
def fnToMergeLeavesNothingToMergeSpec : ChangeSpec := { name := "fnToMergeLeavesNothingToMerge", fn := fun _ => fun
  | [d] => { results := [.lit (.bool true)], args := [d] }
  | _ => none }
def fnToMergeLeavesNothingToMergeRow : OpenClaim := { program := "qxb6612521amods", sum := "c112b9c48cf528c439f39307f89c5520d9ebd7da4a52fbb5b2afe7c029367db9", func := "example.com/loamkeep/loamkeep/zzlaws_internal_store_b1.FnToMergeLeavesNothingToMerge", spec := "fnToMergeLeavesNothingToMerge", inPlace := ["internal/bytealg.abigen_runtime_cmpstring"], unfollowed := true, recurses := true, make := .lifted ["publicsums"], apart := false }
def FnToMergeLeavesNothingToMergeSaid : Prop := fnToMergeLeavesNothingToMergeRow.holds Trym.pinned (OpenSpec.ofChange fnToMergeLeavesNothingToMergeSpec)

/-- ITS FALSE NEIGHBOUR: 'it returns false'. Refute it at one input. -/
def fnToMergeLeavesNothingToMergeWrong : ChangeSpec := { name := "fnToMergeLeavesNothingToMerge", fn := fun _ => fun
  | [d] => { results := [.lit (.bool false)], args := [d] }
  | _ => none }
def FnToMergeLeavesNothingToMergeWrongFalsely : Prop := fnToMergeLeavesNothingToMergeRow.holds Trym.pinned (OpenSpec.ofChange fnToMergeLeavesNothingToMergeWrong)

end Rows
end Go.Proofs.Qxb6612521aMods
