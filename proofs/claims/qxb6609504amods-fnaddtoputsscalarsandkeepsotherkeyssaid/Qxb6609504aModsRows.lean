/-
  No cell of these rows narrows 'for every input' (looked for: loops, veiled, ifaces, maps, wideKeys, modest, calm, conditions, laid).
  DERIVED. THE GIVEN ROWS OF THIS SEAT. 4 by the template 'for every input the law returns true; each argument reads behind the call as it read before'; 0 by the template 'total and deterministic' (their statements: Qxb6609504aModsTotals.lean).
  GIVEN WITH THE SEED: the statements are not yours to turn. If you find one false, say at which input.
  Laid BY PROGRAM, IN A SANDBOX (cutbox-rows.mjs): the forced cells as the released guide's own fill.sh prints them over the translation a92abc90f15c63bc… (all of the seat's roots in one cut). By AI agents, Wed Nov 11 2026. No macro, syntax, notation, axiom, sorry.
-/
import Derived.Test.Qxb6609504aModsChecked
import GoSem.Claim
import GoSem.ClaimJoined
import GoSem.ClaimMapViews
import Derived.JoinedTies
import Derived.KernelRfl
namespace Go.Proofs.Qxb6609504aMods
/- THE CELL 'sum', in the pinned program and in every row, IS THE sha256 OF THE DUMP (.gsa) THAT Qxb6609504aModsProg.lean LOADS. Nothing in Lean hashes anything: it is a label: what it is worth is what the hold of that sum in a sandbox is worth. -/
noncomputable def Trym.pinned : Pinned := { name := "qxb6609504amods", sum := "a92abc90f15c63bca87926951e88351418d6c95c210d93a72b85a1da55031022", checked := Trym.checked }
namespace Rows
def none {H : Type} : Left H := { results := [], args := [] }

/-- 'zzlaws_pkg_ser2net_b1.FnDecodedTurnsStringListIntoAnyList': WHATEVER THE INPUT: true; the input reads as it did. -/
def fnDecodedTurnsStringListIntoAnyListSpec : ChangeSpec := { name := "fnDecodedTurnsStringListIntoAnyList", fn := fun _ => fun
  | [d] => { results := [.lit (.bool true)], args := [d] }
  | _ => none }
def fnDecodedTurnsStringListIntoAnyListRow : OpenClaim := { program := "qxb6609504amods", sum := "a92abc90f15c63bca87926951e88351418d6c95c210d93a72b85a1da55031022", func := "example.com/portloom/portloom/zzlaws_pkg_ser2net_b1.FnDecodedTurnsStringListIntoAnyList", spec := "fnDecodedTurnsStringListIntoAnyList", make := .lifted ["publicsums"], apart := false }
def FnDecodedTurnsStringListIntoAnyListSaid : Prop := fnDecodedTurnsStringListIntoAnyListRow.holds Trym.pinned (OpenSpec.ofChange fnDecodedTurnsStringListIntoAnyListSpec)

/-- ITS FALSE NEIGHBOUR: 'it returns false'. Refute it at one input. -/
def fnDecodedTurnsStringListIntoAnyListWrong : ChangeSpec := { name := "fnDecodedTurnsStringListIntoAnyList", fn := fun _ => fun
  | [d] => { results := [.lit (.bool false)], args := [d] }
  | _ => none }
def FnDecodedTurnsStringListIntoAnyListWrongFalsely : Prop := fnDecodedTurnsStringListIntoAnyListRow.holds Trym.pinned (OpenSpec.ofChange fnDecodedTurnsStringListIntoAnyListWrong)

/-- 'zzlaws_pkg_ser2net_b1.FnDecodedIsIdempotentAndKeepsScalars': WHATEVER THE INPUT: true; the input reads as it did. -/
def fnDecodedIsIdempotentAndKeepsScalarsSpec : ChangeSpec := { name := "fnDecodedIsIdempotentAndKeepsScalars", fn := fun _ => fun
  | [d1, d2, d3, d4] => { results := [.lit (.bool true)], args := [d1, d2, d3, d4] }
  | _ => none }
def fnDecodedIsIdempotentAndKeepsScalarsRow : OpenClaim := { program := "qxb6609504amods", sum := "a92abc90f15c63bca87926951e88351418d6c95c210d93a72b85a1da55031022", func := "example.com/portloom/portloom/zzlaws_pkg_ser2net_b1.FnDecodedIsIdempotentAndKeepsScalars", spec := "fnDecodedIsIdempotentAndKeepsScalars", make := .lifted ["publicsums"], apart := false }
def FnDecodedIsIdempotentAndKeepsScalarsSaid : Prop := fnDecodedIsIdempotentAndKeepsScalarsRow.holds Trym.pinned (OpenSpec.ofChange fnDecodedIsIdempotentAndKeepsScalarsSpec)

/-- ITS FALSE NEIGHBOUR: 'it returns false'. Refute it at one input. -/
def fnDecodedIsIdempotentAndKeepsScalarsWrong : ChangeSpec := { name := "fnDecodedIsIdempotentAndKeepsScalars", fn := fun _ => fun
  | [d1, d2, d3, d4] => { results := [.lit (.bool false)], args := [d1, d2, d3, d4] }
  | _ => none }
def FnDecodedIsIdempotentAndKeepsScalarsWrongFalsely : Prop := fnDecodedIsIdempotentAndKeepsScalarsRow.holds Trym.pinned (OpenSpec.ofChange fnDecodedIsIdempotentAndKeepsScalarsWrong)

/-- 'zzlaws_pkg_ser2net_b1.FnAddToPutsListsOverTable': WHATEVER THE INPUT: true; the input reads as it did. -/
def fnAddToPutsListsOverTableSpec : ChangeSpec := { name := "fnAddToPutsListsOverTable", fn := fun _ => fun
  | [d1, d2, d3, d4, d5] => { results := [.lit (.bool true)], args := [d1, d2, d3, d4, d5] }
  | _ => none }
def fnAddToPutsListsOverTableRow : OpenClaim := { program := "qxb6609504amods", sum := "a92abc90f15c63bca87926951e88351418d6c95c210d93a72b85a1da55031022", func := "example.com/portloom/portloom/zzlaws_pkg_ser2net_b1.FnAddToPutsListsOverTable", spec := "fnAddToPutsListsOverTable", make := .lifted ["publicsums"], apart := false }
def FnAddToPutsListsOverTableSaid : Prop := fnAddToPutsListsOverTableRow.holds Trym.pinned (OpenSpec.ofChange fnAddToPutsListsOverTableSpec)

/-- ITS FALSE NEIGHBOUR: 'it returns false'. Refute it at one input. -/
def fnAddToPutsListsOverTableWrong : ChangeSpec := { name := "fnAddToPutsListsOverTable", fn := fun _ => fun
  | [d1, d2, d3, d4, d5] => { results := [.lit (.bool false)], args := [d1, d2, d3, d4, d5] }
  | _ => none }
def FnAddToPutsListsOverTableWrongFalsely : Prop := fnAddToPutsListsOverTableRow.holds Trym.pinned (OpenSpec.ofChange fnAddToPutsListsOverTableWrong)

/-- 'zzlaws_pkg_ser2net_b1.FnAddToPutsScalarsAndKeepsOtherKeys': WHATEVER THE INPUT: true; the input reads as it did. -/
def fnAddToPutsScalarsAndKeepsOtherKeysSpec : ChangeSpec := { name := "fnAddToPutsScalarsAndKeepsOtherKeys", fn := fun _ => fun
  | [d1, d2, d3, d4, d5, d6, d7] => { results := [.lit (.bool true)], args := [d1, d2, d3, d4, d5, d6, d7] }
  | _ => none }
def fnAddToPutsScalarsAndKeepsOtherKeysRow : OpenClaim := { program := "qxb6609504amods", sum := "a92abc90f15c63bca87926951e88351418d6c95c210d93a72b85a1da55031022", func := "example.com/portloom/portloom/zzlaws_pkg_ser2net_b1.FnAddToPutsScalarsAndKeepsOtherKeys", spec := "fnAddToPutsScalarsAndKeepsOtherKeys", make := .lifted ["publicsums"], apart := false }
def FnAddToPutsScalarsAndKeepsOtherKeysSaid : Prop := fnAddToPutsScalarsAndKeepsOtherKeysRow.holds Trym.pinned (OpenSpec.ofChange fnAddToPutsScalarsAndKeepsOtherKeysSpec)

/-- ITS FALSE NEIGHBOUR: 'it returns false'. Refute it at one input. -/
def fnAddToPutsScalarsAndKeepsOtherKeysWrong : ChangeSpec := { name := "fnAddToPutsScalarsAndKeepsOtherKeys", fn := fun _ => fun
  | [d1, d2, d3, d4, d5, d6, d7] => { results := [.lit (.bool false)], args := [d1, d2, d3, d4, d5, d6, d7] }
  | _ => none }
def FnAddToPutsScalarsAndKeepsOtherKeysWrongFalsely : Prop := fnAddToPutsScalarsAndKeepsOtherKeysRow.holds Trym.pinned (OpenSpec.ofChange fnAddToPutsScalarsAndKeepsOtherKeysWrong)

end Rows
end Go.Proofs.Qxb6609504aMods
