/-
  No cell of these rows narrows 'for every input' (looked for: loops, veiled, ifaces, maps, wideKeys, modest, calm, conditions, laid).
  DERIVED. THE GIVEN ROWS OF THIS SEAT. 3 by the template 'for every input the law returns true; each argument reads behind the call as it read before'; 0 by the template 'total and deterministic' (their statements: Qxb6612688aModsTotals.lean).
  GIVEN WITH THE SEED: the statements are not yours to turn. If you find one false, say at which input.
  Laid BY PROGRAM, IN A SANDBOX (cutbox-rows.mjs): the forced cells as the released guide's own fill.sh prints them over the translation 8427e49d3297277b… (all of the seat's roots in one cut). By AI agents, Wed Nov 11 2026. No macro, syntax, notation, axiom, sorry.
-/
import Derived.Test.Qxb6612688aModsChecked
import GoSem.Claim
import GoSem.ClaimJoined
import GoSem.ClaimMapViews
import Derived.JoinedTies
import Derived.KernelRfl
namespace Go.Proofs.Qxb6612688aMods
/- THE CELL 'sum', in the pinned program and in every row, IS THE sha256 OF THE DUMP (.gsa) THAT Qxb6612688aModsProg.lean LOADS. Nothing in Lean hashes anything: it is a label: what it is worth is what the hold of that sum in a sandbox is worth. -/
noncomputable def Trym.pinned : Pinned := { name := "qxb6612688amods", sum := "8427e49d3297277b607f14d48b7e51ad038965e46597871ca25b9006fd2cc489", checked := Trym.checked }
namespace Rows
def none {H : Type} : Left H := { results := [], args := [] }

/-- 'zzlaws_root_b1.FnIsURICut': WHATEVER THE INPUT: true; the input reads as it did. -/
def fnIsURICutSpec : ChangeSpec := { name := "fnIsURICut", fn := fun _ => fun
  | [d1, d2] => { results := [.lit (.bool true)], args := [d1, d2] }
  | _ => none }
def fnIsURICutRow : OpenClaim := { program := "qxb6612688amods", sum := "8427e49d3297277b607f14d48b7e51ad038965e46597871ca25b9006fd2cc489", func := "example.com/ajuste/ajuste/zzlaws_root_b1.FnIsURICut", spec := "fnIsURICut", inPlace := ["internal/bytealg.IndexByteString"], unfollowed := true, recurses := true, make := .lifted ["publicsums"], apart := false }
def FnIsURICutSaid : Prop := fnIsURICutRow.holds Trym.pinned (OpenSpec.ofChange fnIsURICutSpec)

/-- ITS FALSE NEIGHBOUR: 'it returns false'. Refute it at one input. -/
def fnIsURICutWrong : ChangeSpec := { name := "fnIsURICut", fn := fun _ => fun
  | [d1, d2] => { results := [.lit (.bool false)], args := [d1, d2] }
  | _ => none }
def FnIsURICutWrongFalsely : Prop := fnIsURICutRow.holds Trym.pinned (OpenSpec.ofChange fnIsURICutWrong)

/-- 'zzlaws_root_b1.FnJoinSymmetric': WHATEVER THE INPUT: true; the input reads as it did. -/
def fnJoinSymmetricSpec : ChangeSpec := { name := "fnJoinSymmetric", fn := fun _ => fun
  | [d1, d2] => { results := [.lit (.bool true)], args := [d1, d2] }
  | _ => none }
def fnJoinSymmetricRow : OpenClaim := { program := "qxb6612688amods", sum := "8427e49d3297277b607f14d48b7e51ad038965e46597871ca25b9006fd2cc489", func := "example.com/ajuste/ajuste/zzlaws_root_b1.FnJoinSymmetric", spec := "fnJoinSymmetric", make := .lifted ["publicsums"], apart := false }
def FnJoinSymmetricSaid : Prop := fnJoinSymmetricRow.holds Trym.pinned (OpenSpec.ofChange fnJoinSymmetricSpec)

/-- ITS FALSE NEIGHBOUR: 'it returns false'. Refute it at one input. -/
def fnJoinSymmetricWrong : ChangeSpec := { name := "fnJoinSymmetric", fn := fun _ => fun
  | [d1, d2] => { results := [.lit (.bool false)], args := [d1, d2] }
  | _ => none }
def FnJoinSymmetricWrongFalsely : Prop := fnJoinSymmetricRow.holds Trym.pinned (OpenSpec.ofChange fnJoinSymmetricWrong)

/-- 'zzlaws_root_b1.FnJoinIntoEmptyThenAgain': WHATEVER THE INPUT: true; the input reads as it did. -/
def fnJoinIntoEmptyThenAgainSpec : ChangeSpec := { name := "fnJoinIntoEmptyThenAgain", fn := fun _ => fun
  | [d] => { results := [.lit (.bool true)], args := [d] }
  | _ => none }
def fnJoinIntoEmptyThenAgainRow : OpenClaim := { program := "qxb6612688amods", sum := "8427e49d3297277b607f14d48b7e51ad038965e46597871ca25b9006fd2cc489", func := "example.com/ajuste/ajuste/zzlaws_root_b1.FnJoinIntoEmptyThenAgain", spec := "fnJoinIntoEmptyThenAgain", make := .lifted ["publicsums"], apart := false }
def FnJoinIntoEmptyThenAgainSaid : Prop := fnJoinIntoEmptyThenAgainRow.holds Trym.pinned (OpenSpec.ofChange fnJoinIntoEmptyThenAgainSpec)

/-- ITS FALSE NEIGHBOUR: 'it returns false'. Refute it at one input. -/
def fnJoinIntoEmptyThenAgainWrong : ChangeSpec := { name := "fnJoinIntoEmptyThenAgain", fn := fun _ => fun
  | [d] => { results := [.lit (.bool false)], args := [d] }
  | _ => none }
def FnJoinIntoEmptyThenAgainWrongFalsely : Prop := fnJoinIntoEmptyThenAgainRow.holds Trym.pinned (OpenSpec.ofChange fnJoinIntoEmptyThenAgainWrong)

end Rows
end Go.Proofs.Qxb6612688aMods
