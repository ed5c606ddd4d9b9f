/-
  No cell of these rows narrows 'for every input' (looked for: loops, veiled, ifaces, maps, wideKeys, modest, calm, conditions, laid).
  DERIVED. THE GIVEN ROWS OF THIS SEAT. 5 by the template 'for every input the law returns true; each argument reads behind the call as it read before'; 0 by the template 'total and deterministic' (their statements: Qxb6609426aModsTotals.lean).
  GIVEN WITH THE SEED: the statements are not yours to turn. If you find one false, say at which input.
  Laid BY PROGRAM, IN A SANDBOX (cutbox-rows.mjs): the forced cells as the released guide's own fill.sh prints them over the translation 26fccf9d8dc3af45… (all of the seat's roots in one cut). By AI agents, Wed Nov 11 2026. No macro, syntax, notation, axiom, sorry.
-/
import Derived.Test.Qxb6609426aModsChecked
import GoSem.Claim
import GoSem.ClaimJoined
import GoSem.ClaimMapViews
import Derived.JoinedTies
import Derived.KernelRfl
namespace Go.Proofs.Qxb6609426aMods
/- THE CELL 'sum', in the pinned program and in every row, IS THE sha256 OF THE DUMP (.gsa) THAT Qxb6609426aModsProg.lean LOADS. Nothing in Lean hashes anything: it is a label: what it is worth is what the hold of that sum in a sandbox is worth. -/
noncomputable def Trym.pinned : Pinned := { name := "qxb6609426amods", sum := "26fccf9d8dc3af45fa1d43b6341e96eb2a39951bdc027fb75ab0d3e1fe6da409", checked := Trym.checked }
namespace Rows
def none {H : Type} : Left H := { results := [], args := [] }

/-- 'zzlaws_fund_b1.FnLineAtStepsByOneAtEachLineEnd': WHATEVER THE INPUT: true; the input reads as it did. -/
def fnLineAtStepsByOneAtEachLineEndSpec : ChangeSpec := { name := "fnLineAtStepsByOneAtEachLineEnd", fn := fun _ => fun
  | [d1, d2] => { results := [.lit (.bool true)], args := [d1, d2] }
  | _ => none }
def fnLineAtStepsByOneAtEachLineEndRow : OpenClaim := { program := "qxb6609426amods", sum := "26fccf9d8dc3af45fa1d43b6341e96eb2a39951bdc027fb75ab0d3e1fe6da409", func := "example.com/tuoguan/tuoguan/zzlaws_fund_b1.FnLineAtStepsByOneAtEachLineEnd", spec := "fnLineAtStepsByOneAtEachLineEnd", inPlace := ["internal/bytealg.CountString", "internal/bytealg.IndexByteString", "internal/bytealg.IndexString"], named := ["internal/bytealg.MaxLen"], make := .lifted ["publicsums"], apart := false }
def FnLineAtStepsByOneAtEachLineEndSaid : Prop := fnLineAtStepsByOneAtEachLineEndRow.holds Trym.pinned (OpenSpec.ofChange fnLineAtStepsByOneAtEachLineEndSpec)

/-- ITS FALSE NEIGHBOUR: 'it returns false'. Refute it at one input. -/
def fnLineAtStepsByOneAtEachLineEndWrong : ChangeSpec := { name := "fnLineAtStepsByOneAtEachLineEnd", fn := fun _ => fun
  | [d1, d2] => { results := [.lit (.bool false)], args := [d1, d2] }
  | _ => none }
def FnLineAtStepsByOneAtEachLineEndWrongFalsely : Prop := fnLineAtStepsByOneAtEachLineEndRow.holds Trym.pinned (OpenSpec.ofChange fnLineAtStepsByOneAtEachLineEndWrong)

/-- 'zzlaws_fund_b1.FnLineAtAddsOverConcatenation': WHATEVER THE INPUT: true; the input reads as it did. -/
def fnLineAtAddsOverConcatenationSpec : ChangeSpec := { name := "fnLineAtAddsOverConcatenation", fn := fun _ => fun
  | [d1, d2, d3] => { results := [.lit (.bool true)], args := [d1, d2, d3] }
  | _ => none }
def fnLineAtAddsOverConcatenationRow : OpenClaim := { program := "qxb6609426amods", sum := "26fccf9d8dc3af45fa1d43b6341e96eb2a39951bdc027fb75ab0d3e1fe6da409", func := "example.com/tuoguan/tuoguan/zzlaws_fund_b1.FnLineAtAddsOverConcatenation", spec := "fnLineAtAddsOverConcatenation", inPlace := ["internal/bytealg.CountString", "internal/bytealg.IndexByteString", "internal/bytealg.IndexString"], named := ["internal/bytealg.MaxLen"], make := .lifted ["publicsums"], apart := false }
def FnLineAtAddsOverConcatenationSaid : Prop := fnLineAtAddsOverConcatenationRow.holds Trym.pinned (OpenSpec.ofChange fnLineAtAddsOverConcatenationSpec)

/-- ITS FALSE NEIGHBOUR: 'it returns false'. Refute it at one input. -/
def fnLineAtAddsOverConcatenationWrong : ChangeSpec := { name := "fnLineAtAddsOverConcatenation", fn := fun _ => fun
  | [d1, d2, d3] => { results := [.lit (.bool false)], args := [d1, d2, d3] }
  | _ => none }
def FnLineAtAddsOverConcatenationWrongFalsely : Prop := fnLineAtAddsOverConcatenationRow.holds Trym.pinned (OpenSpec.ofChange fnLineAtAddsOverConcatenationWrong)

/-- 'zzlaws_fund_b1.FnCheckLinesPassesUpToFirstLongLine': WHATEVER THE INPUT: true; the input reads as it did. -/
def fnCheckLinesPassesUpToFirstLongLineSpec : ChangeSpec := { name := "fnCheckLinesPassesUpToFirstLongLine", fn := fun _ => fun
  | [d1, d2] => { results := [.lit (.bool true)], args := [d1, d2] }
  | _ => none }
def fnCheckLinesPassesUpToFirstLongLineRow : OpenClaim := { program := "qxb6609426amods", sum := "26fccf9d8dc3af45fa1d43b6341e96eb2a39951bdc027fb75ab0d3e1fe6da409", func := "example.com/tuoguan/tuoguan/zzlaws_fund_b1.FnCheckLinesPassesUpToFirstLongLine", spec := "fnCheckLinesPassesUpToFirstLongLine", make := .lifted ["publicsums"], apart := false }
def FnCheckLinesPassesUpToFirstLongLineSaid : Prop := fnCheckLinesPassesUpToFirstLongLineRow.holds Trym.pinned (OpenSpec.ofChange fnCheckLinesPassesUpToFirstLongLineSpec)

/-- ITS FALSE NEIGHBOUR: 'it returns false'. Refute it at one input. -/
def fnCheckLinesPassesUpToFirstLongLineWrong : ChangeSpec := { name := "fnCheckLinesPassesUpToFirstLongLine", fn := fun _ => fun
  | [d1, d2] => { results := [.lit (.bool false)], args := [d1, d2] }
  | _ => none }
def FnCheckLinesPassesUpToFirstLongLineWrongFalsely : Prop := fnCheckLinesPassesUpToFirstLongLineRow.holds Trym.pinned (OpenSpec.ofChange fnCheckLinesPassesUpToFirstLongLineWrong)

/-- 'zzlaws_fund_b1.FnSecondRowsAddAnswersFirstEarlierLine': WHATEVER THE INPUT: true; the input reads as it did. -/
def fnSecondRowsAddAnswersFirstEarlierLineSpec : ChangeSpec := { name := "fnSecondRowsAddAnswersFirstEarlierLine", fn := fun _ => fun
  | [d1, d2] => { results := [.lit (.bool true)], args := [d1, d2] }
  | _ => none }
def fnSecondRowsAddAnswersFirstEarlierLineRow : OpenClaim := { program := "qxb6609426amods", sum := "26fccf9d8dc3af45fa1d43b6341e96eb2a39951bdc027fb75ab0d3e1fe6da409", func := "example.com/tuoguan/tuoguan/zzlaws_fund_b1.FnSecondRowsAddAnswersFirstEarlierLine", spec := "fnSecondRowsAddAnswersFirstEarlierLine", unfollowed := true, recurses := true, make := .lifted ["publicsums"], apart := false }
def FnSecondRowsAddAnswersFirstEarlierLineSaid : Prop := fnSecondRowsAddAnswersFirstEarlierLineRow.holds Trym.pinned (OpenSpec.ofChange fnSecondRowsAddAnswersFirstEarlierLineSpec)

/-- ITS FALSE NEIGHBOUR: 'it returns false'. Refute it at one input. -/
def fnSecondRowsAddAnswersFirstEarlierLineWrong : ChangeSpec := { name := "fnSecondRowsAddAnswersFirstEarlierLine", fn := fun _ => fun
  | [d1, d2] => { results := [.lit (.bool false)], args := [d1, d2] }
  | _ => none }
def FnSecondRowsAddAnswersFirstEarlierLineWrongFalsely : Prop := fnSecondRowsAddAnswersFirstEarlierLineRow.holds Trym.pinned (OpenSpec.ofChange fnSecondRowsAddAnswersFirstEarlierLineWrong)

/-- 'zzlaws_fund_b1.FnSecondRowsAddAnswersZeroOncePerSecurity': WHATEVER THE INPUT: true; the input reads as it did. -/
def fnSecondRowsAddAnswersZeroOncePerSecuritySpec : ChangeSpec := { name := "fnSecondRowsAddAnswersZeroOncePerSecurity", fn := fun _ => fun
  | [d1, d2] => { results := [.lit (.bool true)], args := [d1, d2] }
  | _ => none }
def fnSecondRowsAddAnswersZeroOncePerSecurityRow : OpenClaim := { program := "qxb6609426amods", sum := "26fccf9d8dc3af45fa1d43b6341e96eb2a39951bdc027fb75ab0d3e1fe6da409", func := "example.com/tuoguan/tuoguan/zzlaws_fund_b1.FnSecondRowsAddAnswersZeroOncePerSecurity", spec := "fnSecondRowsAddAnswersZeroOncePerSecurity", unfollowed := true, recurses := true, make := .lifted ["publicsums"], apart := false }
def FnSecondRowsAddAnswersZeroOncePerSecuritySaid : Prop := fnSecondRowsAddAnswersZeroOncePerSecurityRow.holds Trym.pinned (OpenSpec.ofChange fnSecondRowsAddAnswersZeroOncePerSecuritySpec)

/-- ITS FALSE NEIGHBOUR: 'it returns false'. Refute it at one input. -/
def fnSecondRowsAddAnswersZeroOncePerSecurityWrong : ChangeSpec := { name := "fnSecondRowsAddAnswersZeroOncePerSecurity", fn := fun _ => fun
  | [d1, d2] => { results := [.lit (.bool false)], args := [d1, d2] }
  | _ => none }
def FnSecondRowsAddAnswersZeroOncePerSecurityWrongFalsely : Prop := fnSecondRowsAddAnswersZeroOncePerSecurityRow.holds Trym.pinned (OpenSpec.ofChange fnSecondRowsAddAnswersZeroOncePerSecurityWrong)

end Rows
end Go.Proofs.Qxb6609426aMods
