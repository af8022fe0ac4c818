/-
  No cell of these rows narrows 'for every input' (looked for: loops, veiled, ifaces, maps, wideKeys, modest, calm, conditions, laid).
  DERIVED. THE GIVEN ROWS OF THIS SEAT. 7 by the template 'for every input the law returns true; each argument reads behind the call as it read before'; 0 by the template 'total and deterministic' (their statements: Qxb6600215aModsTotals.lean).
  GIVEN WITH THE SEED: the statements are not yours to turn. If you find one false, say at which input.
  Laid BY PROGRAM, IN A SANDBOX (cutbox-rows.mjs): the forced cells as the released guide's own fill.sh prints them over the translation fa21e6ed03128fe6… (all of the seat's roots in one cut). By AI agents, Wed Nov 11 2026. No macro, syntax, notation, axiom, sorry.
-/
import Derived.Test.Qxb6600215aModsChecked
import GoSem.Claim
import GoSem.ClaimJoined
import GoSem.ClaimMapViews
import Derived.JoinedTies
import Derived.KernelRfl
namespace Go.Proofs.Qxb6600215aMods
/- THE CELL 'sum', in the pinned program and in every row, IS THE sha256 OF THE DUMP (.gsa) THAT Qxb6600215aModsProg.lean LOADS. Nothing in Lean hashes anything: it is a label: what it is worth is what the hold of that sum in a sandbox is worth. -/
noncomputable def Trym.pinned : Pinned := { name := "qxb6600215amods", sum := "fa21e6ed03128fe650873568cc600d7d78c3307ccf5148748738304e468cde98", checked := Trym.checked }
namespace Rows
def none {H : Type} : Left H := { results := [], args := [] }

/-- 'zzlaws_root_b1.FnGapsAmongMembership': WHATEVER THE INPUT: true; the input reads as it did. -/
def fnGapsAmongMembershipSpec : ChangeSpec := { name := "fnGapsAmongMembership", fn := fun _ => fun
  | [d1, d2, d3, d4, d5] => { results := [.lit (.bool true)], args := [d1, d2, d3, d4, d5] }
  | _ => none }
def fnGapsAmongMembershipRow : OpenClaim := { program := "qxb6600215amods", sum := "fa21e6ed03128fe650873568cc600d7d78c3307ccf5148748738304e468cde98", func := "example.com/cometida/cometida/zzlaws_root_b1.FnGapsAmongMembership", spec := "fnGapsAmongMembership", make := .lifted ["publicsums"], apart := false }
def FnGapsAmongMembershipSaid : Prop := fnGapsAmongMembershipRow.holds Trym.pinned (OpenSpec.ofChange fnGapsAmongMembershipSpec)

/-- ITS FALSE NEIGHBOUR: 'it returns false'. Refute it at one input. -/
def fnGapsAmongMembershipWrong : ChangeSpec := { name := "fnGapsAmongMembership", fn := fun _ => fun
  | [d1, d2, d3, d4, d5] => { results := [.lit (.bool false)], args := [d1, d2, d3, d4, d5] }
  | _ => none }
def FnGapsAmongMembershipWrongFalsely : Prop := fnGapsAmongMembershipRow.holds Trym.pinned (OpenSpec.ofChange fnGapsAmongMembershipWrong)

/-- 'zzlaws_root_b1.FnGapsAmongShape': WHATEVER THE INPUT: true; the input reads as it did. -/
def fnGapsAmongShapeSpec : ChangeSpec := { name := "fnGapsAmongShape", fn := fun _ => fun
  | [d1, d2, d3, d4] => { results := [.lit (.bool true)], args := [d1, d2, d3, d4] }
  | _ => none }
def fnGapsAmongShapeRow : OpenClaim := { program := "qxb6600215amods", sum := "fa21e6ed03128fe650873568cc600d7d78c3307ccf5148748738304e468cde98", func := "example.com/cometida/cometida/zzlaws_root_b1.FnGapsAmongShape", spec := "fnGapsAmongShape", make := .lifted ["publicsums"], apart := false }
def FnGapsAmongShapeSaid : Prop := fnGapsAmongShapeRow.holds Trym.pinned (OpenSpec.ofChange fnGapsAmongShapeSpec)

/-- ITS FALSE NEIGHBOUR: 'it returns false'. Refute it at one input. -/
def fnGapsAmongShapeWrong : ChangeSpec := { name := "fnGapsAmongShape", fn := fun _ => fun
  | [d1, d2, d3, d4] => { results := [.lit (.bool false)], args := [d1, d2, d3, d4] }
  | _ => none }
def FnGapsAmongShapeWrongFalsely : Prop := fnGapsAmongShapeRow.holds Trym.pinned (OpenSpec.ofChange fnGapsAmongShapeWrong)

/-- 'zzlaws_root_b1.FnSetScriptModel': WHATEVER THE INPUT: true; the input reads as it did. -/
def fnSetScriptModelSpec : ChangeSpec := { name := "fnSetScriptModel", fn := fun _ => fun
  | [d1, d2, d3] => { results := [.lit (.bool true)], args := [d1, d2, d3] }
  | _ => none }
def fnSetScriptModelRow : OpenClaim := { program := "qxb6600215amods", sum := "fa21e6ed03128fe650873568cc600d7d78c3307ccf5148748738304e468cde98", func := "example.com/cometida/cometida/zzlaws_root_b1.FnSetScriptModel", spec := "fnSetScriptModel", make := .lifted ["publicsums"], apart := false }
def FnSetScriptModelSaid : Prop := fnSetScriptModelRow.holds Trym.pinned (OpenSpec.ofChange fnSetScriptModelSpec)

/-- ITS FALSE NEIGHBOUR: 'it returns false'. Refute it at one input. -/
def fnSetScriptModelWrong : ChangeSpec := { name := "fnSetScriptModel", fn := fun _ => fun
  | [d1, d2, d3] => { results := [.lit (.bool false)], args := [d1, d2, d3] }
  | _ => none }
def FnSetScriptModelWrongFalsely : Prop := fnSetScriptModelRow.holds Trym.pinned (OpenSpec.ofChange fnSetScriptModelWrong)

/-- 'zzlaws_root_b1.FnSetFrame': WHATEVER THE INPUT: true; the input reads as it did. -/
def fnSetFrameSpec : ChangeSpec := { name := "fnSetFrame", fn := fun _ => fun
  | [d1, d2, d3, d4, d5, d6, d7, d8] => { results := [.lit (.bool true)], args := [d1, d2, d3, d4, d5, d6, d7, d8] }
  | _ => none }
def fnSetFrameRow : OpenClaim := { program := "qxb6600215amods", sum := "fa21e6ed03128fe650873568cc600d7d78c3307ccf5148748738304e468cde98", func := "example.com/cometida/cometida/zzlaws_root_b1.FnSetFrame", spec := "fnSetFrame", make := .lifted ["publicsums"], apart := false }
def FnSetFrameSaid : Prop := fnSetFrameRow.holds Trym.pinned (OpenSpec.ofChange fnSetFrameSpec)

/-- ITS FALSE NEIGHBOUR: 'it returns false'. Refute it at one input. -/
def fnSetFrameWrong : ChangeSpec := { name := "fnSetFrame", fn := fun _ => fun
  | [d1, d2, d3, d4, d5, d6, d7, d8] => { results := [.lit (.bool false)], args := [d1, d2, d3, d4, d5, d6, d7, d8] }
  | _ => none }
def FnSetFrameWrongFalsely : Prop := fnSetFrameRow.holds Trym.pinned (OpenSpec.ofChange fnSetFrameWrong)

/-- 'zzlaws_root_b1.FnSetLastWins': WHATEVER THE INPUT: true; the input reads as it did. -/
def fnSetLastWinsSpec : ChangeSpec := { name := "fnSetLastWins", fn := fun _ => fun
  | [d1, d2, d3, d4, d5, d6, d7] => { results := [.lit (.bool true)], args := [d1, d2, d3, d4, d5, d6, d7] }
  | _ => none }
def fnSetLastWinsRow : OpenClaim := { program := "qxb6600215amods", sum := "fa21e6ed03128fe650873568cc600d7d78c3307ccf5148748738304e468cde98", func := "example.com/cometida/cometida/zzlaws_root_b1.FnSetLastWins", spec := "fnSetLastWins", make := .lifted ["publicsums"], apart := false }
def FnSetLastWinsSaid : Prop := fnSetLastWinsRow.holds Trym.pinned (OpenSpec.ofChange fnSetLastWinsSpec)

/-- ITS FALSE NEIGHBOUR: 'it returns false'. Refute it at one input. -/
def fnSetLastWinsWrong : ChangeSpec := { name := "fnSetLastWins", fn := fun _ => fun
  | [d1, d2, d3, d4, d5, d6, d7] => { results := [.lit (.bool false)], args := [d1, d2, d3, d4, d5, d6, d7] }
  | _ => none }
def FnSetLastWinsWrongFalsely : Prop := fnSetLastWinsRow.holds Trym.pinned (OpenSpec.ofChange fnSetLastWinsWrong)

/-- 'zzlaws_root_b1.FnPartsFromExact': WHATEVER THE INPUT: true; the input reads as it did. -/
def fnPartsFromExactSpec : ChangeSpec := { name := "fnPartsFromExact", fn := fun _ => fun
  | [d1, d2, d3, d4] => { results := [.lit (.bool true)], args := [d1, d2, d3, d4] }
  | _ => none }
def fnPartsFromExactRow : OpenClaim := { program := "qxb6600215amods", sum := "fa21e6ed03128fe650873568cc600d7d78c3307ccf5148748738304e468cde98", func := "example.com/cometida/cometida/zzlaws_root_b1.FnPartsFromExact", spec := "fnPartsFromExact", make := .lifted ["publicsums"], apart := false }
def FnPartsFromExactSaid : Prop := fnPartsFromExactRow.holds Trym.pinned (OpenSpec.ofChange fnPartsFromExactSpec)

/-- ITS FALSE NEIGHBOUR: 'it returns false'. Refute it at one input. -/
def fnPartsFromExactWrong : ChangeSpec := { name := "fnPartsFromExact", fn := fun _ => fun
  | [d1, d2, d3, d4] => { results := [.lit (.bool false)], args := [d1, d2, d3, d4] }
  | _ => none }
def FnPartsFromExactWrongFalsely : Prop := fnPartsFromExactRow.holds Trym.pinned (OpenSpec.ofChange fnPartsFromExactWrong)

/-- 'zzlaws_root_b1.FnPartsFromCompose': WHATEVER THE INPUT: true; the input reads as it did. -/
def fnPartsFromComposeSpec : ChangeSpec := { name := "fnPartsFromCompose", fn := fun _ => fun
  | [d1, d2, d3, d4] => { results := [.lit (.bool true)], args := [d1, d2, d3, d4] }
  | _ => none }
def fnPartsFromComposeRow : OpenClaim := { program := "qxb6600215amods", sum := "fa21e6ed03128fe650873568cc600d7d78c3307ccf5148748738304e468cde98", func := "example.com/cometida/cometida/zzlaws_root_b1.FnPartsFromCompose", spec := "fnPartsFromCompose", make := .lifted ["publicsums"], apart := false }
def FnPartsFromComposeSaid : Prop := fnPartsFromComposeRow.holds Trym.pinned (OpenSpec.ofChange fnPartsFromComposeSpec)

/-- ITS FALSE NEIGHBOUR: 'it returns false'. Refute it at one input. -/
def fnPartsFromComposeWrong : ChangeSpec := { name := "fnPartsFromCompose", fn := fun _ => fun
  | [d1, d2, d3, d4] => { results := [.lit (.bool false)], args := [d1, d2, d3, d4] }
  | _ => none }
def FnPartsFromComposeWrongFalsely : Prop := fnPartsFromComposeRow.holds Trym.pinned (OpenSpec.ofChange fnPartsFromComposeWrong)

end Rows
end Go.Proofs.Qxb6600215aMods
