/-
  No cell of these rows narrows 'for every input' (looked for: loops, veiled, ifaces, maps, wideKeys, modest, calm, conditions, laid).
  DERIVED. THE GIVEN ROWS OF THIS SEAT. 4 by the template 'for every input the law returns true; each argument reads behind the call as it read before'; 0 by the template 'total and deterministic' (their statements: YoedxwTotals.lean).
  GIVEN WITH THE SEED: the statements are not yours to turn. If you find one false, say at which input.
  Laid BY PROGRAM, IN A SANDBOX (cutbox-rows.mjs): the forced cells as the released guide's own fill.sh prints them over the translation d85705dc4b5fb44e… (all of the seat's roots in one cut). By AI agents, Wed Nov 11 2026. No macro, syntax, notation, axiom, sorry.
-/
import Derived.Test.YoedxwChecked
import GoSem.Claim
import GoSem.ClaimJoined
import GoSem.ClaimMapViews
import Derived.JoinedTies
import Derived.KernelRfl
namespace Go.Proofs.Yoedxw
/- THE CELL 'sum', in the pinned program and in every row, IS THE sha256 OF THE DUMP (.gsa) THAT YoedxwProg.lean LOADS. Nothing in Lean hashes anything: it is a label: what it is worth is what the hold of that sum in a sandbox is worth. -/
noncomputable def Edxg.pinned : Pinned := { name := "yoedxw", sum := "d85705dc4b5fb44e3e0f791f2708e06c94c640598908b7acc6495afc0e1b3da1", checked := Edxg.checked }
namespace Rows
def none {H : Type} : Left H := { results := [], args := [] }

/-- 'zzlaws_parser_b26.FnFilePosEndTileTheFileSet': WHATEVER THE INPUT: true; the input reads as it did. -/
def fnFilePosEndTileTheFileSetSpec : ChangeSpec := { name := "fnFilePosEndTileTheFileSet", fn := fun _ => fun
  | [d1, d2] => { results := [.lit (.bool true)], args := [d1, d2] }
  | _ => none }
def fnFilePosEndTileTheFileSetRow : OpenClaim := { program := "yoedxw", sum := "d85705dc4b5fb44e3e0f791f2708e06c94c640598908b7acc6495afc0e1b3da1", func := "github.com/d5/tengo/v2/zzlaws_parser_b26.FnFilePosEndTileTheFileSet", spec := "fnFilePosEndTileTheFileSet", unfollowed := true, recurses := true, apart := false }
def FnFilePosEndTileTheFileSetSaid : Prop := fnFilePosEndTileTheFileSetRow.holds Edxg.pinned (OpenSpec.ofChange fnFilePosEndTileTheFileSetSpec)

/-- ITS FALSE NEIGHBOUR: 'it returns false'. Refute it at one input. -/
def fnFilePosEndTileTheFileSetWrong : ChangeSpec := { name := "fnFilePosEndTileTheFileSet", fn := fun _ => fun
  | [d1, d2] => { results := [.lit (.bool false)], args := [d1, d2] }
  | _ => none }
def FnFilePosEndTileTheFileSetWrongFalsely : Prop := fnFilePosEndTileTheFileSetRow.holds Edxg.pinned (OpenSpec.ofChange fnFilePosEndTileTheFileSetWrong)

/-- 'zzlaws_parser_b26.FnFilePosEndAtGivenBase': WHATEVER THE INPUT: true; the input reads as it did. -/
def fnFilePosEndAtGivenBaseSpec : ChangeSpec := { name := "fnFilePosEndAtGivenBase", fn := fun _ => fun
  | [d1, d2] => { results := [.lit (.bool true)], args := [d1, d2] }
  | _ => none }
def fnFilePosEndAtGivenBaseRow : OpenClaim := { program := "yoedxw", sum := "d85705dc4b5fb44e3e0f791f2708e06c94c640598908b7acc6495afc0e1b3da1", func := "github.com/d5/tengo/v2/zzlaws_parser_b26.FnFilePosEndAtGivenBase", spec := "fnFilePosEndAtGivenBase", apart := false }
def FnFilePosEndAtGivenBaseSaid : Prop := fnFilePosEndAtGivenBaseRow.holds Edxg.pinned (OpenSpec.ofChange fnFilePosEndAtGivenBaseSpec)

/-- ITS FALSE NEIGHBOUR: 'it returns false'. Refute it at one input. -/
def fnFilePosEndAtGivenBaseWrong : ChangeSpec := { name := "fnFilePosEndAtGivenBase", fn := fun _ => fun
  | [d1, d2] => { results := [.lit (.bool false)], args := [d1, d2] }
  | _ => none }
def FnFilePosEndAtGivenBaseWrongFalsely : Prop := fnFilePosEndAtGivenBaseRow.holds Edxg.pinned (OpenSpec.ofChange fnFilePosEndAtGivenBaseWrong)

/-- 'zzlaws_parser_b26.FnReadOperandsBigEndianModel': WHATEVER THE INPUT: true; the input reads as it did. -/
def fnReadOperandsBigEndianModelSpec : ChangeSpec := { name := "fnReadOperandsBigEndianModel", fn := fun _ => fun
  | [d1, d2] => { results := [.lit (.bool true)], args := [d1, d2] }
  | _ => none }
def fnReadOperandsBigEndianModelRow : OpenClaim := { program := "yoedxw", sum := "d85705dc4b5fb44e3e0f791f2708e06c94c640598908b7acc6495afc0e1b3da1", func := "github.com/d5/tengo/v2/zzlaws_parser_b26.FnReadOperandsBigEndianModel", spec := "fnReadOperandsBigEndianModel", apart := false }
def FnReadOperandsBigEndianModelSaid : Prop := fnReadOperandsBigEndianModelRow.holds Edxg.pinned (OpenSpec.ofChange fnReadOperandsBigEndianModelSpec)

/-- ITS FALSE NEIGHBOUR: 'it returns false'. Refute it at one input. -/
def fnReadOperandsBigEndianModelWrong : ChangeSpec := { name := "fnReadOperandsBigEndianModel", fn := fun _ => fun
  | [d1, d2] => { results := [.lit (.bool false)], args := [d1, d2] }
  | _ => none }
def FnReadOperandsBigEndianModelWrongFalsely : Prop := fnReadOperandsBigEndianModelRow.holds Edxg.pinned (OpenSpec.ofChange fnReadOperandsBigEndianModelWrong)

/-- 'zzlaws_parser_b26.FnReadOperandsSplitAndPad': WHATEVER THE INPUT: true; the input reads as it did. -/
def fnReadOperandsSplitAndPadSpec : ChangeSpec := { name := "fnReadOperandsSplitAndPad", fn := fun _ => fun
  | [d1, d2, d3, d4] => { results := [.lit (.bool true)], args := [d1, d2, d3, d4] }
  | _ => none }
def fnReadOperandsSplitAndPadRow : OpenClaim := { program := "yoedxw", sum := "d85705dc4b5fb44e3e0f791f2708e06c94c640598908b7acc6495afc0e1b3da1", func := "github.com/d5/tengo/v2/zzlaws_parser_b26.FnReadOperandsSplitAndPad", spec := "fnReadOperandsSplitAndPad", apart := false }
def FnReadOperandsSplitAndPadSaid : Prop := fnReadOperandsSplitAndPadRow.holds Edxg.pinned (OpenSpec.ofChange fnReadOperandsSplitAndPadSpec)

/-- ITS FALSE NEIGHBOUR: 'it returns false'. Refute it at one input. -/
def fnReadOperandsSplitAndPadWrong : ChangeSpec := { name := "fnReadOperandsSplitAndPad", fn := fun _ => fun
  | [d1, d2, d3, d4] => { results := [.lit (.bool false)], args := [d1, d2, d3, d4] }
  | _ => none }
def FnReadOperandsSplitAndPadWrongFalsely : Prop := fnReadOperandsSplitAndPadRow.holds Edxg.pinned (OpenSpec.ofChange fnReadOperandsSplitAndPadWrong)

end Rows
end Go.Proofs.Yoedxw
