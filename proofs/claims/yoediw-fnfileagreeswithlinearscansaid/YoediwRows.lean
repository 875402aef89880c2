/-
  No cell of these rows narrows 'for every input' (looked for: loops, veiled, ifaces, maps, wideKeys, modest, calm, conditions, laid).
  DERIVED. THE GIVEN ROWS OF THIS SEAT. 5 by the template 'for every input the law returns true; each argument reads behind the call as it read before'; 0 by the template 'total and deterministic' (their statements: YoediwTotals.lean).
  GIVEN WITH THE SEED: the statements are not yours to turn. If you find one false, say at which input.
  Laid BY PROGRAM, IN A SANDBOX (cutbox-rows.mjs): the forced cells as the released guide's own fill.sh prints them over the translation 2d7147776b9d67d7… (all of the seat's roots in one cut). By AI agents, Wed Nov 11 2026. No macro, syntax, notation, axiom, sorry.
-/
import Derived.Test.YoediwChecked
import GoSem.Claim
import GoSem.ClaimJoined
import GoSem.ClaimMapViews
import Derived.JoinedTies
import Derived.KernelRfl
namespace Go.Proofs.Yoediw
/- THE CELL 'sum', in the pinned program and in every row, IS THE sha256 OF THE DUMP (.gsa) THAT YoediwProg.lean LOADS. Nothing in Lean hashes anything: it is a label: what it is worth is what the hold of that sum in a sandbox is worth. -/
noncomputable def Edig.pinned : Pinned := { name := "yoediw", sum := "2d7147776b9d67d79341d1b4a0ec33ad7484724304c712a940493e1e2bd709eb", checked := Edig.checked }
namespace Rows
def none {H : Type} : Left H := { results := [], args := [] }

/-- 'zzlaws_parser_b47.FnNewFileSetAnswersNoFile': WHATEVER THE INPUT: true; the input reads as it did. -/
def fnNewFileSetAnswersNoFileSpec : ChangeSpec := { name := "fnNewFileSetAnswersNoFile", fn := fun _ => fun
  | [d] => { results := [.lit (.bool true)], args := [d] }
  | _ => none }
def fnNewFileSetAnswersNoFileRow : OpenClaim := { program := "yoediw", sum := "2d7147776b9d67d79341d1b4a0ec33ad7484724304c712a940493e1e2bd709eb", func := "github.com/d5/tengo/v2/zzlaws_parser_b47.FnNewFileSetAnswersNoFile", spec := "fnNewFileSetAnswersNoFile", unfollowed := true, recurses := true, apart := false }
def FnNewFileSetAnswersNoFileSaid : Prop := fnNewFileSetAnswersNoFileRow.holds Edig.pinned (OpenSpec.ofChange fnNewFileSetAnswersNoFileSpec)

/-- ITS FALSE NEIGHBOUR: 'it returns false'. Refute it at one input. -/
def fnNewFileSetAnswersNoFileWrong : ChangeSpec := { name := "fnNewFileSetAnswersNoFile", fn := fun _ => fun
  | [d] => { results := [.lit (.bool false)], args := [d] }
  | _ => none }
def FnNewFileSetAnswersNoFileWrongFalsely : Prop := fnNewFileSetAnswersNoFileRow.holds Edig.pinned (OpenSpec.ofChange fnNewFileSetAnswersNoFileWrong)

/-- 'zzlaws_parser_b47.FnNewFileSetFirstFileAndIndependence': WHATEVER THE INPUT: true; the input reads as it did. -/
def fnNewFileSetFirstFileAndIndependenceSpec : ChangeSpec := { name := "fnNewFileSetFirstFileAndIndependence", fn := fun _ => fun
  | [d1, d2] => { results := [.lit (.bool true)], args := [d1, d2] }
  | _ => none }
def fnNewFileSetFirstFileAndIndependenceRow : OpenClaim := { program := "yoediw", sum := "2d7147776b9d67d79341d1b4a0ec33ad7484724304c712a940493e1e2bd709eb", func := "github.com/d5/tengo/v2/zzlaws_parser_b47.FnNewFileSetFirstFileAndIndependence", spec := "fnNewFileSetFirstFileAndIndependence", unfollowed := true, recurses := true, apart := false }
def FnNewFileSetFirstFileAndIndependenceSaid : Prop := fnNewFileSetFirstFileAndIndependenceRow.holds Edig.pinned (OpenSpec.ofChange fnNewFileSetFirstFileAndIndependenceSpec)

/-- ITS FALSE NEIGHBOUR: 'it returns false'. Refute it at one input. -/
def fnNewFileSetFirstFileAndIndependenceWrong : ChangeSpec := { name := "fnNewFileSetFirstFileAndIndependence", fn := fun _ => fun
  | [d1, d2] => { results := [.lit (.bool false)], args := [d1, d2] }
  | _ => none }
def FnNewFileSetFirstFileAndIndependenceWrongFalsely : Prop := fnNewFileSetFirstFileAndIndependenceRow.holds Edig.pinned (OpenSpec.ofChange fnNewFileSetFirstFileAndIndependenceWrong)

/-- 'zzlaws_parser_b47.FnAddFileKeepsEarlierFilesAndOrders': WHATEVER THE INPUT: true; the input reads as it did. -/
def fnAddFileKeepsEarlierFilesAndOrdersSpec : ChangeSpec := { name := "fnAddFileKeepsEarlierFilesAndOrders", fn := fun _ => fun
  | [d1, d2, d3] => { results := [.lit (.bool true)], args := [d1, d2, d3] }
  | _ => none }
def fnAddFileKeepsEarlierFilesAndOrdersRow : OpenClaim := { program := "yoediw", sum := "2d7147776b9d67d79341d1b4a0ec33ad7484724304c712a940493e1e2bd709eb", func := "github.com/d5/tengo/v2/zzlaws_parser_b47.FnAddFileKeepsEarlierFilesAndOrders", spec := "fnAddFileKeepsEarlierFilesAndOrders", apart := false }
def FnAddFileKeepsEarlierFilesAndOrdersSaid : Prop := fnAddFileKeepsEarlierFilesAndOrdersRow.holds Edig.pinned (OpenSpec.ofChange fnAddFileKeepsEarlierFilesAndOrdersSpec)

/-- ITS FALSE NEIGHBOUR: 'it returns false'. Refute it at one input. -/
def fnAddFileKeepsEarlierFilesAndOrdersWrong : ChangeSpec := { name := "fnAddFileKeepsEarlierFilesAndOrders", fn := fun _ => fun
  | [d1, d2, d3] => { results := [.lit (.bool false)], args := [d1, d2, d3] }
  | _ => none }
def FnAddFileKeepsEarlierFilesAndOrdersWrongFalsely : Prop := fnAddFileKeepsEarlierFilesAndOrdersRow.holds Edig.pinned (OpenSpec.ofChange fnAddFileKeepsEarlierFilesAndOrdersWrong)

/-- 'zzlaws_parser_b47.FnFileAgreesWithLinearScan': WHATEVER THE INPUT: true; the input reads as it did. -/
def fnFileAgreesWithLinearScanSpec : ChangeSpec := { name := "fnFileAgreesWithLinearScan", fn := fun _ => fun
  | [d1, d2, d3, d4] => { results := [.lit (.bool true)], args := [d1, d2, d3, d4] }
  | _ => none }
def fnFileAgreesWithLinearScanRow : OpenClaim := { program := "yoediw", sum := "2d7147776b9d67d79341d1b4a0ec33ad7484724304c712a940493e1e2bd709eb", func := "github.com/d5/tengo/v2/zzlaws_parser_b47.FnFileAgreesWithLinearScan", spec := "fnFileAgreesWithLinearScan", unfollowed := true, recurses := true, apart := false }
def FnFileAgreesWithLinearScanSaid : Prop := fnFileAgreesWithLinearScanRow.holds Edig.pinned (OpenSpec.ofChange fnFileAgreesWithLinearScanSpec)

/-- ITS FALSE NEIGHBOUR: 'it returns false'. Refute it at one input. -/
def fnFileAgreesWithLinearScanWrong : ChangeSpec := { name := "fnFileAgreesWithLinearScan", fn := fun _ => fun
  | [d1, d2, d3, d4] => { results := [.lit (.bool false)], args := [d1, d2, d3, d4] }
  | _ => none }
def FnFileAgreesWithLinearScanWrongFalsely : Prop := fnFileAgreesWithLinearScanRow.holds Edig.pinned (OpenSpec.ofChange fnFileAgreesWithLinearScanWrong)

/-- 'zzlaws_parser_b47.FnFileSoundAndOrderFree': WHATEVER THE INPUT: true; the input reads as it did. -/
def fnFileSoundAndOrderFreeSpec : ChangeSpec := { name := "fnFileSoundAndOrderFree", fn := fun _ => fun
  | [d1, d2, d3] => { results := [.lit (.bool true)], args := [d1, d2, d3] }
  | _ => none }
def fnFileSoundAndOrderFreeRow : OpenClaim := { program := "yoediw", sum := "2d7147776b9d67d79341d1b4a0ec33ad7484724304c712a940493e1e2bd709eb", func := "github.com/d5/tengo/v2/zzlaws_parser_b47.FnFileSoundAndOrderFree", spec := "fnFileSoundAndOrderFree", unfollowed := true, recurses := true, apart := false }
def FnFileSoundAndOrderFreeSaid : Prop := fnFileSoundAndOrderFreeRow.holds Edig.pinned (OpenSpec.ofChange fnFileSoundAndOrderFreeSpec)

/-- ITS FALSE NEIGHBOUR: 'it returns false'. Refute it at one input. -/
def fnFileSoundAndOrderFreeWrong : ChangeSpec := { name := "fnFileSoundAndOrderFree", fn := fun _ => fun
  | [d1, d2, d3] => { results := [.lit (.bool false)], args := [d1, d2, d3] }
  | _ => none }
def FnFileSoundAndOrderFreeWrongFalsely : Prop := fnFileSoundAndOrderFreeRow.holds Edig.pinned (OpenSpec.ofChange fnFileSoundAndOrderFreeWrong)

end Rows
end Go.Proofs.Yoediw
