/-
  No cell of these rows narrows 'for every input' (looked for: loops, veiled, ifaces, maps, wideKeys, modest, calm, conditions, laid).
  DERIVED. THE GIVEN ROWS OF THIS SEAT. 2 by the template 'for every input the law returns true; each argument reads behind the call as it read before'; 0 by the template 'total and deterministic' (their statements: YoediwFmtTotals.lean).
  GIVEN WITH THE SEED: the statements are not yours to turn. If you find one false, say at which input.
  Laid BY PROGRAM, IN A SANDBOX (cutbox-rows.mjs): the forced cells as the released guide's own fill.sh prints them over the translation b2d6c7ba17065d59… (all of the seat's roots in one cut). By AI agents, Wed Nov 11 2026. No macro, syntax, notation, axiom, sorry.
-/
import Derived.Test.YoediwFmtChecked
import GoSem.Claim
import GoSem.ClaimJoined
import GoSem.ClaimMapViews
import Derived.JoinedTies
import Derived.KernelRfl
namespace Go.Proofs.YoediwFmt
/- THE CELL 'sum', in the pinned program and in every row, IS THE sha256 OF THE DUMP (.gsa) THAT YoediwFmtProg.lean LOADS. Nothing in Lean hashes anything: it is a label: what it is worth is what the hold of that sum in a sandbox is worth. -/
noncomputable def Edig.pinned : Pinned := { name := "yoediwfmt", sum := "b2d6c7ba17065d59ece661020e256d4432f8b48077cfec64f3afa6415a54d2d9", checked := Edig.checked }
namespace Rows
def none {H : Type} : Left H := { results := [], args := [] }

/-- 'zzlaws_parser_b47.FnSourceFilePosStringCaseTable': WHATEVER THE INPUT: true; the input reads as it did. -/
def fnSourceFilePosStringCaseTableSpec : ChangeSpec := { name := "fnSourceFilePosStringCaseTable", fn := fun _ => fun
  | [d1, d2, d3, d4] => { results := [.lit (.bool true)], args := [d1, d2, d3, d4] }
  | _ => none }
def fnSourceFilePosStringCaseTableRow : OpenClaim := { program := "yoediwfmt", sum := "b2d6c7ba17065d59ece661020e256d4432f8b48077cfec64f3afa6415a54d2d9", func := "github.com/d5/tengo/v2/zzlaws_parser_b47.FnSourceFilePosStringCaseTable", spec := "fnSourceFilePosStringCaseTable", stops := ["fmt.Sprintf"], inPlace := ["fmt.Sprintf"], apart := false }
/-- NO THEOREM (fmt's text is open here; it may be false): for the released tool's asking of the row's closed facts alone. THE STATEMENT IS 'FnSourceFilePosStringCaseTableToldSaid' (YoediwFmtCards.lean). -/
def FnSourceFilePosStringCaseTableFormAsk : Prop := fnSourceFilePosStringCaseTableRow.holds Edig.pinned (OpenSpec.ofChange fnSourceFilePosStringCaseTableSpec)

/-- ITS FALSE NEIGHBOUR: 'it returns false'. Refute it at one input. -/
def fnSourceFilePosStringCaseTableWrong : ChangeSpec := { name := "fnSourceFilePosStringCaseTable", fn := fun _ => fun
  | [d1, d2, d3, d4] => { results := [.lit (.bool false)], args := [d1, d2, d3, d4] }
  | _ => none }
def FnSourceFilePosStringCaseTableWrongFormAsk : Prop := fnSourceFilePosStringCaseTableRow.holds Edig.pinned (OpenSpec.ofChange fnSourceFilePosStringCaseTableWrong)

/-- 'zzlaws_parser_b47.FnSourceFilePosStringIgnoresOffset': WHATEVER THE INPUT: true; the input reads as it did. -/
def fnSourceFilePosStringIgnoresOffsetSpec : ChangeSpec := { name := "fnSourceFilePosStringIgnoresOffset", fn := fun _ => fun
  | [d1, d2, d3, d4, d5, d6] => { results := [.lit (.bool true)], args := [d1, d2, d3, d4, d5, d6] }
  | _ => none }
def fnSourceFilePosStringIgnoresOffsetRow : OpenClaim := { program := "yoediwfmt", sum := "b2d6c7ba17065d59ece661020e256d4432f8b48077cfec64f3afa6415a54d2d9", func := "github.com/d5/tengo/v2/zzlaws_parser_b47.FnSourceFilePosStringIgnoresOffset", spec := "fnSourceFilePosStringIgnoresOffset", stops := ["fmt.Sprintf"], inPlace := ["fmt.Sprintf"], apart := false }
/-- NO THEOREM (fmt's text is open here; it may be false): for the released tool's asking of the row's closed facts alone. THE STATEMENT IS 'FnSourceFilePosStringIgnoresOffsetToldSaid' (YoediwFmtCards.lean). -/
def FnSourceFilePosStringIgnoresOffsetFormAsk : Prop := fnSourceFilePosStringIgnoresOffsetRow.holds Edig.pinned (OpenSpec.ofChange fnSourceFilePosStringIgnoresOffsetSpec)

/-- ITS FALSE NEIGHBOUR: 'it returns false'. Refute it at one input. -/
def fnSourceFilePosStringIgnoresOffsetWrong : ChangeSpec := { name := "fnSourceFilePosStringIgnoresOffset", fn := fun _ => fun
  | [d1, d2, d3, d4, d5, d6] => { results := [.lit (.bool false)], args := [d1, d2, d3, d4, d5, d6] }
  | _ => none }
def FnSourceFilePosStringIgnoresOffsetWrongFormAsk : Prop := fnSourceFilePosStringIgnoresOffsetRow.holds Edig.pinned (OpenSpec.ofChange fnSourceFilePosStringIgnoresOffsetWrong)

end Rows
end Go.Proofs.YoediwFmt
