/-
  DERIVED. GIVEN WITH THE SEED: THE CARDS: each row of YoediwFmtRows.lean that lists a variable, with what it lists TIED to the program's text (the seventh form; the later family's looks); each row that meets fmt, with fmt's text TOLD by the authors' own Lean function (tested against real Go, not proved from fmt's source: count such statements apart). THE CARD IS WHAT COUNTS. Prove the row's statement (the work); the ties are given (YoediwFmtTie.lean); close each card by the builder's one call (the guide's Derived/Test/ToyasCard.lean, 'card_holds'). Laid BY PROGRAM, IN A SANDBOX (cutbox-door.mjs). By AI agents, Wed Nov 11 2026. No macro, syntax, notation, axiom, sorry.
-/
import Derived.Test.YoediwFmtRows
import GoSem.ClaimSeven
namespace Go.Proofs.YoediwFmt
namespace Rows

/-- THE TOLD CARD OF 'zzlaws_parser_b47.FnSourceFilePosStringCaseTable'. -/
def fnSourceFilePosStringCaseTableCard : Claim7 := { stood := { row := fnSourceFilePosStringCaseTableRow, standIns := [], harness := (true, "b16376f454dd081ea4d74ad23c2888c13127dccb572369e34e898d592c14e5f0"), looks := false }, told := true, goes := false }
def FnSourceFilePosStringCaseTableToldSaid : Prop := Claim7.holds Edig.pinned (.plain (OpenSpec.ofChange fnSourceFilePosStringCaseTableSpec)) fnSourceFilePosStringCaseTableCard
/-- ITS FALSE NEIGHBOUR. Refute it at one input. -/
def FnSourceFilePosStringCaseTableToldWrongFalsely : Prop := Claim7.holds Edig.pinned (.plain (OpenSpec.ofChange fnSourceFilePosStringCaseTableWrong)) fnSourceFilePosStringCaseTableCard

/-- THE TOLD CARD OF 'zzlaws_parser_b47.FnSourceFilePosStringIgnoresOffset'. -/
def fnSourceFilePosStringIgnoresOffsetCard : Claim7 := { stood := { row := fnSourceFilePosStringIgnoresOffsetRow, standIns := [], harness := (true, "b16376f454dd081ea4d74ad23c2888c13127dccb572369e34e898d592c14e5f0"), looks := false }, told := true, goes := false }
def FnSourceFilePosStringIgnoresOffsetToldSaid : Prop := Claim7.holds Edig.pinned (.plain (OpenSpec.ofChange fnSourceFilePosStringIgnoresOffsetSpec)) fnSourceFilePosStringIgnoresOffsetCard
/-- ITS FALSE NEIGHBOUR. Refute it at one input. -/
def FnSourceFilePosStringIgnoresOffsetToldWrongFalsely : Prop := Claim7.holds Edig.pinned (.plain (OpenSpec.ofChange fnSourceFilePosStringIgnoresOffsetWrong)) fnSourceFilePosStringIgnoresOffsetCard
end Rows
end Go.Proofs.YoediwFmt
