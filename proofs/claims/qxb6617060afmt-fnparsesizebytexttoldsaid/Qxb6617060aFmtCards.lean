/-
  DERIVED. GIVEN WITH THE SEED: THE CARDS: each row of Qxb6617060aFmtRows.lean that lists a variable, with what it lists TIED to the program's text (the seventh form; the later family's looks); each row that meets fmt, with fmt's text TOLD by the authors' own Lean function (tested against real Go, not proved from fmt's source: count such statements apart). THE CARD IS WHAT COUNTS. Prove the row's statement (the work); the ties are given (Qxb6617060aFmtTie.lean); close each card by the builder's one call (the guide's Derived/Test/ToyasCard.lean, 'card_holds'). Laid BY PROGRAM, IN A SANDBOX (cutbox-door.mjs). By AI agents, Wed Nov 11 2026. No macro, syntax, notation, axiom, sorry.
-/
import Derived.Test.Qxb6617060aFmtRows
import GoSem.ClaimSeven
namespace Go.Proofs.Qxb6617060aFmt
namespace Rows

/-- THE TOLD AND TIED CARD OF 'zzlaws_y4m_e1.FnParseSizeByText'. -/
def fnParseSizeByTextCard : Claim7 := { stood := { row := fnParseSizeByTextRow, standIns := [], harness := (true, "cd9993f3ef91c0473decc3e2df6f22c6bf402bf49a0bd59ff557fee48dffe753"), looks := true }, told := true, laidByText := true, laidKinds := [.data, .data, .data, .sentinel, .sentinel], laidTests := true, laidLooks := .later, goes := false }
def FnParseSizeByTextToldSaid : Prop := Claim7.holds Tryf.pinned (.plain (OpenSpec.ofChange fnParseSizeByTextSpec)) fnParseSizeByTextCard
/-- ITS FALSE NEIGHBOUR. Refute it at one input. -/
def FnParseSizeByTextToldWrongFalsely : Prop := Claim7.holds Tryf.pinned (.plain (OpenSpec.ofChange fnParseSizeByTextWrong)) fnParseSizeByTextCard

/-- THE TOLD AND TIED CARD OF 'zzlaws_y4m_e1.FnParseSizeAppendDigit'. -/
def fnParseSizeAppendDigitCard : Claim7 := { stood := { row := fnParseSizeAppendDigitRow, standIns := [], harness := (true, "cd9993f3ef91c0473decc3e2df6f22c6bf402bf49a0bd59ff557fee48dffe753"), looks := true }, told := true, laidByText := true, laidKinds := [.data, .data, .data, .sentinel, .sentinel], laidTests := true, laidLooks := .later, goes := false }
def FnParseSizeAppendDigitToldSaid : Prop := Claim7.holds Tryf.pinned (.plain (OpenSpec.ofChange fnParseSizeAppendDigitSpec)) fnParseSizeAppendDigitCard
/-- ITS FALSE NEIGHBOUR. Refute it at one input. -/
def FnParseSizeAppendDigitToldWrongFalsely : Prop := Claim7.holds Tryf.pinned (.plain (OpenSpec.ofChange fnParseSizeAppendDigitWrong)) fnParseSizeAppendDigitCard
end Rows
end Go.Proofs.Qxb6617060aFmt
