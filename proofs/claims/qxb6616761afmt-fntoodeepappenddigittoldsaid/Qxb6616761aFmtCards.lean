/-
  DERIVED. GIVEN WITH THE SEED: THE CARDS: each row of Qxb6616761aFmtRows.lean that lists a variable, with what it lists TIED to the program's text (the seventh form; the later family's looks); each row that meets fmt, with fmt's text TOLD by the authors' own Lean function (tested against real Go, not proved from fmt's source: count such statements apart). THE CARD IS WHAT COUNTS. Prove the row's statement (the work); the ties are given (Qxb6616761aFmtTie.lean); close each card by the builder's one call (the guide's Derived/Test/ToyasCard.lean, 'card_holds'). Laid BY PROGRAM, IN A SANDBOX (cutbox-door.mjs). By AI agents, Wed Nov 11 2026. No macro, syntax, notation, axiom, sorry.
-/
import Derived.Test.Qxb6616761aFmtRows
import GoSem.ClaimSeven
namespace Go.Proofs.Qxb6616761aFmt
namespace Rows

/-- THE TOLD CARD OF 'zzlaws_root_b1.FnTooDeepExactAndInjective'. -/
def fnTooDeepExactAndInjectiveCard : Claim7 := { stood := { row := fnTooDeepExactAndInjectiveRow, standIns := [], harness := (true, "5f4f6519fc8b45f67c0277b76568736d7145fdb89849a61ba5a9283200653929"), looks := false }, told := true, goes := false }
def FnTooDeepExactAndInjectiveToldSaid : Prop := Claim7.holds Tryf.pinned (.plain (OpenSpec.ofChange fnTooDeepExactAndInjectiveSpec)) fnTooDeepExactAndInjectiveCard
/-- ITS FALSE NEIGHBOUR. Refute it at one input. -/
def FnTooDeepExactAndInjectiveToldWrongFalsely : Prop := Claim7.holds Tryf.pinned (.plain (OpenSpec.ofChange fnTooDeepExactAndInjectiveWrong)) fnTooDeepExactAndInjectiveCard

/-- THE TOLD CARD OF 'zzlaws_root_b1.FnTooDeepAppendDigit'. -/
def fnTooDeepAppendDigitCard : Claim7 := { stood := { row := fnTooDeepAppendDigitRow, standIns := [], harness := (true, "5f4f6519fc8b45f67c0277b76568736d7145fdb89849a61ba5a9283200653929"), looks := false }, told := true, goes := false }
def FnTooDeepAppendDigitToldSaid : Prop := Claim7.holds Tryf.pinned (.plain (OpenSpec.ofChange fnTooDeepAppendDigitSpec)) fnTooDeepAppendDigitCard
/-- ITS FALSE NEIGHBOUR. Refute it at one input. -/
def FnTooDeepAppendDigitToldWrongFalsely : Prop := Claim7.holds Tryf.pinned (.plain (OpenSpec.ofChange fnTooDeepAppendDigitWrong)) fnTooDeepAppendDigitCard
end Rows
end Go.Proofs.Qxb6616761aFmt
