/-
  DERIVED. GIVEN WITH THE SEED: THE CARDS: each row of Qxb6605758aFmtRows.lean that lists a variable, with what it lists TIED to the program's text (the seventh form; the later family's looks); each row that meets fmt, with fmt's text TOLD by the authors' own Lean function (tested against real Go, not proved from fmt's source: count such statements apart). THE CARD IS WHAT COUNTS. Prove the row's statement (the work); the ties are given (Qxb6605758aFmtTie.lean); close each card by the builder's one call (the guide's Derived/Test/ToyasCard.lean, 'card_holds'). Laid BY PROGRAM, IN A SANDBOX (cutbox-door.mjs). By AI agents, Wed Nov 11 2026. No macro, syntax, notation, axiom, sorry.
-/
import Derived.Test.Qxb6605758aFmtRows
import GoSem.ClaimSeven
namespace Go.Proofs.Qxb6605758aFmt
namespace Rows

/-- THE TOLD CARD OF 'zzlaws_internal_syntax_b1.FnSkipBlanksExact'. -/
def fnSkipBlanksExactCard : Claim7 := { stood := { row := fnSkipBlanksExactRow, standIns := [], harness := (true, "fa6a740edecf0d41ad41a9cd2f75223521d8211c8c7408236ae7f5a5e6a5c83f"), looks := false }, told := true, goes := false }
def FnSkipBlanksExactToldSaid : Prop := Claim7.holds Tryf.pinned (.plain (OpenSpec.ofChange fnSkipBlanksExactSpec)) fnSkipBlanksExactCard
/-- ITS FALSE NEIGHBOUR. Refute it at one input. -/
def FnSkipBlanksExactToldWrongFalsely : Prop := Claim7.holds Tryf.pinned (.plain (OpenSpec.ofChange fnSkipBlanksExactWrong)) fnSkipBlanksExactCard

/-- THE TOLD CARD OF 'zzlaws_internal_syntax_b1.FnSkipBlanksStopsAtTextAndIsIdempotent'. -/
def fnSkipBlanksStopsAtTextAndIsIdempotentCard : Claim7 := { stood := { row := fnSkipBlanksStopsAtTextAndIsIdempotentRow, standIns := [], harness := (true, "fa6a740edecf0d41ad41a9cd2f75223521d8211c8c7408236ae7f5a5e6a5c83f"), looks := false }, told := true, goes := false }
def FnSkipBlanksStopsAtTextAndIsIdempotentToldSaid : Prop := Claim7.holds Tryf.pinned (.plain (OpenSpec.ofChange fnSkipBlanksStopsAtTextAndIsIdempotentSpec)) fnSkipBlanksStopsAtTextAndIsIdempotentCard
/-- ITS FALSE NEIGHBOUR. Refute it at one input. -/
def FnSkipBlanksStopsAtTextAndIsIdempotentToldWrongFalsely : Prop := Claim7.holds Tryf.pinned (.plain (OpenSpec.ofChange fnSkipBlanksStopsAtTextAndIsIdempotentWrong)) fnSkipBlanksStopsAtTextAndIsIdempotentCard
end Rows
end Go.Proofs.Qxb6605758aFmt
