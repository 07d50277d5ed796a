/-
  No cell of these rows narrows 'for every input' (looked for: loops, veiled, ifaces, maps, wideKeys, modest, calm, conditions, laid).
  DERIVED. THE GIVEN ROWS OF THIS SEAT. 2 by the template 'for every input the law returns true; each argument reads behind the call as it read before'; 0 by the template 'total and deterministic' (their statements: Qxb6605758aFmtTotals.lean).
  GIVEN WITH THE SEED: the statements are not yours to turn. If you find one false, say at which input.
  Laid BY PROGRAM, IN A SANDBOX (cutbox-rows.mjs): the forced cells as the released guide's own fill.sh prints them over the translation 9215722f914b8886… (all of the seat's roots in one cut). By AI agents, Wed Nov 11 2026. No macro, syntax, notation, axiom, sorry.
-/
import Derived.Test.Qxb6605758aFmtChecked
import GoSem.Claim
import GoSem.ClaimJoined
import GoSem.ClaimMapViews
import Derived.JoinedTies
import Derived.KernelRfl
namespace Go.Proofs.Qxb6605758aFmt
/- THE CELL 'sum', in the pinned program and in every row, IS THE sha256 OF THE DUMP (.gsa) THAT Qxb6605758aFmtProg.lean LOADS. Nothing in Lean hashes anything: it is a label: what it is worth is what the hold of that sum in a sandbox is worth. -/
noncomputable def Tryf.pinned : Pinned := { name := "qxb6605758afmt", sum := "9215722f914b88866761ac92d60920d0f00e2157bd818266015a0c3d71554523", checked := Tryf.checked }
namespace Rows
def none {H : Type} : Left H := { results := [], args := [] }

/-- 'zzlaws_internal_syntax_b1.FnSkipBlanksExact': WHATEVER THE INPUT: true; the input reads as it did. -/
def fnSkipBlanksExactSpec : ChangeSpec := { name := "fnSkipBlanksExact", fn := fun _ => fun
  | [d1, d2, d3, d4] => { results := [.lit (.bool true)], args := [d1, d2, d3, d4] }
  | _ => none }
def fnSkipBlanksExactRow : OpenClaim := { program := "qxb6605758afmt", sum := "9215722f914b88866761ac92d60920d0f00e2157bd818266015a0c3d71554523", func := "example.com/railyard/railyard/zzlaws_internal_syntax_b1.FnSkipBlanksExact", spec := "fnSkipBlanksExact", stops := ["fmt.Sprintf, its operands' methods called"], inPlace := ["fmt.Sprintf"], unfollowed := true, recurses := true, apart := false }
/-- NO THEOREM (fmt's text is open here; it may be false): for the released tool's asking of the row's closed facts alone. THE STATEMENT IS 'FnSkipBlanksExactToldSaid' (Qxb6605758aFmtCards.lean). -/
def FnSkipBlanksExactFormAsk : Prop := fnSkipBlanksExactRow.holds Tryf.pinned (OpenSpec.ofChange fnSkipBlanksExactSpec)

/-- ITS FALSE NEIGHBOUR: 'it returns false'. Refute it at one input. -/
def fnSkipBlanksExactWrong : ChangeSpec := { name := "fnSkipBlanksExact", fn := fun _ => fun
  | [d1, d2, d3, d4] => { results := [.lit (.bool false)], args := [d1, d2, d3, d4] }
  | _ => none }
def FnSkipBlanksExactWrongFormAsk : Prop := fnSkipBlanksExactRow.holds Tryf.pinned (OpenSpec.ofChange fnSkipBlanksExactWrong)

/-- 'zzlaws_internal_syntax_b1.FnSkipBlanksStopsAtTextAndIsIdempotent': WHATEVER THE INPUT: true; the input reads as it did. -/
def fnSkipBlanksStopsAtTextAndIsIdempotentSpec : ChangeSpec := { name := "fnSkipBlanksStopsAtTextAndIsIdempotent", fn := fun _ => fun
  | [d1, d2, d3, d4] => { results := [.lit (.bool true)], args := [d1, d2, d3, d4] }
  | _ => none }
def fnSkipBlanksStopsAtTextAndIsIdempotentRow : OpenClaim := { program := "qxb6605758afmt", sum := "9215722f914b88866761ac92d60920d0f00e2157bd818266015a0c3d71554523", func := "example.com/railyard/railyard/zzlaws_internal_syntax_b1.FnSkipBlanksStopsAtTextAndIsIdempotent", spec := "fnSkipBlanksStopsAtTextAndIsIdempotent", stops := ["fmt.Sprintf, its operands' methods called"], inPlace := ["fmt.Sprintf"], unfollowed := true, recurses := true, apart := false }
/-- NO THEOREM (fmt's text is open here; it may be false): for the released tool's asking of the row's closed facts alone. THE STATEMENT IS 'FnSkipBlanksStopsAtTextAndIsIdempotentToldSaid' (Qxb6605758aFmtCards.lean). -/
def FnSkipBlanksStopsAtTextAndIsIdempotentFormAsk : Prop := fnSkipBlanksStopsAtTextAndIsIdempotentRow.holds Tryf.pinned (OpenSpec.ofChange fnSkipBlanksStopsAtTextAndIsIdempotentSpec)

/-- ITS FALSE NEIGHBOUR: 'it returns false'. Refute it at one input. -/
def fnSkipBlanksStopsAtTextAndIsIdempotentWrong : ChangeSpec := { name := "fnSkipBlanksStopsAtTextAndIsIdempotent", fn := fun _ => fun
  | [d1, d2, d3, d4] => { results := [.lit (.bool false)], args := [d1, d2, d3, d4] }
  | _ => none }
def FnSkipBlanksStopsAtTextAndIsIdempotentWrongFormAsk : Prop := fnSkipBlanksStopsAtTextAndIsIdempotentRow.holds Tryf.pinned (OpenSpec.ofChange fnSkipBlanksStopsAtTextAndIsIdempotentWrong)

end Rows
end Go.Proofs.Qxb6605758aFmt
