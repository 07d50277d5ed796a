/-
  No cell of these rows narrows 'for every input' (looked for: loops, veiled, ifaces, maps, wideKeys, modest, calm, conditions, laid).
  DERIVED. THE GIVEN ROWS OF THIS SEAT. 1 by the template 'for every input the law returns true; each argument reads behind the call as it read before'; 0 by the template 'total and deterministic' (their statements: Qxb6605758aTotals.lean).
  GIVEN WITH THE SEED: the statements are not yours to turn. If you find one false, say at which input.
  Laid BY PROGRAM, IN A SANDBOX (cutbox-rows.mjs): the forced cells as the released guide's own fill.sh prints them over the translation ece77368b8131768… (all of the seat's roots in one cut). By AI agents, Wed Nov 11 2026. No macro, syntax, notation, axiom, sorry.
-/
import Derived.Test.Qxb6605758aChecked
import GoSem.Claim
import GoSem.ClaimJoined
import GoSem.ClaimMapViews
import Derived.JoinedTies
import Derived.KernelRfl
namespace Go.Proofs.Qxb6605758a
/- THE CELL 'sum', in the pinned program and in every row, IS THE sha256 OF THE DUMP (.gsa) THAT Qxb6605758aProg.lean LOADS. Nothing in Lean hashes anything: it is a label: what it is worth is what the hold of that sum in a sandbox is worth. -/
noncomputable def Try.pinned : Pinned := { name := "qxb6605758a", sum := "ece77368b81317687bf7df9c288eaa6ba7429c378615c6604d9a62655ea051ab", checked := Try.checked }
namespace Rows
def none {H : Type} : Left H := { results := [], args := [] }

/-- 'zzlaws_internal_syntax_b1.FnArgPosValueCountsOnlyWithoutName': WHATEVER THE INPUT: true; the input reads as it did. -/
def fnArgPosValueCountsOnlyWithoutNameSpec : ChangeSpec := { name := "fnArgPosValueCountsOnlyWithoutName", fn := fun _ => fun
  | [d1, d2, d3, d4, d5, d6, d7] => { results := [.lit (.bool true)], args := [d1, d2, d3, d4, d5, d6, d7] }
  | _ => none }
def fnArgPosValueCountsOnlyWithoutNameRow : OpenClaim := { program := "qxb6605758a", sum := "ece77368b81317687bf7df9c288eaa6ba7429c378615c6604d9a62655ea051ab", func := "example.com/railyard/railyard/zzlaws_internal_syntax_b1.FnArgPosValueCountsOnlyWithoutName", spec := "fnArgPosValueCountsOnlyWithoutName", unfollowed := true, recurses := true, apart := false }
def FnArgPosValueCountsOnlyWithoutNameSaid : Prop := fnArgPosValueCountsOnlyWithoutNameRow.holds Try.pinned (OpenSpec.ofChange fnArgPosValueCountsOnlyWithoutNameSpec)

/-- ITS FALSE NEIGHBOUR: 'it returns false'. Refute it at one input. -/
def fnArgPosValueCountsOnlyWithoutNameWrong : ChangeSpec := { name := "fnArgPosValueCountsOnlyWithoutName", fn := fun _ => fun
  | [d1, d2, d3, d4, d5, d6, d7] => { results := [.lit (.bool false)], args := [d1, d2, d3, d4, d5, d6, d7] }
  | _ => none }
def FnArgPosValueCountsOnlyWithoutNameWrongFalsely : Prop := fnArgPosValueCountsOnlyWithoutNameRow.holds Try.pinned (OpenSpec.ofChange fnArgPosValueCountsOnlyWithoutNameWrong)

end Rows
end Go.Proofs.Qxb6605758a
