/-
  No cell of these rows narrows 'for every input' (looked for: loops, veiled, ifaces, maps, wideKeys, modest, calm, conditions, laid).
  DERIVED. THE GIVEN ROWS OF THIS SEAT. 1 by the template 'for every input the law returns true; each argument reads behind the call as it read before'; 0 by the template 'total and deterministic' (their statements: Qxb6617614aTotals.lean).
  GIVEN WITH THE SEED: the statements are not yours to turn. If you find one false, say at which input.
  Laid BY PROGRAM, IN A SANDBOX (cutbox-rows.mjs): the forced cells as the released guide's own fill.sh prints them over the translation dc683f2fd7850f1c… (all of the seat's roots in one cut). By AI agents, Wed Nov 11 2026. No macro, syntax, notation, axiom, sorry.
-/
import Derived.Test.Qxb6617614aChecked
import GoSem.Claim
import GoSem.ClaimJoined
import GoSem.ClaimMapViews
import Derived.JoinedTies
import Derived.KernelRfl
namespace Go.Proofs.Qxb6617614a
/- THE CELL 'sum', in the pinned program and in every row, IS THE sha256 OF THE DUMP (.gsa) THAT Qxb6617614aProg.lean LOADS. Nothing in Lean hashes anything: it is a label: what it is worth is what the hold of that sum in a sandbox is worth. -/
noncomputable def Try.pinned : Pinned := { name := "qxb6617614a", sum := "dc683f2fd7850f1c130c2aaab07a974a86885993cf71a2df85ae2c3ad7061e7e", checked := Try.checked }
namespace Rows
def none {H : Type} : Left H := { results := [], args := [] }

/-- 'zzlaws_internal_report_b1.FnFieldFirstMatchAndSplit': WHATEVER THE INPUT: true; the input reads as it did. -/
def fnFieldFirstMatchAndSplitSpec : ChangeSpec := { name := "fnFieldFirstMatchAndSplit", fn := fun _ => fun
  | [d1, d2, d3, d4, d5] => { results := [.lit (.bool true)], args := [d1, d2, d3, d4, d5] }
  | _ => none }
def fnFieldFirstMatchAndSplitRow : OpenClaim := { program := "qxb6617614a", sum := "dc683f2fd7850f1c130c2aaab07a974a86885993cf71a2df85ae2c3ad7061e7e", func := "example.com/lockscribe/lockscribe/zzlaws_internal_report_b1.FnFieldFirstMatchAndSplit", spec := "fnFieldFirstMatchAndSplit", apart := false }
def FnFieldFirstMatchAndSplitSaid : Prop := fnFieldFirstMatchAndSplitRow.holds Try.pinned (OpenSpec.ofChange fnFieldFirstMatchAndSplitSpec)

/-- ITS FALSE NEIGHBOUR: 'it returns false'. Refute it at one input. -/
def fnFieldFirstMatchAndSplitWrong : ChangeSpec := { name := "fnFieldFirstMatchAndSplit", fn := fun _ => fun
  | [d1, d2, d3, d4, d5] => { results := [.lit (.bool false)], args := [d1, d2, d3, d4, d5] }
  | _ => none }
def FnFieldFirstMatchAndSplitWrongFalsely : Prop := fnFieldFirstMatchAndSplitRow.holds Try.pinned (OpenSpec.ofChange fnFieldFirstMatchAndSplitWrong)

end Rows
end Go.Proofs.Qxb6617614a
