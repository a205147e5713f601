/-
  No cell of these rows narrows 'for every input' (looked for: loops, veiled, ifaces, maps, wideKeys, modest, calm, conditions, laid).
  DERIVED. THE GIVEN ROWS OF THIS SEAT. 2 by the template 'for every input the law returns true; each argument reads behind the call as it read before'; 0 by the template 'total and deterministic' (their statements: Qxb6616381aTotals.lean).
  GIVEN WITH THE SEED: the statements are not yours to turn. If you find one false, say at which input.
  Laid BY PROGRAM, IN A SANDBOX (cutbox-rows.mjs): the forced cells as the released guide's own fill.sh prints them over the translation e12e6b997bbc7c47… (all of the seat's roots in one cut). By AI agents, Wed Nov 11 2026. No macro, syntax, notation, axiom, sorry.
-/
import Derived.Test.Qxb6616381aChecked
import GoSem.Claim
import GoSem.ClaimJoined
import GoSem.ClaimMapViews
import Derived.JoinedTies
import Derived.KernelRfl
namespace Go.Proofs.Qxb6616381a
/- THE CELL 'sum', in the pinned program and in every row, IS THE sha256 OF THE DUMP (.gsa) THAT Qxb6616381aProg.lean LOADS. Nothing in Lean hashes anything: it is a label: what it is worth is what the hold of that sum in a sandbox is worth. -/
noncomputable def Try.pinned : Pinned := { name := "qxb6616381a", sum := "e12e6b997bbc7c47a986eb34e6c942b689482a0fcd55b820132a99a46fe9b2d1", checked := Try.checked }
namespace Rows
def none {H : Type} : Left H := { results := [], args := [] }

/-- 'zzlaws_internal_multivalued_b1.FnKeepHoldsFirstMessageOfEachSenderAndPhase': WHATEVER THE INPUT: true; the input reads as it did. -/
def fnKeepHoldsFirstMessageOfEachSenderAndPhaseSpec : ChangeSpec := { name := "fnKeepHoldsFirstMessageOfEachSenderAndPhase", fn := fun _ => fun
  | [d1, d2] => { results := [.lit (.bool true)], args := [d1, d2] }
  | _ => none }
def fnKeepHoldsFirstMessageOfEachSenderAndPhaseRow : OpenClaim := { program := "qxb6616381a", sum := "e12e6b997bbc7c47a986eb34e6c942b689482a0fcd55b820132a99a46fe9b2d1", func := "example.com/parley/parley/zzlaws_internal_multivalued_b1.FnKeepHoldsFirstMessageOfEachSenderAndPhase", spec := "fnKeepHoldsFirstMessageOfEachSenderAndPhase", apart := false }
def FnKeepHoldsFirstMessageOfEachSenderAndPhaseSaid : Prop := fnKeepHoldsFirstMessageOfEachSenderAndPhaseRow.holds Try.pinned (OpenSpec.ofChange fnKeepHoldsFirstMessageOfEachSenderAndPhaseSpec)

/-- ITS FALSE NEIGHBOUR: 'it returns false'. Refute it at one input. -/
def fnKeepHoldsFirstMessageOfEachSenderAndPhaseWrong : ChangeSpec := { name := "fnKeepHoldsFirstMessageOfEachSenderAndPhase", fn := fun _ => fun
  | [d1, d2] => { results := [.lit (.bool false)], args := [d1, d2] }
  | _ => none }
def FnKeepHoldsFirstMessageOfEachSenderAndPhaseWrongFalsely : Prop := fnKeepHoldsFirstMessageOfEachSenderAndPhaseRow.holds Try.pinned (OpenSpec.ofChange fnKeepHoldsFirstMessageOfEachSenderAndPhaseWrong)

/-- 'zzlaws_internal_multivalued_b1.FnKeepReversedScriptHoldsSameSendersLastWins': WHATEVER THE INPUT: true; the input reads as it did. -/
def fnKeepReversedScriptHoldsSameSendersLastWinsSpec : ChangeSpec := { name := "fnKeepReversedScriptHoldsSameSendersLastWins", fn := fun _ => fun
  | [d1, d2] => { results := [.lit (.bool true)], args := [d1, d2] }
  | _ => none }
def fnKeepReversedScriptHoldsSameSendersLastWinsRow : OpenClaim := { program := "qxb6616381a", sum := "e12e6b997bbc7c47a986eb34e6c942b689482a0fcd55b820132a99a46fe9b2d1", func := "example.com/parley/parley/zzlaws_internal_multivalued_b1.FnKeepReversedScriptHoldsSameSendersLastWins", spec := "fnKeepReversedScriptHoldsSameSendersLastWins", apart := false }
def FnKeepReversedScriptHoldsSameSendersLastWinsSaid : Prop := fnKeepReversedScriptHoldsSameSendersLastWinsRow.holds Try.pinned (OpenSpec.ofChange fnKeepReversedScriptHoldsSameSendersLastWinsSpec)

/-- ITS FALSE NEIGHBOUR: 'it returns false'. Refute it at one input. -/
def fnKeepReversedScriptHoldsSameSendersLastWinsWrong : ChangeSpec := { name := "fnKeepReversedScriptHoldsSameSendersLastWins", fn := fun _ => fun
  | [d1, d2] => { results := [.lit (.bool false)], args := [d1, d2] }
  | _ => none }
def FnKeepReversedScriptHoldsSameSendersLastWinsWrongFalsely : Prop := fnKeepReversedScriptHoldsSameSendersLastWinsRow.holds Try.pinned (OpenSpec.ofChange fnKeepReversedScriptHoldsSameSendersLastWinsWrong)

end Rows
end Go.Proofs.Qxb6616381a
