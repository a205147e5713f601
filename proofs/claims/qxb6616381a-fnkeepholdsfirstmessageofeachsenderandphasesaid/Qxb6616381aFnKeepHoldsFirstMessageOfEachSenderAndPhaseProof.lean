/-
  seat b6616381a: 'Rows.FnKeepHoldsFirstMessageOfEachSenderAndPhaseSaid'. The frame is the guide's own way for a law over slices, typed by hand for a slice of structs.
-/
import Derived.Test.Qxb6616381aRows
import Derived.Test.Qxb6616381aFirst
import Derived.Test.Qxb6616381aTrivF
import Derived.Test.Qxb6616381aOpen
namespace Go.Proofs.Qxb6616381a.fnKeepHoldsFirstMessageOfEachSenderAndPhase
open Go.ChangeShapes Go.WideShapes Go.ChangeAt Go.RowKit
set_option linter.unusedVariables false

theorem walk (n : Int) (a : Option Addr) (cap : Nat) (ms : List Msg) (w : World) (hv : Script w a ms) (hl : ms.length ≤ maxLen) :
    Calls Try.prog 3 #[.int .i64 n, .slice a ms.length cap] w fun e w' => e = .returned (.bool true) ∧ Below w.heap.size w w' := by
  by_cases h : n < 0 ∨ 65536 < n ∨ 65536 < ms.length
  · exact first_out n a cap ms w hv hl h
  · obtain ⟨m, rfl⟩ : ∃ m : Nat, n = m := ⟨n.toNat, by omega⟩
    exact first_walk m a cap ms w (by omega) hv (by omega)

set_option maxRecDepth 100000 in
theorem lifted (os : Os) (started : os.Started) (H : Type) (enc : TypeId × Value → H) :
    ReturnsInHanded {} Try.checked os 3 .any (Rows.fnKeepHoldsFirstMessageOfEachSenderAndPhaseSpec.pre6 enc Try.prog Try.f3 Rows.fnKeepHoldsFirstMessageOfEachSenderAndPhaseRow.domain false) (Rows.fnKeepHoldsFirstMessageOfEachSenderAndPhaseSpec.post enc Try.prog Try.f3 false true false false) := by
  refine returnsInHanded_of_change (C := Try.checked) own started (by kernel_rfl) Try.func3
    (ChangeSpec.witness6 (enc := enc) (C := Try.checked) false ⟨#[], #[.int .i64 0, .slice none 0 0], []⟩ 8 (by kernel_rfl) (by kernel_rfl) (by kernel_rfl) (by kernel_rfl)) ?_
  intro W base args ds gs before hval0 hW hcnd _
  have hval : ∀ (j : Nat) t v, Try.f3.params[j]? = some t → args[j]? = some v → Value.okWide Try.prog W .any base t v := hval0
  have hW' := hW
  obtain ⟨p, q, hA0, hV, rfl, hfz, hnd⟩ := hW
  have hA : DataW.TrodAll enc Try.prog W 0 (fun _ => true) true Try.f3.params.toList args.toList ds p := hA0
  rw [Try.params3] at hA hval
  obtain ⟨v0, vs0, d0, ds0, p0, q0, hargs, rfl, rfl, h0, r0⟩ := trodAll_cons hA
  obtain ⟨v1, vs1, d1, ds1, p1, q1, rfl, rfl, rfl, h1, r1⟩ := trodAll_cons r0
  obtain ⟨rfl, rfl, rfl⟩ := trodAll_nil r1
  obtain rfl : args = #[v0, v1] := by cases args; simp_all
  obtain ⟨rfl, rfl⟩ := trodVars_none hV
  obtain ⟨a0, rfl, rfl, rfl, w0⟩ := open_int Try.underlying3 (hval 0 3 v0 rfl rfl) h0
  obtain ⟨a1, len1, cap1, rfl⟩ := okWide_slice Try.underlying22 (hval 1 22 v1 rfl rfl)
  have k1 := h1
  have lt1 : ∀ x ∈ p1, x.block < W.heap.size := by obtain ⟨m, hm⟩ := k1; exact DataW.trod_lt m _ _ _ hm
  obtain ⟨ms, a, cap, hv, hs, hl⟩ : ∃ (ms : List Msg) (a : Option Addr) (cap : Nat), (.slice a1 len1 cap1 : Value) = .slice a ms.length cap ∧ Script W a ms ∧ ms.length ≤ maxLen := by
    obtain ⟨fuel, hf⟩ := h1
    exact script_of (by simpa [Value.cells] using hf)
  cases hv
  clear hA0 hval0
  refine (walk a0 _ _ ms W hs hl).mono fun e W' ⟨he, bel⟩ => ?_
  subst he
  exact ⟨_, rfl, _, _, _, [], _, [], hW', trodAll_mk1 (shut_bool Try.underlying4 _), (trodAll_cons_mk (shut_int Try.underlying3 w0) (trodAll_cons_mk (Below.trod laidOut (by kernel_rfl) (of_decide_eq_true (by kernel_rfl)) k1 bel lt1) trodAll_mk0)), rfl, bel.frame _, fun h => by cases h⟩

theorem over : Rows.fnKeepHoldsFirstMessageOfEachSenderAndPhaseRow.holds Try.pinned (OpenSpec.ofChange Rows.fnKeepHoldsFirstMessageOfEachSenderAndPhaseSpec) :=
  OpenClaim.holds_of_wide 3 Try.f3 rfl rfl rfl rfl rfl rfl rfl ⟨rfl, rfl, rfl, rfl, rfl⟩ rfl rfl rfl rfl rfl (by kernel_rfl) Try.func3 (by kernel_rfl)
    (of_decide_eq_true (by kernel_rfl)) (by unfold Func.isWrapper; first | (rw [if_pos (by decide +kernel)]; kernel_rfl) | (rw [if_neg (by decide +kernel)]; exact ⟨rfl, rfl⟩))
    (fun os started H enc _ => lifted os started H enc)

/-- THE STATEMENT -/
theorem proved : Rows.FnKeepHoldsFirstMessageOfEachSenderAndPhaseSaid := over
end Go.Proofs.Qxb6616381a.fnKeepHoldsFirstMessageOfEachSenderAndPhase
