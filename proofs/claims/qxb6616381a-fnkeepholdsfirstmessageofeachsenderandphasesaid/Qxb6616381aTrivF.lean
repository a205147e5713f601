/-
  seat b6616381a: the first law, its early ways out.
-/
import Derived.Test.Qxb6616381aMsgs
namespace Go.Proofs.Qxb6616381a
open Go.RowKit Go.Maps Go.WideMaps
set_option linter.unusedVariables false

set_option maxHeartbeats 1600000 in
set_option maxRecDepth 100000 in
theorem first_out (n : Int) (a : Option Addr) (cap : Nat) (ms : List Msg) (w : World) (hv : Script w a ms) (hl : ms.length ≤ maxLen) (hn : n < 0 ∨ 65536 < n ∨ 65536 < ms.length) :
    Calls Try.prog 3 #[.int .i64 n, .slice a ms.length cap] w fun e w' => e = .returned (.bool true) ∧ Below w.heap.size w w' := by
  have HC : Hid (Calls Try.prog 5 #[.int .i64 n, .slice a ms.length cap] w fun e w' => Counted ms w e w') := bytes3_any n a cap ms w hv hl
  clear hv
  unfold maxLen at hl
  by_cases h0 : n < 0
  · go_enter Try.func3, Try.ntmps3
    go_wp2_with fail
    refine HC.out.mono ?_
    rintro e w' ⟨β, rfl, rfl, hβ⟩
    clear hβ
    cases β
    · go_wp2
      go_ret
      exact ⟨rfl, Below.refl _ _⟩
    · go_wp2
      go_ret
      exact ⟨rfl, Below.refl _ _⟩
  have d0 : decide (n < 0) = false := decide_eq_false h0
  by_cases h1 : 65536 < n
  · go_enter Try.func3, Try.ntmps3
    go_wp2_with fail
    refine HC.out.mono ?_
    rintro e w' ⟨β, rfl, rfl, hβ⟩
    clear hβ
    cases β
    · go_wp2
      go_ret
      exact ⟨rfl, Below.refl _ _⟩
    · go_wp2
      go_ret
      exact ⟨rfl, Below.refl _ _⟩
  have d1 : decide (65536 < n) = false := decide_eq_false h1
  have h2 : 65536 < ms.length := by omega
  go_enter Try.func3, Try.ntmps3
  go_wp2_with fail
  refine HC.out.mono ?_
  rintro e w' ⟨β, rfl, rfl, hβ⟩
  clear hβ
  cases β
  · go_wp2
    go_ret
    exact ⟨rfl, Below.refl _ _⟩
  · go_wp2
    go_ret
    exact ⟨rfl, Below.refl _ _⟩
end Go.Proofs.Qxb6616381a
