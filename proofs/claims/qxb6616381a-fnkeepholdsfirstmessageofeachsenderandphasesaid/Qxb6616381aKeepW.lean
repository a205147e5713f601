/-
  seat b6616381a: (*Processor).keep: the walks.
-/
import Derived.Test.Qxb6616381aKeep
namespace Go.Proofs.Qxb6616381a
open Go.RowKit Go.Maps Go.WideMaps
set_option linter.unusedVariables false

set_option maxHeartbeats 1600000 in
/-- Of another phase: nothing is kept. -/
theorem keep_phase (p q : Nat) (id ph : Int) (w : World) (q1 : w.cell? ⟨q, 1, none⟩ = some (.int .i64 ph)) (t0 : (ph != 0) = true) (t1 : (ph != 1) = true) :
    Calls Try.prog 13 #[.pointer (some ⟨p, 0, none⟩), .pointer (some ⟨q, 0, none⟩)] w fun e w' => e = .returned (.tuple #[]) ∧ ∃ m, w' = w.drewN m := by
  go_enter Try.func13, Try.ntmps13
  go_wp2
  go_quiet (fail)
  go_wp2
  exact bodyPost_ret (results_none rfl _ _ _) rfl ⟨rfl, _, rfl⟩


set_option maxHeartbeats 1600000 in
theorem keep_low0 (p q : Nat) (id : Int) (w : World) (q0 : w.cell? ⟨q, 0, none⟩ = some (.int .i64 id)) (q1 : w.cell? ⟨q, 1, none⟩ = some (.int .i64 0)) (hid : id < 0) :
    Calls Try.prog 13 #[.pointer (some ⟨p, 0, none⟩), .pointer (some ⟨q, 0, none⟩)] w fun e w' => e = .returned (.tuple #[]) ∧ ∃ m, w' = w.drewN m := by
  have t2 : decide (id < 0) = true := decide_eq_true hid
  go_enter Try.func13, Try.ntmps13
  go_wp2
  go_quiet (fail)
  go_wp2
  exact bodyPost_ret (results_none rfl _ _ _) rfl ⟨rfl, _, rfl⟩

set_option maxHeartbeats 1600000 in
theorem keep_high0 (p q n : Nat) (id : Int) (w : World) (q0 : w.cell? ⟨q, 0, none⟩ = some (.int .i64 id)) (q1 : w.cell? ⟨q, 1, none⟩ = some (.int .i64 0)) (p1 : w.cell? ⟨p, 1, none⟩ = some (.int .i64 n)) (hid : (n : Int) ≤ id) :
    Calls Try.prog 13 #[.pointer (some ⟨p, 0, none⟩), .pointer (some ⟨q, 0, none⟩)] w fun e w' => e = .returned (.tuple #[]) ∧ ∃ m, w' = w.drewN m := by
  have t2 : decide (id < 0) = false := decide_eq_false (by omega)
  have t3 : decide ((n : Int) ≤ id) = true := decide_eq_true hid
  go_enter Try.func13, Try.ntmps13
  go_wp2
  go_quiet (fail)
  go_wp2
  exact bodyPost_ret (results_none rfl _ _ _) rfl ⟨rfl, _, rfl⟩

set_option maxHeartbeats 1600000 in
theorem keep_held0 (p q n h b j x : Nat) (w : World) (q0 : w.cell? ⟨q, 0, none⟩ = some (.int .i64 j)) (q1 : w.cell? ⟨q, 1, none⟩ = some (.int .i64 0)) (p1 : w.cell? ⟨p, 1, none⟩ = some (.int .i64 n)) (hj : j < n)
    (p7 : w.cell? ⟨p, 7, none⟩ = some (.pointer (some ⟨h, 0, none⟩))) (c0 : w.cell? ⟨h, 0, none⟩ = some (.slice (some ⟨b, 0, none⟩) n n)) (bj : w.cell? ⟨b, j, none⟩ = some (.pointer (some ⟨x, 0, none⟩))) :
    Calls Try.prog 13 #[.pointer (some ⟨p, 0, none⟩), .pointer (some ⟨q, 0, none⟩)] w fun e w' => e = .returned (.tuple #[]) ∧ ∃ m, w' = w.drewN m := by
  have t2 : decide ((j : Int) < 0) = false := decide_eq_false (by omega)
  have t3 : decide ((n : Int) ≤ (j : Int)) = false := decide_eq_false (by omega)
  have ij : (j : Int) < (n : Int) := by omega
  go_enter Try.func13, Try.ntmps13
  go_wp2
  go_quiet (fail)
  go_wp2
  exact bodyPost_ret (results_none rfl _ _ _) rfl ⟨rfl, _, rfl⟩

set_option maxHeartbeats 1600000 in
theorem keep_low1 (p q : Nat) (id : Int) (w : World) (q0 : w.cell? ⟨q, 0, none⟩ = some (.int .i64 id)) (q1 : w.cell? ⟨q, 1, none⟩ = some (.int .i64 1)) (hid : id < 0) :
    Calls Try.prog 13 #[.pointer (some ⟨p, 0, none⟩), .pointer (some ⟨q, 0, none⟩)] w fun e w' => e = .returned (.tuple #[]) ∧ ∃ m, w' = w.drewN m := by
  have t2 : decide (id < 0) = true := decide_eq_true hid
  go_enter Try.func13, Try.ntmps13
  go_wp2
  go_quiet (fail)
  go_wp2
  exact bodyPost_ret (results_none rfl _ _ _) rfl ⟨rfl, _, rfl⟩

set_option maxHeartbeats 1600000 in
theorem keep_high1 (p q n : Nat) (id : Int) (w : World) (q0 : w.cell? ⟨q, 0, none⟩ = some (.int .i64 id)) (q1 : w.cell? ⟨q, 1, none⟩ = some (.int .i64 1)) (p1 : w.cell? ⟨p, 1, none⟩ = some (.int .i64 n)) (hid : (n : Int) ≤ id) :
    Calls Try.prog 13 #[.pointer (some ⟨p, 0, none⟩), .pointer (some ⟨q, 0, none⟩)] w fun e w' => e = .returned (.tuple #[]) ∧ ∃ m, w' = w.drewN m := by
  have t2 : decide (id < 0) = false := decide_eq_false (by omega)
  have t3 : decide ((n : Int) ≤ id) = true := decide_eq_true hid
  go_enter Try.func13, Try.ntmps13
  go_wp2
  go_quiet (fail)
  go_wp2
  exact bodyPost_ret (results_none rfl _ _ _) rfl ⟨rfl, _, rfl⟩

set_option maxHeartbeats 1600000 in
theorem keep_held1 (p q n h b j x : Nat) (w : World) (q0 : w.cell? ⟨q, 0, none⟩ = some (.int .i64 j)) (q1 : w.cell? ⟨q, 1, none⟩ = some (.int .i64 1)) (p1 : w.cell? ⟨p, 1, none⟩ = some (.int .i64 n)) (hj : j < n)
    (p7 : w.cell? ⟨p, 8, none⟩ = some (.pointer (some ⟨h, 0, none⟩))) (c0 : w.cell? ⟨h, 0, none⟩ = some (.slice (some ⟨b, 0, none⟩) n n)) (bj : w.cell? ⟨b, j, none⟩ = some (.pointer (some ⟨x, 0, none⟩))) :
    Calls Try.prog 13 #[.pointer (some ⟨p, 0, none⟩), .pointer (some ⟨q, 0, none⟩)] w fun e w' => e = .returned (.tuple #[]) ∧ ∃ m, w' = w.drewN m := by
  have t2 : decide ((j : Int) < 0) = false := decide_eq_false (by omega)
  have t3 : decide ((n : Int) ≤ (j : Int)) = false := decide_eq_false (by omega)
  have ij : (j : Int) < (n : Int) := by omega
  go_enter Try.func13, Try.ntmps13
  go_wp2
  go_quiet (fail)
  go_wp2
  exact bodyPost_ret (results_none rfl _ _ _) rfl ⟨rfl, _, rfl⟩
end Go.Proofs.Qxb6616381a
