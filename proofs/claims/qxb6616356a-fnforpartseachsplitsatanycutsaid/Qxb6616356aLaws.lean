/-
  seat b6616356a: the walks of the two laws.
-/
import Derived.Test.Qxb6616356aMake
namespace Go.Proofs.Qxb6616356a
open Go.RowKit

theorem bytes5_ok (a0 a1 : Int) (a : Option Addr) (n cap : Nat) (w : World) (h : n ≤ 131072) : Calls Try.prog 13 #[.int .i64 a0, .int .i64 a1, .slice a n cap] w fun e w' => e = .returned (.bool true) ∧ w = w' := by
  go_enter Try.func13, Try.ntmps13
  go_wp2
  go_ret
  exact ⟨rfl, rfl⟩

/-- A slice with a first element. -/
theorem Reads.cons {w : World} {v : Value} {x : Int} {xs : List Int} (h : Reads w v (x :: xs)) : ∃ b off cap, v = .slice (some ⟨b, off, none⟩) (xs.length + 1) cap ∧ b < w.heap.size ∧ w.cell? ⟨b, off, none⟩ = some (.int .i64 x) := by
  obtain ⟨a, cap, rfl, h⟩ := h
  obtain ⟨b, off, rfl, hlt, hc⟩ := h.resolve_left (by simp)
  exact ⟨b, off, cap, rfl, hlt, by simpa using hc 0 (by simp)⟩
theorem Reads.cons2 {w : World} {v : Value} {x y : Int} {xs : List Int} (h : Reads w v (x :: y :: xs)) : ∃ b off cap, v = .slice (some ⟨b, off, none⟩) (xs.length + 1 + 1) cap ∧ b < w.heap.size ∧ w.cell? ⟨b, off, none⟩ = some (.int .i64 x) ∧ w.cell? ⟨b, off + 1, none⟩ = some (.int .i64 y) := by
  obtain ⟨a, cap, rfl, h⟩ := h
  obtain ⟨b, off, rfl, hlt, hc⟩ := h.resolve_left (by simp)
  exact ⟨b, off, cap, rfl, hlt, by simpa using hc 0 (by simp), by simpa using hc 1 (by simp)⟩
theorem Reads.drewN {w : World} {v : Value} {xs : List Int} (h : Reads w v xs) (n : Nat) : Reads (w.drewN n) v xs := h.below (below_drewN (Below.refl _ _) n)

set_option maxHeartbeats 1600000 in
set_option maxRecDepth 100000 in
theorem first_walk (a0 a1 : Int) (va : Value) (us : List Int) (w : World) (hus : Reads w va us) (hm : us.length ≤ maxLen) :
    Calls Try.prog 5 #[.int .i64 a0, .int .i64 a1, va] w fun e w' => e = .returned (.bool true) ∧ Below w.heap.size w w' := by
  unfold maxLen at hm
  have hus0 := hus
  obtain ⟨a, cap, hva, _⟩ := hus0
  by_cases h1 : us.length ≤ 131072
  · subst hva
    go_enter Try.func5, Try.ntmps5
    go_wp2_with fail
    refine (bytes5_ok a0 a1 a us.length cap w h1).mono ?_
    rintro e w' ⟨rfl, rfl⟩
    go_wp2_with fail
    refine (visits_any false 0 false 0 _ us w hus (by omega)).mono ?_
    rintro e w1 ⟨v1, rfl, r1, b1⟩
    go_wp2_with fail
    refine (visits_any false 0 true a1 _ us w1 (hus.below b1) (by omega)).mono ?_
    rintro e w2 ⟨v2, rfl, r2, b2⟩
    go_wp2_with fail
    refine (visits_any true a0 false 0 _ us w2 ((hus.below b1).below b2) (by omega)).mono ?_
    rintro e w3 ⟨v3, rfl, r3, b3⟩
    go_wp2_with fail
    refine (visits_any true a0 true a1 _ us w3 (((hus.below b1).below b2).below b3) (by omega)).mono ?_
    rintro e w4 ⟨v4, rfl, r4, b4⟩
    have hus4 := (((hus.below b1).below b2).below b3).below b4
    have r1 := ((r1.below b2).below b3).below b4
    have r2 := (r2.below b3).below b4
    have r3 := r3.below b4
    have bb : Below w.heap.size w w4 := b1.trans ((b2.mono b1.size).trans ((b3.mono (Nat.le_trans b1.size b2.size)).trans (b4.mono (Nat.le_trans b1.size (Nat.le_trans b2.size b3.size)))))
    clear b1 b2 b3 b4 hus
    simp only [vis, Bool.false_eq_true, if_false, if_true, List.nil_append, List.append_nil, List.cons_append] at r1 r2 r3 r4
    obtain ⟨g2, o2, k2, rfl, hl2, c2⟩ := r2.cons
    obtain ⟨g3, o3, k3, rfl, hl3, c3⟩ := r3.cons
    obtain ⟨g4, o4, k4, rfl, hl4, c4, c4'⟩ := r4.cons2
    go_wp2_with fail
    refine (sameAt_true v1 _ [] us 0 rfl w4 (by simp; omega) r1 hus4).mono ?_
    rintro e w5 ⟨rfl, n5, rfl⟩
    go_wp2_with fail
    refine (sameAt_true _ v1 [a1] us 1 rfl _ (by simp; omega) (r2.drewN n5) (r1.drewN n5)).mono ?_
    rintro e w6 ⟨rfl, n6, rfl⟩
    go_wp2_with fail
    refine (sameAt_true _ v1 [a0] us 1 rfl _ (by simp; omega) (r3.drewN (n5 + n6)) (r1.drewN (n5 + n6))).mono ?_
    rintro e w7 ⟨rfl, n7, rfl⟩
    go_wp2_with fail
    refine (sameAt_true _ v1 [a0, a1] us 2 rfl _ (by simp; omega) (r4.drewN (n5 + n6 + n7)) (r1.drewN (n5 + n6 + n7))).mono ?_
    rintro e w8 ⟨rfl, n8, rfl⟩
    go_wp2
    go_ret
    exact ⟨rfl, below_drewN bb _⟩
  · by_cases h2 : us.length ≤ 1048576
    · subst hva
      go_enter Try.func5, Try.ntmps5
      go_wp2
      go_ret
      exact ⟨rfl, Below.refl _ _⟩
    · subst hva
      go_enter Try.func5, Try.ntmps5
      go_wp2
      go_ret
      exact ⟨rfl, Below.refl _ _⟩

end Go.Proofs.Qxb6616356a
