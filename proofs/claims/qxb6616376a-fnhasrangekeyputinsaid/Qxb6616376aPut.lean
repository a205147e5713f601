/-
  seat b6616376a: the walk of FnHasRangeKeyPutIn.
-/
import Derived.Test.Qxb6616376aQuery
namespace Go.Proofs.Qxb6616376a
open Go.RowKit
set_option linter.unusedVariables false

theorem any_snoc (ks : List ByteArray) (s : ByteArray) : (ks ++ [s]).any isEnd = (ks.any isEnd || isEnd s) := by simp

set_option maxHeartbeats 3200000 in
set_option maxRecDepth 100000 in
theorem put_walk (vk vv : Value) (ks : List ByteArray) (us : List (List ByteArray)) (s : ByteArray) (w : World) (hk : Strs w vk ks) (hv : Vals w vv us) (hs : s.size ≤ maxLen) (hkm : ks.length ≤ maxLen) (hum : us.length ≤ maxLen) (hui : ∀ i, (us.getD i []).length ≤ maxLen) :
    Calls Try.prog 5 #[vk, vv, .string s] w fun e w' => e = .returned (.bool true) ∧ Below w.heap.size w w' := by
  have hs' : s.size ≤ 9223372036854775807 := by unfold maxLen at hs; omega
  go_enter Try.func5, Try.ntmps5
  go_wp2_with fail
  refine (bytes5_any vk vv ks us s w hk hv hs hkm hum hui).mono ?_
  rintro e w' ⟨β, rfl, rfl, hβ⟩
  cases β
  · clear hβ
    go_wp2
    go_ret
    exact ⟨rfl, Below.refl _ _⟩
  obtain ⟨l1, l2, l3⟩ := hβ rfl
  clear hβ hkm hum hui
  have L3 : Hid (∀ i, (us.getD i []).length ≤ 1048576) := l3
  clear l3
  go_wp2_with fail
  refine (strsBytes_any vk ks 0 w hk (by omega) (by omega) l1).mono ?_
  rintro e w' ⟨r1, rfl, g1, g2, rfl⟩
  go_wp2_with fail
  refine (valsBytes_any vv us r1 w hv g1 g2 l2 L3.out).mono ?_
  rintro e w' ⟨r2, rfl, g3, g4, rfl⟩
  go_wp2_with fail
  refine (addLen_any r2 _ w g3 g4 (by omega) (by omega)).mono ?_
  rintro e w' ⟨r3, rfl, g5, g6, rfl⟩
  by_cases hgt : 1048576 < r3
  · go_wp2
    go_ret
    exact ⟨rfl, Below.refl _ _⟩
  go_wp2_with fail
  refine (clone_any vk ks w hk (by omega)).mono ?_
  rintro e w1 ⟨vk1, rfl, hF1, _, b1⟩
  have hk1 := hF1.strs
  have hv1 := hv.below b1
  clear hk hv hF1
  go_wp2_with fail
  refine (cloneVals_any vv us w1 hv1 l2 L3.out).mono ?_
  rintro e w2 ⟨vv2, rfl, hv2, b2⟩
  have hk2 := hk1.below b2
  clear hk1 hv1
  go_wp2_with fail
  refine (scan_any vk1 ks w2 hk2 (by omega)).mono ?_
  rintro e w' ⟨rfl, rfl⟩
  go_wp2_with fail
  refine (build_any vk1 vv2 ks us w2 hk2 hv2 (by omega) l2 L3.out).mono ?_
  rintro e w3 ⟨q, rfl, hq, b3⟩
  have hk3 := hk2.below b3
  have hv3 := hv2.below b3
  clear hk2 hv2
  go_wp2_with fail
  refine (appendOne_any vk1 ks s w3 hk3 l1 hs).mono ?_
  rintro e w4 ⟨vk4, rfl, hF4, _, b4⟩
  have hk4 := hF4.strs
  have hv4 := hv3.below b4
  have hq4 := hq.below b4
  clear hk3 hv3 hF4 hq
  go_wp2_with fail
  refine (build_any vk4 vv2 (ks ++ [s]) us w4 hk4 hv4 (by simp; omega) l2 L3.out).mono ?_
  rintro e w5 ⟨q5, rfl, hq5, b5⟩
  have hq4' := hq4.below b5
  have bb : Below w.heap.size w w5 := b1.trans ((b2.mono b1.size).trans ((b3.mono (Nat.le_trans b1.size b2.size)).trans ((b4.mono (Nat.le_trans b1.size (Nat.le_trans b2.size b3.size))).trans (b5.mono (Nat.le_trans b1.size (Nat.le_trans b2.size (Nat.le_trans b3.size b4.size)))))))
  clear hk4 hv4 hq4 b1 b2 b3 b4 b5 L3 l1 l2 hs hs' g1 g2 g3 g4 g5 g6 hgt
  have HR1 : Hid (Calls Try.prog 18 #[q] w5 fun e w' => e = .returned (.bool (ks.any isEnd)) ∧ w5 = w') := hasRange_any q ks w5 hq4'
  have HR2 : Hid (Calls Try.prog 18 #[q5] w5 fun e w' => e = .returned (.bool (ks.any isEnd || isEnd s)) ∧ w5 = w') := by
    have := hasRange_any q5 _ w5 hq5
    rw [any_snoc] at this
    exact this
  clear hq4' hq5
  generalize ks.any isEnd = A at *
  have HE : Hid (isEnd s = ((s.toList == [98, 101, 103, 105, 110]) || (s.toList == [101, 110, 100]))) := rfl
  cases A <;> cases t1 : s.toList == [98, 101, 103, 105, 110] <;> cases t2 : s.toList == [101, 110, 100]
  all_goals
    go_wp2_with fail
    refine HR1.out.mono ?_
    rintro e w' ⟨rfl, rfl⟩
    go_wp2_with fail
    refine HR2.out.mono ?_
    rintro e w' ⟨rfl, rfl⟩
    rw [HE.out, t1, t2]
    go_wp2
    go_ret
    exact ⟨rfl, bb⟩
end Go.Proofs.Qxb6616376a
