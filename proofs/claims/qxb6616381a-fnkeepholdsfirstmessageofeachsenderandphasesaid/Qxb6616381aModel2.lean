/-
  seat b6616381a: the plain model, more: how often, and where last, a script names a phase and a sender. No program, no Go.
-/
import Derived.Test.Qxb6616381aModel
namespace Go.Proofs.Qxb6616381a
set_option linter.unusedVariables false

def zeroM : Msg := ⟨0, 0, ByteArray.empty⟩
def occ (ms : List Msg) (ph j : Nat) : Nat → Nat
  | 0 => 0
  | k + 1 => occ ms ph j k + if (ms.getD k zeroM).hits ph j then 1 else 0
def lastI (ms : List Msg) (ph j : Nat) : Nat → Nat
  | 0 => 0
  | k + 1 => if (ms.getD k zeroM).hits ph j then k else lastI ms ph j k

theorem occ_succ (ms : List Msg) (ph j k : Nat) : occ ms ph j (k + 1) = occ ms ph j k + if (ms.getD k zeroM).hits ph j then 1 else 0 := rfl
theorem lastI_succ (ms : List Msg) (ph j k : Nat) : lastI ms ph j (k + 1) = if (ms.getD k zeroM).hits ph j then k else lastI ms ph j k := rfl

theorem occ_le (ms : List Msg) (ph j k : Nat) : occ ms ph j k ≤ k := by
  induction k with
  | zero => exact Nat.le_refl _
  | succ k ih => unfold occ; split <;> omega
theorem lastI_lt (ms : List Msg) (ph j k : Nat) (h : 0 < occ ms ph j k) : lastI ms ph j k < k := by
  induction k with
  | zero => simp [occ] at h
  | succ k ih =>
    unfold occ at h
    unfold lastI
    split
    · omega
    · rename_i hh
      rw [if_neg hh] at h
      have := ih (by omega)
      omega
theorem lastI_le (ms : List Msg) (ph j k : Nat) : lastI ms ph j k ≤ k := by
  induction k with
  | zero => exact Nat.le_refl _
  | succ k ih => unfold lastI; split <;> omega

theorem take_snoc (ms : List Msg) (k : Nat) (h : k < ms.length) : ms.take (k + 1) = ms.take k ++ [ms.getD k zeroM] := by
  rw [List.take_add_one, List.getElem?_eq_getElem h]; simp [h]

/-- Held just where it has been named. -/
theorem hold_occ {n : Nat} (ms : List Msg) (ph j : Nat) (hj : j < n) : ∀ k, k ≤ ms.length → (holdOf n (ms.take k) ph j).isSome = decide (0 < occ ms ph j k)
  | 0, _ => by simp [holdOf, occ]
  | k + 1, hk => by
    have ih := hold_occ (n := n) ms ph j hj k (by omega)
    unfold holdOf at *
    rw [if_pos hj] at *
    rw [take_snoc ms k (by omega), List.find?_append, occ_succ]
    generalize ms.getD k zeroM = mk
    cases hf : (ms.take k).find? (fun m => m.hits ph j)
    · rw [hf] at ih
      simp only [Option.map_none, Option.isSome_none] at ih
      have h0 : ¬ 0 < occ ms ph j k := by
        intro h; simp [h] at ih
      cases hh : mk.hits ph j
      · simp [hh]; omega
      · simp [hh]
    · rw [hf] at ih
      have h0 : 0 < occ ms ph j k := by
        simp at ih; exact ih
      have h1 : 0 < occ ms ph j k + if mk.hits ph j = true then 1 else 0 := by omega
      simp [h1]

/-- Backward the last one is held. -/
theorem hold_rev {n : Nat} (ms : List Msg) (ph j : Nat) (hj : j < n) : ∀ k, k ≤ ms.length → holdOf n (ms.take k).reverse ph j = if occ ms ph j k = 0 then none else some (ms.getD (lastI ms ph j k) zeroM).val
  | 0, _ => by simp [holdOf, occ]
  | k + 1, hk => by
    have ih := hold_rev (n := n) ms ph j hj k (by omega)
    unfold holdOf at *
    rw [if_pos hj] at *
    rw [take_snoc ms k (by omega), List.reverse_append]
    simp only [List.reverse_cons, List.reverse_nil, List.nil_append, List.singleton_append, List.find?_cons]
    rw [occ_succ, lastI_succ]
    cases hh : (ms.getD k zeroM).hits ph j
    · simp only [Bool.false_eq_true, if_false, Nat.add_zero]
      exact ih
    · simp only [if_true]
      rw [if_neg (by omega)]
      rfl

/-- Named once: the first is the last. -/
theorem hold_once {n : Nat} (ms : List Msg) (ph j : Nat) (hj : j < n) : ∀ k, k ≤ ms.length → occ ms ph j k = 1 → holdOf n (ms.take k) ph j = holdOf n (ms.take k).reverse ph j
  | 0, _, h => by simp [occ] at h
  | k + 1, hk, h => by
    rw [hold_rev ms ph j hj (k + 1) hk, h]
    have hs := hold_occ (n := n) ms ph j hj k (by omega)
    cases hh : (ms.getD k zeroM).hits ph j
    · rw [occ_succ, hh] at h
      simp only [Bool.false_eq_true, if_false, Nat.add_zero] at h
      have ih := hold_once (n := n) ms ph j hj k (by omega) h
      rw [hold_rev ms ph j hj k (by omega), h] at ih
      have e : holdOf n (ms.take (k + 1)) ph j = holdOf n (ms.take k) ph j := by
        rw [take_snoc ms k (by omega)]
        unfold holdOf
        generalize ms.getD k zeroM = mk at hh
        rw [if_pos hj, if_pos hj, List.find?_append]
        simp [hh]
      rw [e, ih, lastI_succ, hh]
      rfl
    · rw [occ_succ, hh] at h
      simp only [if_true] at h
      have h0 : occ ms ph j k = 0 := by omega
      rw [h0] at hs
      have hn : holdOf n (ms.take k) ph j = none := by
        cases hx : holdOf n (ms.take k) ph j
        · rfl
        · rw [hx] at hs; simp at hs
      rw [take_snoc ms k (by omega), holdOf_snoc_hit hj hh hn]
      rw [lastI_succ, hh]
      simp [Hold.put]

theorem hold_rev_some {n : Nat} (ms : List Msg) (ph j : Nat) : (holdOf n ms.reverse ph j).isSome = (holdOf n ms ph j).isSome := by
  unfold holdOf
  by_cases hj : j < n
  · rw [if_pos hj, if_pos hj, Option.isSome_map, Option.isSome_map]
    rw [Bool.eq_iff_iff, List.find?_isSome, List.find?_isSome]
    simp
  · rw [if_neg hj, if_neg hj]

theorem drop_rev (ms : List Msg) (i : Nat) (h : i < ms.length) : (ms.drop i).reverse = (ms.drop (i + 1)).reverse ++ [ms.getD i zeroM] := by
  rw [List.drop_eq_getElem_cons h]
  simp [h]

end Go.Proofs.Qxb6616381a
