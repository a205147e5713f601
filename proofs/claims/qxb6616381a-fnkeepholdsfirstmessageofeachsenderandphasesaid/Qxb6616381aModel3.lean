/-
  seat b6616381a: the plain model, more: where a script first names a phase and a sender. No program, no Go.
-/
import Derived.Test.Qxb6616381aModel2
namespace Go.Proofs.Qxb6616381a
set_option linter.unusedVariables false

/-- The least index among the last r that names the phase and the sender; −1 where there is none. -/
def fstI (ms : List Msg) (ph j : Nat) : Nat → Int
  | 0 => -1
  | r + 1 => if (ms.getD (ms.length - (r + 1)) zeroM).hits ph j then ((ms.length - (r + 1) : Nat) : Int) else fstI ms ph j r

theorem fstI_succ (ms : List Msg) (ph j r : Nat) : fstI ms ph j (r + 1) = if (ms.getD (ms.length - (r + 1)) zeroM).hits ph j then ((ms.length - (r + 1) : Nat) : Int) else fstI ms ph j r := rfl

/-- What is wanted of the sender j: nothing, or the message number F j. -/
def Want (s : Hold) (ms : List Msg) (F : Nat → Int) (n : Nat) : Prop := ∀ j, j < n → (F j = -1 ∧ s j = none) ∨ ∃ i : Nat, i < ms.length ∧ F j = (i : Int) ∧ s j = some (ms.getD i zeroM).val

theorem fst_want {n : Nat} (ms : List Msg) (ph j : Nat) (hj : j < n) : ∀ r, r ≤ ms.length → (fstI ms ph j r = -1 ∧ holdOf n (ms.drop (ms.length - r)) ph j = none) ∨ ∃ i : Nat, i < ms.length ∧ fstI ms ph j r = (i : Int) ∧ holdOf n (ms.drop (ms.length - r)) ph j = some (ms.getD i zeroM).val
  | 0, _ => by
    left
    refine ⟨rfl, ?_⟩
    rw [Nat.sub_zero, List.drop_length]
    simp [holdOf]
  | r + 1, hr => by
    have ih := fst_want (n := n) ms ph j hj r (by omega)
    have hd : ms.drop (ms.length - (r + 1)) = ms.getD (ms.length - (r + 1)) zeroM :: ms.drop (ms.length - r) := by
      have hlt : ms.length - (r + 1) < ms.length := by omega
      rw [List.drop_eq_getElem_cons hlt]
      have : ms.length - (r + 1) + 1 = ms.length - r := by omega
      rw [this]
      simp [hlt]
    rw [hd, fstI_succ]
    generalize ms.getD (ms.length - (r + 1)) zeroM = el at hd
    by_cases hh : el.hits ph j = true
    · right
      refine ⟨ms.length - (r + 1), by omega, by rw [if_pos hh], ?_⟩
      have hlt : ms.length - (r + 1) < ms.length := by omega
      have he : ms.getD (ms.length - (r + 1)) zeroM = el := by
        have h2 := congrArg (fun l => l[0]?) hd
        simp only [List.getElem?_drop, Nat.add_zero, List.getElem?_cons_zero] at h2
        rw [List.getD_eq_getElem?_getD, h2]; rfl
      rw [he]
      unfold holdOf
      rw [if_pos hj, List.find?_cons, hh]
      rfl
    · have e : holdOf n (el :: ms.drop (ms.length - r)) ph j = holdOf n (ms.drop (ms.length - r)) ph j := by
        unfold holdOf
        rw [if_pos hj, if_pos hj, List.find?_cons]
        simp [hh]
      rw [e, if_neg hh]
      exact ih

theorem want_all (n : Nat) (ms : List Msg) (ph : Nat) : Want (holdOf n ms ph) ms (fun j => fstI ms ph j ms.length) n := fun j hj => by
  have := fst_want (n := n) ms ph j hj ms.length (Nat.le_refl _)
  rw [Nat.sub_self, List.drop_zero] at this
  exact this

theorem fstI_range (ms : List Msg) (ph j : Nat) : ∀ r, r ≤ ms.length → -1 ≤ fstI ms ph j r ∧ fstI ms ph j r < ms.length + 1
  | 0, _ => by unfold fstI; omega
  | r + 1, hr => by
    have ih := fstI_range ms ph j r (by omega)
    rw [fstI_succ]
    split
    · omega
    · exact ih

theorem cnt_succ (s : Hold) (n : Nat) : cnt s (n + 1) = cnt s n + if (s n).isSome then 1 else 0 := rfl
theorem vcount_succ (s : Hold) (v : ByteArray) (n : Nat) : vcount s v (n + 1) = vcount s v n + if s n = some v then 1 else 0 := rfl
end Go.Proofs.Qxb6616381a
