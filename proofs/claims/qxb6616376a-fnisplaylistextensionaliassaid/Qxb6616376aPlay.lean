/-
  seat b6616376a: isPlaylist, and what the two laws over it need.
-/
import Derived.Test.Qxb6616376aRows
import Derived.WalkKit
import Derived.WalkLawsBesides
import Derived.WalkSpells
namespace Go.Proofs.Qxb6616376a
open Go.RowKit

def nameA : List UInt8 := [115, 116, 114, 101, 97, 109]
def nameB : List UInt8 := [115, 116, 114, 101, 97, 109, 46, 109, 51, 117, 56]
def extL : List UInt8 := [46, 109, 51, 117, 56]
/-- The segments that name a playlist. -/
def isPl (s : ByteArray) : Bool := (s.toList == nameA) || (s.toList == nameB)

theorem play_any (s : ByteArray) (w : World) : Calls Try.prog 7 #[.string s] w fun e w' => e = .returned (.bool (isPl s)) ∧ w = w' := by
  cases h1 : s.toList == nameA
  · cases h2 : s.toList == nameB
    · have e : isPl s = false := by simp [isPl, h1, h2]
      rw [e]
      unfold nameA at h1
      unfold nameB at h2
      clear e
      go_enter Try.func7, Try.ntmps7
      go_wp2
      go_ret
      exact ⟨rfl, rfl⟩
    · have e : isPl s = true := by simp [isPl, h2]
      rw [e]
      unfold nameA at h1
      unfold nameB at h2
      clear e
      go_enter Try.func7, Try.ntmps7
      go_wp2
      go_ret
      exact ⟨rfl, rfl⟩
  · have e : isPl s = true := by simp [isPl, h1]
    rw [e]
    unfold nameA at h1
    clear e
    go_enter Try.func7, Try.ntmps7
    go_wp2
    go_ret
    exact ⟨rfl, rfl⟩

theorem append_toList (s t : ByteArray) : (s ++ t).toList = s.toList ++ t.toList := by
  rw [ByteArray.toList_eq, ByteArray.toList_eq, ByteArray.toList_eq]
  simp

theorem isPl_ext (s : ByteArray) : isPl (s ++ ⟨#[46, 109, 51, 117, 56]⟩) = (s.toList == nameA) := by
  have he : (ByteArray.mk #[46, 109, 51, 117, 56]).toList = extL := by decide +kernel
  unfold isPl
  rw [append_toList, he]
  generalize s.toList = l
  have h1 : (l ++ extL == nameA) = false := by
    rw [beq_eq_false_iff_ne]
    intro h
    have hl := congrArg List.length h
    simp [extL, nameA] at hl
    match l, hl with
    | [x], _ => simp [extL, nameA] at h
  have h2 : (l ++ extL == nameB) = (l == nameA) := by
    have hb : nameB = nameA ++ extL := rfl
    rw [hb, Bool.eq_iff_iff]
    simp
  rw [h1, h2, Bool.false_or]

theorem bytes3_ok (s : ByteArray) (w : World) (h : s.size ≤ 1048576) : Calls Try.prog 6 #[.string s] w fun e w' => e = .returned (.bool true) ∧ w = w' := by
  go_enter Try.func6, Try.ntmps6
  go_wp2
  go_ret
  exact ⟨rfl, rfl⟩

set_option maxHeartbeats 800000 in
theorem alias_walk (s : ByteArray) (hs : s.size ≤ maxLen) (w : World) :
    Calls Try.prog 3 #[.string s] w fun e w' => e = .returned (.bool true) ∧ Grown w w' := by
  unfold maxLen at hs
  by_cases hb : s.size ≤ 1048576
  · cases h1 : s.toList == nameA
    · have H1 : Hid ((s.toList == nameA) = false) := h1
      unfold nameA at h1
      go_enter Try.func3, Try.ntmps3
      go_wp2_with fail
      refine (bytes3_ok s w hb).mono ?_
      rintro e w' ⟨rfl, rfl⟩
      go_wp2_with fail
      refine (play_any _ w).mono ?_
      rintro e w' ⟨rfl, rfl⟩
      rw [isPl_ext, H1.out]
      go_wp2_with fail
      refine (play_any _ w).mono ?_
      rintro e w' ⟨rfl, rfl⟩
      go_wp2
      go_ret
      exact ⟨rfl, Grown.refl _⟩
    · have H1 : Hid ((s.toList == nameA) = true) := h1
      have hp : isPl s = true := by simp [isPl, h1]
      have HP : Hid (isPl s = true) := hp
      clear hp
      unfold nameA at h1
      go_enter Try.func3, Try.ntmps3
      go_wp2_with fail
      refine (bytes3_ok s w hb).mono ?_
      rintro e w' ⟨rfl, rfl⟩
      go_wp2_with fail
      refine (play_any _ w).mono ?_
      rintro e w' ⟨rfl, rfl⟩
      rw [isPl_ext, H1.out]
      go_wp2_with fail
      refine (play_any _ w).mono ?_
      rintro e w' ⟨rfl, rfl⟩
      rw [HP.out]
      go_wp2
      go_ret
      exact ⟨rfl, Grown.refl _⟩
  · go_enter Try.func3, Try.ntmps3
    go_wp2
    go_ret
    exact ⟨rfl, Grown.refl _⟩
end Go.Proofs.Qxb6616376a
