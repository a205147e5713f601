/-
  seat b6617614a: the walk of FnFieldFirstMatchAndSplit at a nil slice.
-/
import Derived.Test.Qxb6617614aFields
namespace Go.Proofs.Qxb6617614a
open Go.RowKit
set_option linter.unusedVariables false

theorem cell_three (w : World) (x y z : Value) (t : TypeId) : (w.alloc (.cells #[x, y, z] t)).cell? ⟨w.heap.size, 2, none⟩ = some z := by
  rw [World.cell?_alloc_at _ _ _ _ rfl]; rfl

theorem nil3 (w : World) (x y : Value) :
    Rec (((w.alloc (.cells #[x, y, .slice none 0 0] 31)).alloc (.cells #[x, y, .slice none 0 0] 31)).alloc (.cells #[x, y, .slice none 0 0] 31)) w.heap.size 0 0 [] (.slice none 0 0) ∧
    Rec (((w.alloc (.cells #[x, y, .slice none 0 0] 31)).alloc (.cells #[x, y, .slice none 0 0] 31)).alloc (.cells #[x, y, .slice none 0 0] 31)) (w.heap.size + 1) 0 0 [] (.slice none 0 0) ∧
    Rec (((w.alloc (.cells #[x, y, .slice none 0 0] 31)).alloc (.cells #[x, y, .slice none 0 0] 31)).alloc (.cells #[x, y, .slice none 0 0] 31)) (w.heap.size + 1 + 1) 0 0 [] (.slice none 0 0) := by
  refine ⟨⟨?_, none, 0, rfl, .inl rfl⟩, ⟨?_, none, 0, rfl, .inl rfl⟩, ⟨?_, none, 0, rfl, .inl rfl⟩⟩
  · rw [World.cell?_alloc_past _ _ _ (by simp; omega), World.cell?_alloc_past _ _ _ (by simp)]
    exact cell_three _ _ _ _ _
  · rw [World.cell?_alloc_past _ _ _ (by simp)]
    simp
  · have := cell_three ((w.alloc (.cells #[x, y, .slice none 0 0] 31)).alloc (.cells #[x, y, .slice none 0 0] 31)) x y (.slice none 0 0) 31
    simpa using this

theorem below3 (w : World) (o1 o2 o3 : Obj) : Below w.heap.size w (((w.alloc o1).alloc o2).alloc o3) := (((Below.refl _ _).alloc (Nat.le_refl _) _).alloc (by simp) _).alloc (by simp; omega) _

set_option maxHeartbeats 1600000 in
set_option maxRecDepth 100000 in
/-- No fields: a nil slice. -/
theorem law_nil (b0 b1 : Bool) (no cut : Int) (w : World) :
    Calls Try.prog 3 #[.bool b0, .bool b1, .slice none 0 0, .int .i64 no, .int .i64 cut] w fun e w' => e = .returned (.bool true) ∧ Below w.heap.size w w' := by
  have hnl := fun (w : World) (a : Option Addr) (n c : Nat) => run_neq_slice_nil_any (P := Try.prog) w 22 26 a n c 0 0 Try.underlying22
  have hv0 : Elems w (.slice none 0 0) [] := ⟨none, 0, rfl, fun _ => ⟨rfl, rfl⟩, Nat.le_refl _, Nat.zero_le _, .inl rfl⟩
  go_enter Try.func3, Try.ntmps3
  go_wp2_with fail
  refine (bytes_any b0 b1 _ [] no cut w hv0 (fun i hi => absurd hi (by simp))).mono ?_
  rintro e w' ⟨β, rfl, rfl, _⟩
  cases β
  · go_wp2
    go_ret
    exact ⟨rfl, Below.refl _ _⟩
  go_wp2
  refine wp_loop_rounds 1 ?_
  rw [rounds_succ]
  by_cases hc0 : cut < 0
  · go_wp2
    go_ret
    exact ⟨rfl, Below.refl _ _⟩
  by_cases hc1 : 0 < cut
  · go_wp2
    go_ret
    exact ⟨rfl, Below.refl _ _⟩
  have hce : cut = 0 := by omega
  subst hce
  obtain ⟨r1, r2, r3⟩ := nil3 w (.bool b0) (.bool b1)
  go_wp2_with fail
  refine (field_none _ 0 0 [] _ no _ r1 (by simp) (fun i hi => absurd hi (by simp))).mono ?_
  rintro e w' ⟨rfl, rfl⟩
  go_wp2_with fail
  refine (field_none _ 0 0 [] _ no _ r2 (by simp) (fun i hi => absurd hi (by simp))).mono ?_
  rintro e w' ⟨rfl, rfl⟩
  go_wp2_with fail
  refine (field_none _ 0 0 [] _ no _ r3 (by simp) (fun i hi => absurd hi (by simp))).mono ?_
  rintro e w' ⟨rfl, rfl⟩
  clear r1 r2 r3
  go_wp2
  refine wp_loop_rounds 1 ?_
  rw [rounds_succ]
  go_wp2
  go_ret
  exact ⟨rfl, below3 _ _ _ _⟩
end Go.Proofs.Qxb6617614a
