/-
  seat b6616356a: the collector closure and (*ForParts).each.
-/
import Derived.Test.Qxb6616356aParts
import Derived.Deep.RegionLaw
namespace Go.Proofs.Qxb6616356a
open Go.RowKit

theorem Try.info3 : (Try.prog.info? 3).map (fun i => (i.zero, i.size, i.bytes)) = some (some (.int .i64 0), 1, 8) := by kernel_rfl
theorem Try.info39 : (Try.prog.info? 39).map (fun i => (i.zero, i.size, i.bytes)) = some (some .nilIface, 1, 16) := by kernel_rfl

theorem method_ident (a : Addr) (w : World) : (method 174 35 (.pointer (some a)) "Pos").run Try.prog w = .ok (34, .pointer (some a)) w := by kernel_rfl
theorem method_block (a : Addr) (w : World) : (method 174 54 (.pointer (some a)) "Pos").run Try.prog w = .ok (36, .pointer (some a)) w := by kernel_rfl

/-- The captured variable's block is not the row that its slice owns: the blocks' element types differ. -/
theorem own_ne {w : World} {Bo base : Nat} {v u : Value} {n : Nat} {xs : List Value} (hv : w.heap[Bo]? = some (.cells #[u] 30 (0, 0))) (hown : w.ownsRow base 3 1 v n xs) : some Bo ≠ v.ownBlock := by
  rcases hown.2 with ⟨rfl, _⟩ | ⟨g, cap, cur, rfl, hbg, hg, _⟩
  · simp [Value.ownBlock]
  · intro h
    simp only [Value.ownBlock, Option.some.injEq] at h
    subst h
    rw [hg] at hv
    simp at hv

/-- What the collector leaves behind its store. -/
theorem out_close {w w1 : World} {Bo : Nat} {v v1 : Value} {xs : List Int} {x : Int} {o : Obj}
    (hv : w.heap[Bo]? = some (.cells #[v] 30 (0, 0))) (hown : w.ownsRow Bo 3 1 v xs.length (xs.map (Value.int .i64)))
    (hown1 : w1.ownsRow Bo 3 1 v1 (xs.length + 1) (xs.map (Value.int .i64) ++ [.int .i64 x])) (hgrow : (w.alloc o).drew.grownBy w1 v.ownBlock) :
    (∃ v', (w1.setCell ⟨Bo, 0, none⟩ v1).heap[Bo]? = some (.cells #[v'] 30 (0, 0)) ∧ (w1.setCell ⟨Bo, 0, none⟩ v1).ownsRow Bo 3 1 v' (xs ++ [x]).length ((xs ++ [x]).map (Value.int .i64))) ∧ Below Bo w (w1.setCell ⟨Bo, 0, none⟩ v1) := by
  have hsz := lt_of_block hv
  have hneo := own_ne hv hown
  have hb1 : w1.heap[Bo]? = some (.cells #[v] 30 (0, 0)) := by
    rw [hgrow.block Bo (by show Bo < (w.alloc o).heap.size; simp; omega) hneo]
    exact (Below.heap_alloc w o Bo hsz).trans hv
  refine ⟨⟨v1, one_setCell hb1, ?_⟩, ?_⟩
  · have h := ownsRow_setCell_other hown1 (a := ⟨Bo, 0, none⟩) (fun h => own_ne hb1 hown1 h.symm) v1
    simpa using h
  · refine Below.setCell (p := ⟨Bo, 0, none⟩) ?_ (by simp) _
    exact (((Below.refl Bo w).alloc (by omega) o).drew).grown hgrow (by show Bo ≤ (w.alloc o).heap.size; simp; omega) (fun k hk => (hown.lt k hk).1)

set_option maxHeartbeats 800000 in
theorem out_ident (Bo bi : Nat) (v : Value) (xs : List Int) (x : Int) (w : World) (hbi : bi < Bo)
    (hv : w.heap[Bo]? = some (.cells #[v] 30 (0, 0))) (hown : w.ownsRow Bo 3 1 v xs.length (xs.map (Value.int .i64))) (hx : w.cell? ⟨bi, 0, none⟩ = some (.int .i64 x)) (hl : xs.length ≤ 1000000) :
    Calls Try.prog 17 #[.iface 35 (.pointer (some ⟨bi, 0, none⟩)), .pointer (some ⟨Bo, 0, none⟩)] w fun e w' => e = .returned (.tuple #[]) ∧
      (∃ v', w'.heap[Bo]? = some (.cells #[v'] 30 (0, 0)) ∧ w'.ownsRow Bo 3 1 v' (xs ++ [x]).length ((xs ++ [x]).map (Value.int .i64))) ∧ Below Bo w w' := by
  obtain ⟨i0, hi, hz0, hz1, hz2⟩ := info_parts Try.info3
  have cv := cell_of_one hv
  have fv := free_of_one hv
  have hme := method_ident
  have hsz := lt_of_block hv
  have hneo := own_ne hv hown
  have hfa : ∀ o, (w.alloc o).frozen? ⟨Bo, 0, none⟩ = false := fun o => (World.frozen?_alloc_past _ _ _ hsz).trans fv
  have hnei : some bi ≠ v.ownBlock := fun h => by have := (hown.lt bi h.symm).1; omega
  go_enter Try.func17, Try.ntmps17
  go_wp2
  have hca : ∀ o, (w.alloc o).cell? ⟨Bo, 0, none⟩ = some v := fun o => (World.cell?_alloc_past _ _ _ hsz).trans cv
  go_region_law (first | (go_simp; go_at_call 34; refine (ident_pos bi x _ ?_).mono ?_; (simp [*]); rintro e w' ⟨rfl, rfl⟩) | (refine step_append_lies _ (by rfl) _ _ _ (by rfl) Bo 3 i0 (.int .i64 0) 1 8 Try.underlying30 hi hz0 hz1 hz2 rfl (by decide) v xs.length (xs.map (Value.int .i64)) (by rfl) (by exact (hown.drew).alloc _) ⟨w.heap.size, 0, none⟩ 1 1 [.int .i64 x] (by rfl) rfl (by exact World.news_of_block (heap_alloc_new _ _)) (by simp [Value.oneCell']) (by omega) (by unfold maxLen; omega) (by omega) (by have := lt_of_block hv; simp; omega) (w.heap.size + 1) (by simp) ?_; intro g cap w1 hown1 hgrow hat hlt; have c1 : w1.cell? ⟨Bo, 0, none⟩ = some v := hgrow.cell (a := ⟨Bo, 0, none⟩) (by simp [*]) hneo; have f1 : w1.frozen? ⟨Bo, 0, none⟩ = false := (hgrow.frozen_far ⟨Bo, 0, none⟩ (by first | (simp; done) | (simp; omega)) hneo).trans (by simp [*])))
  all_goals go_end0
  all_goals exact ⟨rfl, out_close hv hown hown1 hgrow⟩
set_option maxHeartbeats 800000 in
theorem out_block (Bo bi : Nat) (v : Value) (xs : List Int) (x : Int) (w : World) (hbi : bi < Bo)
    (hv : w.heap[Bo]? = some (.cells #[v] 30 (0, 0))) (hown : w.ownsRow Bo 3 1 v xs.length (xs.map (Value.int .i64))) (hx : w.cell? ⟨bi, 0, none⟩ = some (.int .i64 x)) (hl : xs.length ≤ 1000000) :
    Calls Try.prog 17 #[.iface 54 (.pointer (some ⟨bi, 0, none⟩)), .pointer (some ⟨Bo, 0, none⟩)] w fun e w' => e = .returned (.tuple #[]) ∧
      (∃ v', w'.heap[Bo]? = some (.cells #[v'] 30 (0, 0)) ∧ w'.ownsRow Bo 3 1 v' (xs ++ [x]).length ((xs ++ [x]).map (Value.int .i64))) ∧ Below Bo w w' := by
  obtain ⟨i0, hi, hz0, hz1, hz2⟩ := info_parts Try.info3
  have cv := cell_of_one hv
  have fv := free_of_one hv
  have hme := method_block
  have hsz := lt_of_block hv
  have hneo := own_ne hv hown
  have hfa : ∀ o, (w.alloc o).frozen? ⟨Bo, 0, none⟩ = false := fun o => (World.frozen?_alloc_past _ _ _ hsz).trans fv
  have hnei : some bi ≠ v.ownBlock := fun h => by have := (hown.lt bi h.symm).1; omega
  go_enter Try.func17, Try.ntmps17
  go_wp2
  have hca : ∀ o, (w.alloc o).cell? ⟨Bo, 0, none⟩ = some v := fun o => (World.cell?_alloc_past _ _ _ hsz).trans cv
  go_region_law (first | (go_simp; go_at_call 36; refine (block_pos bi x _ ?_).mono ?_; (simp [*]); rintro e w' ⟨rfl, rfl⟩) | (refine step_append_lies _ (by rfl) _ _ _ (by rfl) Bo 3 i0 (.int .i64 0) 1 8 Try.underlying30 hi hz0 hz1 hz2 rfl (by decide) v xs.length (xs.map (Value.int .i64)) (by rfl) (by exact (hown.drew).alloc _) ⟨w.heap.size, 0, none⟩ 1 1 [.int .i64 x] (by rfl) rfl (by exact World.news_of_block (heap_alloc_new _ _)) (by simp [Value.oneCell']) (by omega) (by unfold maxLen; omega) (by omega) (by have := lt_of_block hv; simp; omega) (w.heap.size + 1) (by simp) ?_; intro g cap w1 hown1 hgrow hat hlt; have c1 : w1.cell? ⟨Bo, 0, none⟩ = some v := hgrow.cell (a := ⟨Bo, 0, none⟩) (by simp [*]) hneo; have f1 : w1.frozen? ⟨Bo, 0, none⟩ = false := (hgrow.frozen_far ⟨Bo, 0, none⟩ (by first | (simp; done) | (simp; omega)) hneo).trans (by simp [*])))
  all_goals go_end0
  all_goals exact ⟨rfl, out_close hv hown hown1 hgrow⟩
end Go.Proofs.Qxb6616356a
