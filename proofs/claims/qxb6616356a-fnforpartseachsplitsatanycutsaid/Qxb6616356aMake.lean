/-
  seat b6616356a: ZZeachPositions, ZZnewForParts, eachVisits.
-/
import Derived.Test.Qxb6616356aVisit
namespace Go.Proofs.Qxb6616356a
open Go.RowKit

set_option maxHeartbeats 800000 in
theorem positions_any (bp : Nat) (hi : Bool) (i0 : Int) (hc : Bool) (c0 : Int) (us : List Int) (I C S : Value) (w : World) (hh : Head w w.heap.size bp hi i0 hc c0 us I C S) (hl : us.length ≤ 200000) :
    Calls Try.prog 14 #[.pointer (some ⟨bp, 0, none⟩)] w fun e w' => ∃ v, e = .returned v ∧ w'.ownsRow w.heap.size 3 1 v (vis hi i0 hc c0 us).length ((vis hi i0 hc c0 us).map (Value.int .i64)) ∧ Below w.heap.size w w' := by
  have hmf : ∀ (fn : Fn) (first cap : Array Value) (w : World), (Instr.makeFunc fn first cap).run Try.prog w = .ok (.func fn first cap) w := fun _ _ _ _ => rfl
  have hb0 : Below w.heap.size w (w.alloc (.cells #[.slice none 0 0] 30)) := (Below.refl _ _).alloc (Nat.le_refl _) _
  have ho : Out (w.alloc (.cells #[.slice none 0 0] 30)) w.heap.size [] := ⟨.slice none 0 0, heap_alloc_new w _, World.ownsRow_nil _ _ _ _⟩
  have HH : Hid (Head w w.heap.size bp hi i0 hc c0 us I C S) := hh
  clear hh
  go_enter Try.func14, Try.ntmps14
  go_wp2_with fail
  refine (each_any w.heap.size bp hi i0 hc c0 us I C S _ (HH.out.below hb0) ho hl).mono ?_
  rintro e w1 ⟨rfl, ⟨v, hv, hown⟩, hb1⟩
  have hcell := cell_of_one hv
  go_wp2
  go_ret
  exact ⟨_, rfl, hown, hb0.trans hb1⟩

/-! ### ZZnewForParts -/
/-- Blocks of other element types than 39 (the updates' row) and 53 (the head) stay as they are. -/
def Keep (w w' : World) : Prop := ∀ (b : Nat) (cs : Array Value) (t : TypeId), t ≠ 39 → t ≠ 53 → w.heap[b]? = some (Obj.cells cs t (0, 0)) → w'.heap[b]? = some (Obj.cells cs t (0, 0))

theorem Keep.trans {a b c : World} (h : Keep a b) (k : Keep b c) : Keep a c := fun q cs t h1 h2 h3 => k q cs t h1 h2 (h q cs t h1 h2 h3)
theorem Keep.alloc (w : World) (o : Obj) : Keep w (w.alloc o) := fun _ _ _ _ _ h3 => (Below.heap_alloc w o _ (lt_of_block h3)).trans h3
theorem Keep.setCell {w : World} {bp : Nat} {cs : Array Value} {j : Nat} (u : Value) (hb : w.heap[bp]? = some (.cells cs 53 (0, 0))) : Keep w (w.setCell ⟨bp, j, none⟩ u) := fun b cs' t _ h2 h3 => by
  rw [Below.heap_setCell _ _ _ _ (fun e => by simp only at e; subst e; rw [hb] at h3; simp at h3; exact h2 h3.2.symm)]
  exact h3
theorem row_ne {w : World} {base : Nat} {v : Value} {n : Nat} {xs : List Value} {b : Nat} {cs : Array Value} {t : TypeId} (hown : w.ownsRow base 39 1 v n xs) (ht : t ≠ 39) (h : w.heap[b]? = some (.cells cs t (0, 0))) : some b ≠ v.ownBlock := by
  rcases hown.2 with ⟨rfl, _⟩ | ⟨g, cap, cur, rfl, hbg, hg, _⟩
  · simp [Value.ownBlock]
  · intro h'
    simp only [Value.ownBlock, Option.some.injEq] at h'
    subst h'
    rw [hg] at h
    simp at h
    exact ht h.2.symm
theorem Keep.grown {w w' : World} {base : Nat} {v : Value} {n : Nat} {xs : List Value} (hown : w.ownsRow base 39 1 v n xs) (hg : w.grownBy w' v.ownBlock) : Keep w w' := fun b _ _ h1 _ h3 =>
  (hg.block b (lt_of_block h3) (row_ne hown h1 h3)).trans h3

/-- A node in an interface field, its whole block told. -/
def NodeB (w : World) (T t : TypeId) (h : Bool) (x : Int) (v : Value) : Prop :=
  (h = false ∧ v = .nilIface) ∨ (h = true ∧ ∃ b u, v = .iface T (.pointer (some ⟨b, 0, none⟩)) ∧ w.heap[b]? = some (.cells #[.int .i64 x, u] t (0, 0)))
theorem NodeB.keep {w w' : World} {T t : TypeId} {h : Bool} {x : Int} {v : Value} (n : NodeB w T t h x v) (h1 : t ≠ 39) (h2 : t ≠ 53) (hk : Keep w w') : NodeB w' T t h x v := by
  rcases n with n | ⟨rfl, b, u, rfl, hb⟩
  · exact .inl n
  · exact .inr ⟨rfl, b, u, rfl, hk _ _ _ h1 h2 hb⟩
theorem cell_of_two {w : World} {b : Nat} {x u : Value} {t : TypeId} (h : w.heap[b]? = some (.cells #[x, u] t (0, 0))) : w.cell? ⟨b, 0, none⟩ = some x := by simp [World.cell?, h]
theorem NodeB.node {w : World} {T t : TypeId} {h : Bool} {x : Int} {v : Value} (n : NodeB w T t h x v) : Node w w.heap.size T h x v := by
  rcases n with n | ⟨rfl, b, u, rfl, hb⟩
  · exact .inl n
  · exact .inr ⟨rfl, b, lt_of_block hb, rfl, cell_of_two hb⟩

/-- The updates gathered so far: element i leads to a node whose first cell holds us[i]. -/
def Ups (w : World) (us : List Int) (k : Nat) (xs : List Value) : Prop :=
  ∀ i, i < k → ∃ q u, xs[i]? = some (.iface 35 (.pointer (some ⟨q, 0, none⟩))) ∧ w.heap[q]? = some (.cells #[.int .i64 (us.getD i 0), u] 37 (0, 0))
theorem Ups.keep {w w' : World} {us : List Int} {k : Nat} {xs : List Value} (h : Ups w us k xs) (hk : Keep w w') : Ups w' us k xs := fun i hi => by
  obtain ⟨q, u, h1, h2⟩ := h i hi
  exact ⟨q, u, h1, hk _ _ _ (by decide) (by decide) h2⟩

/-- The head as the loop over the updates holds it. -/
structure Mid (w wr : World) (bp : Nat) (hi : Bool) (i0 : Int) (hc : Bool) (c0 : Int) (us : List Int) (k : Nat) (I C S : Value) (xs : List Value) : Prop where
  hb : wr.heap[bp]? = some (.cells #[I, C, S] 53 (0, 0))
  nI : NodeB wr 54 57 hi i0 I
  nC : NodeB wr 35 37 hc c0 C
  own : wr.ownsRow (bp + 1) 39 1 S k xs
  ups : Ups wr us k xs
  bel : Below bp w wr

theorem three_cells {w : World} {b : Nat} {x y z : Value} {t : TypeId} (h : w.heap[b]? = some (.cells #[x, y, z] t (0, 0))) :
    w.cell? ⟨b, 0, none⟩ = some x ∧ w.cell? ⟨b, 1, none⟩ = some y ∧ w.cell? ⟨b, 2, none⟩ = some z ∧ w.frozen? ⟨b, 0, none⟩ = false ∧ w.frozen? ⟨b, 1, none⟩ = false ∧ w.frozen? ⟨b, 2, none⟩ = false := by
  simp [World.cell?, World.frozen?, h]

theorem Mid.head {w wr : World} {bp : Nat} {hi : Bool} {i0 : Int} {hc : Bool} {c0 : Int} {us : List Int} {I C S : Value} {xs : List Value} (m : Mid w wr bp hi i0 hc c0 us us.length I C S xs) : Head wr wr.heap.size bp hi i0 hc c0 us I C S := by
  obtain ⟨h0, h1, h2, _⟩ := three_cells m.hb
  refine ⟨lt_of_block m.hb, Nat.le_refl _, h0, h1, h2, m.nI.node, m.nC.node, ?_⟩
  have hcells := fun g hg => m.own.cells (g := g) hg
  rcases m.own.2 with ⟨rfl, h0⟩ | ⟨g, cap, cur, rfl, hbg, hg, hnc, hcm, hcs, htake⟩
  · refine ⟨none, 0, by rw [h0], .inl ?_⟩
    cases us with
    | nil => rfl
    | cons x xs => simp at h0
  · refine ⟨some ⟨g, 0, none⟩, cap, rfl, .inr ⟨g, rfl, lt_of_block hg, fun i hi => ?_⟩⟩
    obtain ⟨q, u, h1, h2⟩ := m.ups i hi
    have := hcells g rfl i _ h1
    rw [World.addr_add, Nat.zero_add] at this
    exact ⟨q, lt_of_block h2, this, cell_of_two h2⟩

theorem mid_block {w wr w1 : World} {bp : Nat} {hi : Bool} {i0 : Int} {hc : Bool} {c0 : Int} {us : List Int} {k : Nat} {I C S : Value} {xs : List Value} {o1 o2 : Obj} (m : Mid w wr bp hi i0 hc c0 us k I C S xs)
    (hgrow : ((wr.alloc o1).alloc o2).grownBy w1 S.ownBlock) : w1.heap[bp]? = some (.cells #[I, C, S] 53 (0, 0)) := by
  have hlt := lt_of_block m.hb
  rw [hgrow.block bp (by simp; omega) (row_ne m.own (by decide) m.hb), Below.heap_alloc _ _ _ (by simp; omega), Below.heap_alloc _ _ _ hlt]
  exact m.hb

theorem three_set {w : World} {b : Nat} {x y z u : Value} {t : TypeId} (h : w.heap[b]? = some (.cells #[x, y, z] t (0, 0))) : (w.setCell ⟨b, 2, none⟩ u).heap[b]? = some (.cells #[x, y, u] t (0, 0)) := by
  have hlt := lt_of_block h
  have h' : w.heap[b] = .cells #[x, y, z] t (0, 0) := by simpa [Array.getElem?_eq_getElem hlt] using h
  show (w.heap.modify b _)[b]? = _
  rw [Array.getElem?_eq_getElem (by simpa using hlt), Array.getElem_modify_self, h']
  rfl

theorem heap_alloc2 (w : World) (o1 o2 : Obj) : ((w.alloc o1).alloc o2).heap[w.heap.size + 1]? = some o2 := by
  have := heap_alloc_new (w.alloc o1) o2
  simpa using this

theorem heap_alloc3 (w : World) (o1 o2 o3 : Obj) : (((w.alloc o1).alloc o2).alloc o3).heap[w.heap.size + 1 + 1]? = some o3 := by
  have := heap_alloc_new ((w.alloc o1).alloc o2) o3
  simpa using this

theorem mid_step {w wr w1 : World} {bp : Nat} {hi : Bool} {i0 : Int} {hc : Bool} {c0 : Int} {us : List Int} {k : Nat} {I C S S1 u : Value} {xs : List Value} {o2 : Obj} {x : Int} (hx : us.getD k 0 = x) (m : Mid w wr bp hi i0 hc c0 us k I C S xs)
    (hown1 : w1.ownsRow (bp + 1) 39 1 S1 (k + 1) (xs ++ [.iface 35 (.pointer (some ⟨wr.heap.size, 0, none⟩))])) (hgrow : ((wr.alloc (.cells #[.int .i64 x, u] 37)).alloc o2).grownBy w1 S.ownBlock) :
    Mid w (w1.setCell ⟨bp, 2, none⟩ S1) bp hi i0 hc c0 us (k + 1) I C S1 (xs ++ [.iface 35 (.pointer (some ⟨wr.heap.size, 0, none⟩))]) := by
  subst hx
  have hlt := lt_of_block m.hb
  have hb1 := mid_block m hgrow
  have hK0 : Keep (wr.alloc (.cells #[.int .i64 (us.getD k 0), u] 37)) ((wr.alloc (.cells #[.int .i64 (us.getD k 0), u] 37)).alloc o2) := Keep.alloc _ _
  have hK1 : Keep ((wr.alloc (.cells #[.int .i64 (us.getD k 0), u] 37)).alloc o2) w1 := Keep.grown ((m.own.alloc _).alloc _) hgrow
  have hK2 : Keep w1 (w1.setCell ⟨bp, 2, none⟩ S1) := Keep.setCell S1 hb1
  have hKa : Keep wr (w1.setCell ⟨bp, 2, none⟩ S1) := (Keep.alloc _ _).trans (hK0.trans (hK1.trans hK2))
  refine ⟨three_set hb1, m.nI.keep (by decide) (by decide) hKa, m.nC.keep (by decide) (by decide) hKa, ?_, ?_, ?_⟩
  · exact ownsRow_setCell_other hown1 (a := ⟨bp, 2, none⟩) (fun h => row_ne hown1 (by decide) hb1 h.symm) S1
  · have hlen : xs.length = k := by have := m.own.1; simpa using this
    intro i hi'
    by_cases h : i < k
    · obtain ⟨q, u', h1, h2⟩ := m.ups i h
      exact ⟨q, u', by rw [List.getElem?_append_left (by omega)]; exact h1, hKa _ _ _ (by decide) (by decide) h2⟩
    · have : i = k := by omega
      subst this
      refine ⟨wr.heap.size, u, by rw [List.getElem?_append_right (by omega)]; simp [hlen], (hK0.trans (hK1.trans hK2)) _ _ _ (by decide) (by decide) (heap_alloc_new wr _)⟩
  · refine Below.setCell (p := ⟨bp, 2, none⟩) ?_ (by simp) _
    exact ((m.bel.alloc (by omega) _).alloc (by simp; omega) _).grown hgrow (by simp; omega) (fun j hj => by have := (m.own.lt j hj).1; omega)

theorem mid_start {w wr : World} {hi : Bool} {i0 : Int} {hc : Bool} {c0 : Int} {us : List Int} {I C : Value} (hb : wr.heap[w.heap.size]? = some (.cells #[I, C, .slice none 0 0] 53 (0, 0)))
    (nI : NodeB wr 54 57 hi i0 I) (nC : NodeB wr 35 37 hc c0 C) (bel : Below w.heap.size w wr) : Mid w wr w.heap.size hi i0 hc c0 us 0 I C (.slice none 0 0) [] :=
  ⟨hb, nI, nC, World.ownsRow_nil _ _ _ _, fun i hi => absurd hi (by omega), bel⟩

set_option maxHeartbeats 1600000 in
set_option maxRecDepth 100000 in
theorem make_any (hi : Bool) (i0 : Int) (hc : Bool) (c0 : Int) (va : Value) (us : List Int) (w : World) (hus : Reads w va us) (hl : us.length ≤ 200000) :
    Calls Try.prog 15 #[.bool hi, .int .i64 i0, .bool hc, .int .i64 c0, va] w fun e w' => ∃ bp I C S, e = .returned (.pointer (some ⟨bp, 0, none⟩)) ∧ Head w' w'.heap.size bp hi i0 hc c0 us I C S ∧ Below w.heap.size w w' := by
  obtain ⟨a, cap, rfl, hus⟩ := hus
  obtain ⟨i39, hi9, hz0, hz1, hz2⟩ := info_parts Try.info39
  cases hi <;> cases hc
  · go_enter Try.func15, Try.ntmps15
    go_wp2_with fail
    go_loopw [34] (fun i wr => ∃ k I C S xs, k ≤ us.length ∧ i = .int .i64 (k : Nat) ∧ Mid w wr w.heap.size false i0 false c0 us k I C S xs) (fun i _ => us.length - (intOf i).toNat)
    case atStart => exact ⟨0, _, _, _, _, Nat.zero_le _, rfl, mid_start (heap_alloc_new w _) (.inl ⟨rfl, rfl⟩) (.inl ⟨rfl, rfl⟩) ((Below.refl _ _).alloc (Nat.le_refl _) _)⟩
    case round =>
      obtain ⟨k, I, C, S, xs, hk, rfl, hm⟩ := hrel
      by_cases hlt : k < us.length
      · have hne : us ≠ [] := by intro h; rw [h] at hlt; simp at hlt
        obtain ⟨b, off, rfl, hbl, hcs⟩ := hus.resolve_left hne
        have h1 := (hm.bel.cell (p := ⟨b, off + k, none⟩) hbl).trans (hcs k hlt)
        obtain ⟨c0', c1', c2', f0', f1', f2'⟩ := three_cells hm.hb
        have hsz := lt_of_block hm.hb
        clear hcs c0' c1' f0' f1' hus
        go_wp2_with (at_builtin; go_must (refine wpList_append_lies _ rfl _ _ 51 rfl (w.heap.size + 1) 39 i39 .nilIface 1 16 Try.underlying51 hi9 hz0 hz1 hz2 rfl (by decide) S k xs rfl ((hm.own.alloc _).alloc _) ⟨wr.heap.size + 1, 0, none⟩ 1 1 [.iface 35 (.pointer (some ⟨wr.heap.size, 0, none⟩))] rfl rfl ?_ (by simp [Value.oneCell']) (by omega) (by unfold maxLen; omega) (by omega) (by simp; omega) (wr.heap.size + 1 + 1) (by simp) ?_; exact World.news_of_block (heap_alloc2 _ _ _); intro g cap w1 hown1 hgrow hat hlt1; have hb1 := mid_block hm hgrow; obtain ⟨_, _, c2, _, _, f2⟩ := three_cells hb1))
        have hm2 := mid_step (by simp [hlt]) hm hown1 hgrow
        clear hm hown1 hgrow hb1
        go_wp2
        go_roundw
        case rel => exact ⟨k + 1, I, C, _, _, by omega, by go_num, hm2⟩
        case measure => simp [intOf]; omega
      · have hkl : us.length = k := by omega
        subst hkl
        have HM := hm.head
        have HB := hm.bel
        clear hm
        go_wp2
        go_ret
        exact ⟨_, _, _, _, rfl, HM, HB⟩
  · go_enter Try.func15, Try.ntmps15
    go_wp2_with fail
    go_loopw [34] (fun i wr => ∃ k I C S xs, k ≤ us.length ∧ i = .int .i64 (k : Nat) ∧ Mid w wr w.heap.size false i0 true c0 us k I C S xs) (fun i _ => us.length - (intOf i).toNat)
    case atStart => exact ⟨0, _, _, _, _, Nat.zero_le _, rfl, mid_start (by rw [Below.heap_alloc _ _ _ (by simp)]; exact heap_alloc_new w _) (.inl ⟨rfl, rfl⟩) (.inr ⟨rfl, _, _, rfl, heap_alloc2 _ _ _⟩) (((Below.refl _ _).alloc (Nat.le_refl _) _).alloc (by simp) _)⟩
    case round =>
      obtain ⟨k, I, C, S, xs, hk, rfl, hm⟩ := hrel
      by_cases hlt : k < us.length
      · have hne : us ≠ [] := by intro h; rw [h] at hlt; simp at hlt
        obtain ⟨b, off, rfl, hbl, hcs⟩ := hus.resolve_left hne
        have h1 := (hm.bel.cell (p := ⟨b, off + k, none⟩) hbl).trans (hcs k hlt)
        obtain ⟨c0', c1', c2', f0', f1', f2'⟩ := three_cells hm.hb
        have hsz := lt_of_block hm.hb
        clear hcs c0' c1' f0' f1' hus
        go_wp2_with (at_builtin; go_must (refine wpList_append_lies _ rfl _ _ 51 rfl (w.heap.size + 1) 39 i39 .nilIface 1 16 Try.underlying51 hi9 hz0 hz1 hz2 rfl (by decide) S k xs rfl ((hm.own.alloc _).alloc _) ⟨wr.heap.size + 1, 0, none⟩ 1 1 [.iface 35 (.pointer (some ⟨wr.heap.size, 0, none⟩))] rfl rfl ?_ (by simp [Value.oneCell']) (by omega) (by unfold maxLen; omega) (by omega) (by simp; omega) (wr.heap.size + 1 + 1) (by simp) ?_; exact World.news_of_block (heap_alloc2 _ _ _); intro g cap w1 hown1 hgrow hat hlt1; have hb1 := mid_block hm hgrow; obtain ⟨_, _, c2, _, _, f2⟩ := three_cells hb1))
        have hm2 := mid_step (by simp [hlt]) hm hown1 hgrow
        clear hm hown1 hgrow hb1
        go_wp2
        go_roundw
        case rel => exact ⟨k + 1, I, C, _, _, by omega, by go_num, hm2⟩
        case measure => simp [intOf]; omega
      · have hkl : us.length = k := by omega
        subst hkl
        have HM := hm.head
        have HB := hm.bel
        clear hm
        go_wp2
        go_ret
        exact ⟨_, _, _, _, rfl, HM, HB⟩
  · go_enter Try.func15, Try.ntmps15
    go_wp2_with fail
    go_loopw [34] (fun i wr => ∃ k I C S xs, k ≤ us.length ∧ i = .int .i64 (k : Nat) ∧ Mid w wr w.heap.size true i0 false c0 us k I C S xs) (fun i _ => us.length - (intOf i).toNat)
    case atStart => exact ⟨0, _, _, _, _, Nat.zero_le _, rfl, mid_start (by rw [Below.heap_alloc _ _ _ (by simp)]; exact heap_alloc_new w _) (.inr ⟨rfl, _, _, rfl, heap_alloc2 _ _ _⟩) (.inl ⟨rfl, rfl⟩) (((Below.refl _ _).alloc (Nat.le_refl _) _).alloc (by simp) _)⟩
    case round =>
      obtain ⟨k, I, C, S, xs, hk, rfl, hm⟩ := hrel
      by_cases hlt : k < us.length
      · have hne : us ≠ [] := by intro h; rw [h] at hlt; simp at hlt
        obtain ⟨b, off, rfl, hbl, hcs⟩ := hus.resolve_left hne
        have h1 := (hm.bel.cell (p := ⟨b, off + k, none⟩) hbl).trans (hcs k hlt)
        obtain ⟨c0', c1', c2', f0', f1', f2'⟩ := three_cells hm.hb
        have hsz := lt_of_block hm.hb
        clear hcs c0' c1' f0' f1' hus
        go_wp2_with (at_builtin; go_must (refine wpList_append_lies _ rfl _ _ 51 rfl (w.heap.size + 1) 39 i39 .nilIface 1 16 Try.underlying51 hi9 hz0 hz1 hz2 rfl (by decide) S k xs rfl ((hm.own.alloc _).alloc _) ⟨wr.heap.size + 1, 0, none⟩ 1 1 [.iface 35 (.pointer (some ⟨wr.heap.size, 0, none⟩))] rfl rfl ?_ (by simp [Value.oneCell']) (by omega) (by unfold maxLen; omega) (by omega) (by simp; omega) (wr.heap.size + 1 + 1) (by simp) ?_; exact World.news_of_block (heap_alloc2 _ _ _); intro g cap w1 hown1 hgrow hat hlt1; have hb1 := mid_block hm hgrow; obtain ⟨_, _, c2, _, _, f2⟩ := three_cells hb1))
        have hm2 := mid_step (by simp [hlt]) hm hown1 hgrow
        clear hm hown1 hgrow hb1
        go_wp2
        go_roundw
        case rel => exact ⟨k + 1, I, C, _, _, by omega, by go_num, hm2⟩
        case measure => simp [intOf]; omega
      · have hkl : us.length = k := by omega
        subst hkl
        have HM := hm.head
        have HB := hm.bel
        clear hm
        go_wp2
        go_ret
        exact ⟨_, _, _, _, rfl, HM, HB⟩
  · go_enter Try.func15, Try.ntmps15
    go_wp2_with fail
    go_loopw [34] (fun i wr => ∃ k I C S xs, k ≤ us.length ∧ i = .int .i64 (k : Nat) ∧ Mid w wr w.heap.size true i0 true c0 us k I C S xs) (fun i _ => us.length - (intOf i).toNat)
    case atStart => exact ⟨0, _, _, _, _, Nat.zero_le _, rfl, mid_start (by rw [Below.heap_alloc _ _ _ (by simp; omega), Below.heap_alloc _ _ _ (by simp)]; exact heap_alloc_new w _) (.inr ⟨rfl, _, _, rfl, by rw [Below.heap_alloc _ _ _ (by simp)]; exact heap_alloc2 _ _ _⟩) (.inr ⟨rfl, _, _, rfl, heap_alloc3 _ _ _ _⟩) ((((Below.refl _ _).alloc (Nat.le_refl _) _).alloc (by simp) _).alloc (by simp; omega) _)⟩
    case round =>
      obtain ⟨k, I, C, S, xs, hk, rfl, hm⟩ := hrel
      by_cases hlt : k < us.length
      · have hne : us ≠ [] := by intro h; rw [h] at hlt; simp at hlt
        obtain ⟨b, off, rfl, hbl, hcs⟩ := hus.resolve_left hne
        have h1 := (hm.bel.cell (p := ⟨b, off + k, none⟩) hbl).trans (hcs k hlt)
        obtain ⟨c0', c1', c2', f0', f1', f2'⟩ := three_cells hm.hb
        have hsz := lt_of_block hm.hb
        clear hcs c0' c1' f0' f1' hus
        go_wp2_with (at_builtin; go_must (refine wpList_append_lies _ rfl _ _ 51 rfl (w.heap.size + 1) 39 i39 .nilIface 1 16 Try.underlying51 hi9 hz0 hz1 hz2 rfl (by decide) S k xs rfl ((hm.own.alloc _).alloc _) ⟨wr.heap.size + 1, 0, none⟩ 1 1 [.iface 35 (.pointer (some ⟨wr.heap.size, 0, none⟩))] rfl rfl ?_ (by simp [Value.oneCell']) (by omega) (by unfold maxLen; omega) (by omega) (by simp; omega) (wr.heap.size + 1 + 1) (by simp) ?_; exact World.news_of_block (heap_alloc2 _ _ _); intro g cap w1 hown1 hgrow hat hlt1; have hb1 := mid_block hm hgrow; obtain ⟨_, _, c2, _, _, f2⟩ := three_cells hb1))
        have hm2 := mid_step (by simp [hlt]) hm hown1 hgrow
        clear hm hown1 hgrow hb1
        go_wp2
        go_roundw
        case rel => exact ⟨k + 1, I, C, _, _, by omega, by go_num, hm2⟩
        case measure => simp [intOf]; omega
      · have hkl : us.length = k := by omega
        subst hkl
        have HM := hm.head
        have HB := hm.bel
        clear hm
        go_wp2
        go_ret
        exact ⟨_, _, _, _, rfl, HM, HB⟩

theorem vis_length (hi : Bool) (i0 : Int) (hc : Bool) (c0 : Int) (us : List Int) : (vis hi i0 hc c0 us).length ≤ us.length + 2 := by
  cases hi <;> cases hc <;> simp [vis]

/-- eachVisits: the visits, in a slice of its own. -/
theorem visits_any (hi : Bool) (i0 : Int) (hc : Bool) (c0 : Int) (va : Value) (us : List Int) (w : World) (hus : Reads w va us) (hl : us.length ≤ 200000) :
    Calls Try.prog 11 #[.bool hi, .int .i64 i0, .bool hc, .int .i64 c0, va] w fun e w' => ∃ v, e = .returned v ∧ Reads w' v (vis hi i0 hc c0 us) ∧ Below w.heap.size w w' := by
  go_enter Try.func11, Try.ntmps11
  go_wp2_with fail
  refine (make_any hi i0 hc c0 va us w hus hl).mono ?_
  rintro e w1 ⟨bp, I, C, S, rfl, hh, hb⟩
  go_wp2_with fail
  refine (positions_any bp hi i0 hc c0 us I C S w1 hh hl).mono ?_
  rintro e w2 ⟨v, rfl, hown, hb2⟩
  go_wp2
  go_ret
  exact ⟨_, rfl, Reads.own hown, hb.trans (hb2.mono hb.size)⟩

end Go.Proofs.Qxb6616356a
