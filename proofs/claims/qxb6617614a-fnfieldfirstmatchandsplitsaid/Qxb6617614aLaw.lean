/-
  seat b6617614a: the walk of FnFieldFirstMatchAndSplit.
-/
import Derived.Test.Qxb6617614aFields
import Derived.Deep.RegionHeld3
import Derived.BigRegion
import Derived.LaidEqlPtr
import Derived.Lib.Builder
namespace Go.Proofs.Qxb6617614a
open Go.RowKit
set_option linter.unusedVariables false

theorem Try.info28 : (Try.prog.info? 28).map (fun i => (i.zero, i.size, i.bytes)) = some (some (.agg #[.int .i64 0, .bool false, .slice none 0 0, .int .i64 0]), 4, 48) := by kernel_rfl

/-- The first of those that fit. -/
theorem first_of {nos : List Int} {no : Int} (h : ∃ m, m < nos.length ∧ (nos.getD m 0 == no) = true) : ∃ m, m < nos.length ∧ (nos.getD m 0 == no) = true ∧ ∀ i, i < m → (nos.getD i 0 == no) = false := by
  obtain ⟨m, hm, hy⟩ := h
  induction m using Nat.strongRecOn with
  | ind m ih =>
    by_cases hex : ∃ i, i < m ∧ (nos.getD i 0 == no) = true
    · obtain ⟨i, hi, hyi⟩ := hex
      exact ih i hi (by omega) hyi
    · refine ⟨m, hm, hy, fun i hi => ?_⟩
      cases hb : nos.getD i 0 == no
      · rfl
      · exact absurd ⟨i, hi, hb⟩ hex

/-- One element laid into the call's own row. -/
theorem row_step {w wr : World} {g n k : Nat} {xs : List Value} {es : List El} {el : El} (hk : k < n) (hel : es.getD k El.zero = el) (hown : wr.ownsRow g 28 4 (.slice (some ⟨g, 0, none⟩) n n) n xs)
    (hx : ∀ j, j < k → xs[j * 4]? = some (.int .i64 (es.getD j El.zero).no)) (hbel : Below g w wr) (v1 v2 v3 : Value) :
    ∃ xs', ((((wr.setCell ⟨g, k * 4, none⟩ (.int .i64 el.no)).setCell ⟨g, k * 4 + 1, none⟩ v1).setCell ⟨g, k * 4 + 2, none⟩ v2).setCell ⟨g, k * 4 + 3, none⟩ v3).drew.ownsRow g 28 4 (.slice (some ⟨g, 0, none⟩) n n) n xs' ∧
      (∀ j, j < k + 1 → xs'[j * 4]? = some (.int .i64 (es.getD j El.zero).no)) ∧
      Below g w ((((wr.setCell ⟨g, k * 4, none⟩ (.int .i64 el.no)).setCell ⟨g, k * 4 + 1, none⟩ v1).setCell ⟨g, k * 4 + 2, none⟩ v2).setCell ⟨g, k * 4 + 3, none⟩ v3).drew := by
  have hl : xs.length = n * 4 := hown.1
  refine ⟨_, ((((hown.stored (k * 4) (.int .i64 el.no)).1.stored (k * 4 + 1) v1).1.stored (k * 4 + 2) v2).1.stored (k * 4 + 3) v3).1.drew, ?_, ?_⟩
  · intro j hj
    rw [List.getElem?_set_ne (by omega), List.getElem?_set_ne (by omega), List.getElem?_set_ne (by omega)]
    by_cases h : j = k
    · subst h
      rw [List.getElem?_set_self (by omega), hel]
    · rw [List.getElem?_set_ne (by omega)]
      exact hx j (by omega)
  · exact ((((hbel.setCell (p := ⟨g, _, none⟩) (by simp) _).setCell (p := ⟨g, _, none⟩) (by simp) _).setCell (p := ⟨g, _, none⟩) (by simp) _).setCell (p := ⟨g, _, none⟩) (by simp) _).drew

theorem cells_three (w : World) (x y z : Value) (t : TypeId) : (w.alloc (.cells #[x, y, z] t)).cell? ⟨w.heap.size, 2, none⟩ = some z := by
  rw [World.cell?_alloc_at _ _ _ _ rfl]; rfl

theorem none_take {nos : List Int} {no : Int} {c : Nat} (h : ∀ i, i < nos.length → (nos.getD i 0 == no) = false) : ∀ i, i < (nos.take c).length → ((nos.take c).getD i 0 == no) = false := fun i hi => by
  rw [List.length_take] at hi
  have hic : i < c := by omega
  have := h i (by omega)
  simpa [List.getD_eq_getElem?_getD, hic] using this
theorem none_drop {nos : List Int} {no : Int} {c : Nat} (h : ∀ i, i < nos.length → (nos.getD i 0 == no) = false) : ∀ i, i < (nos.drop c).length → ((nos.drop c).getD i 0 == no) = false := fun i hi => by
  rw [List.length_drop] at hi
  have := h (c + i) (by omega)
  simpa [List.getD_eq_getElem?_getD, List.getElem?_drop] using this
theorem min_take {nos : List Int} {no : Int} {c m : Nat} (h : ∀ i, i < m → (nos.getD i 0 == no) = false) (hm : m ≤ c) : ∀ i, i < m → ((nos.take c).getD i 0 == no) = false := fun i hi => by
  have hic : i < c := by omega
  have := h i hi
  simpa [List.getD_eq_getElem?_getD, hic] using this
theorem none_take_min {nos : List Int} {no : Int} {c m : Nat} (h : ∀ i, i < m → (nos.getD i 0 == no) = false) (hm : c ≤ m) : ∀ i, i < (nos.take c).length → ((nos.take c).getD i 0 == no) = false := fun i hi => by
  rw [List.length_take] at hi
  have hic : i < c := by omega
  have := h i (by omega)
  simpa [List.getD_eq_getElem?_getD, hic] using this
theorem min_drop {nos : List Int} {no : Int} {c m : Nat} (h : ∀ i, i < m → (nos.getD i 0 == no) = false) : ∀ i, i < m - c → ((nos.drop c).getD i 0 == no) = false := fun i hi => by
  have := h (c + i) (by omega)
  simpa [List.getD_eq_getElem?_getD, List.getElem?_drop] using this

/-- The three records, as the walk lays them. -/
theorem recs3 {wr : World} {g : Nat} {nos : List Int} {c : Nat} (hc : c ≤ nos.length) (hg : g < wr.heap.size) (hcells : ∀ i, i < nos.length → wr.cell? ⟨g, i * 4, none⟩ = some (.int .i64 (nos.getD i 0))) (x y : Value)
    (cap1 cap2 cap3 n c' d : Nat) (a3 : Option Addr) (hn : nos.length = n) (hc' : c = c') (hd : n - c = d) (ha3 : c < n → a3 = some ⟨g, c * 4, none⟩) :
    Rec (((wr.alloc (.cells #[x, y, .slice (some ⟨g, 0, none⟩) n cap1] 31)).alloc (.cells #[x, y, .slice (some ⟨g, 0, none⟩) c' cap2] 31)).alloc (.cells #[x, y, .slice a3 d cap3] 31)) wr.heap.size g 0 nos (.slice (some ⟨g, 0, none⟩) n cap1) ∧
    Rec (((wr.alloc (.cells #[x, y, .slice (some ⟨g, 0, none⟩) n cap1] 31)).alloc (.cells #[x, y, .slice (some ⟨g, 0, none⟩) c' cap2] 31)).alloc (.cells #[x, y, .slice a3 d cap3] 31)) (wr.heap.size + 1) g 0 (nos.take c) (.slice (some ⟨g, 0, none⟩) c' cap2) ∧
    Rec (((wr.alloc (.cells #[x, y, .slice (some ⟨g, 0, none⟩) n cap1] 31)).alloc (.cells #[x, y, .slice (some ⟨g, 0, none⟩) c' cap2] 31)).alloc (.cells #[x, y, .slice a3 d cap3] 31)) (wr.heap.size + 1 + 1) g (c * 4) (nos.drop c) (.slice a3 d cap3) := by
  subst hn hc' hd
  have hold : ∀ o, (((wr.alloc (.cells #[x, y, .slice (some ⟨g, 0, none⟩) nos.length cap1] 31)).alloc (.cells #[x, y, .slice (some ⟨g, 0, none⟩) c cap2] 31)).alloc (.cells #[x, y, .slice a3 (nos.length - c) cap3] 31)).cell? ⟨g, o, none⟩ = wr.cell? ⟨g, o, none⟩ := fun o => by
    rw [World.cell?_alloc_past _ _ _ (by simp; omega), World.cell?_alloc_past _ _ _ (by simp; omega), World.cell?_alloc_past _ _ _ hg]
  refine ⟨⟨?_, _, _, rfl, .inr ⟨rfl, fun i hi => ?_⟩⟩, ⟨?_, _, _, by rw [List.length_take, Nat.min_eq_left hc], .inr ⟨rfl, fun i hi => ?_⟩⟩, ⟨?_, _, _, by rw [List.length_drop], ?_⟩⟩
  · rw [World.cell?_alloc_past _ _ _ (by simp; omega), World.cell?_alloc_past _ _ _ (by simp)]
    exact cells_three _ _ _ _ _
  · rw [hold, Nat.zero_add]; exact hcells i hi
  · rw [World.cell?_alloc_past _ _ _ (by simp)]
    simp
  · rw [List.length_take] at hi
    have hic : i < c := by omega
    rw [hold, Nat.zero_add, hcells i (by omega)]
    simp [List.getD_eq_getElem?_getD, hic]
  · have := cells_three ((wr.alloc (.cells #[x, y, .slice (some ⟨g, 0, none⟩) nos.length cap1] 31)).alloc (.cells #[x, y, .slice (some ⟨g, 0, none⟩) c cap2] 31)) x y (.slice a3 (nos.length - c) cap3) 31
    simpa using this
  · by_cases h : c < nos.length
    · refine .inr ⟨ha3 h, fun i hi => ?_⟩
      rw [List.length_drop] at hi
      rw [hold, ← Nat.add_mul, hcells (c + i) (by omega)]
      simp [List.getD_eq_getElem?_getD, List.getElem?_drop]
    · left
      rw [List.drop_eq_nil_iff]
      omega

theorem blk3 {wr : World} {g : Nat} {o o1 o2 o3 : Obj} (h : wr.heap[g]? = some o) : (((wr.alloc o1).alloc o2).alloc o3).heap[g]? = some o := by
  have hlt := lt_of_block h
  rw [Below.heap_alloc _ _ _ (by simp; omega), Below.heap_alloc _ _ _ (by simp; omega), Below.heap_alloc _ _ _ hlt]
  exact h

/-- Field answers some pointer. -/
theorem field_any (rb g off : Nat) (nos : List Int) (S : Value) (no : Int) (w : World) (hr : Rec w rb g off nos S) (hl : nos.length ≤ 1048576) :
    Calls Try.prog 5 #[.pointer (some ⟨rb, 0, none⟩), .int .i64 no] w fun e w' => ∃ q, e = .returned (.pointer q) ∧ w = w' := by
  by_cases h : ∃ m, m < nos.length ∧ (nos.getD m 0 == no) = true
  · obtain ⟨m, hm, hy, hmin⟩ : ∃ m, m < nos.length ∧ (nos.getD m 0 == no) = true ∧ ∀ i, i < m → (nos.getD i 0 == no) = false := first_of h
    exact (field_some rb g off m nos S no w hr hl hm hy hmin).mono fun e w' ⟨he, hw⟩ => ⟨_, he, hw⟩
  · refine (field_none rb g off nos S no w hr hl fun i hi => ?_).mono fun e w' ⟨he, hw⟩ => ⟨_, he, hw⟩
    cases hb : nos.getD i 0 == no
    · rfl
    · exact absurd ⟨i, hi, hb⟩ h

set_option maxHeartbeats 3200000 in
set_option maxRecDepth 100000 in
theorem law_some (b0 b1 : Bool) (ad : Addr) (cap : Nat) (es : List El) (no cut : Int) (w : World) (hv : Elems w (.slice (some ad) es.length cap) es) (hb : ∀ i, i < es.length → (es.getD i El.zero).bl ≤ maxLen) :
    Calls Try.prog 3 #[.bool b0, .bool b1, .slice (some ad) es.length cap, .int .i64 no, .int .i64 cut] w fun e w' => e = .returned (.bool true) ∧ Below w.heap.size w w' := by
  have hv0 := hv
  obtain ⟨a, cap', hva, hn, hl1, hl2, hc⟩ := hv
  simp only [Value.slice.injEq, true_and] at hva
  obtain ⟨rfl, rfl⟩ := hva
  unfold maxLen at hl2
  have hnl := fun (w : World) (a : Option Addr) (n c : Nat) => run_neq_slice_nil_any (P := Try.prog) w 22 26 a n c 0 0 Try.underlying22
  obtain ⟨i0, hi, hz0, hz1, hz2⟩ := info_parts Try.info28
  have hps := fun (w : World) (a : Addr) => Lib.run_neq_ptr_same (P := Try.prog) (tp := 32) w a Try.underlying32 hi
  have hqs := fun (w : World) (a : Addr) => run_eql_ptr_same (P := Try.prog) (tp := 32) w a Try.underlying32 hi
  go_enter Try.func3, Try.ntmps3
  go_wp2_with fail
  refine (bytes_any b0 b1 _ es no cut w hv0 hb).mono ?_
  rintro e w' ⟨β, rfl, rfl, hβ⟩
  cases β
  · clear hβ
    go_wp2
    go_ret
    exact ⟨rfl, Below.refl _ _⟩
  have HB : Hid (∀ i, i < es.length → (es.getD i El.zero).bl ≤ 1048576) := hβ rfl
  clear hβ hb hv0
  by_cases hl : 32768 < es.length
  · go_wp2
    go_ret
    exact ⟨rfl, Below.refl _ _⟩
  have hd1 : decide ((32768 : Int) < (es.length : Int)) = false := decide_eq_false (by omega)
  go_wp2
  go_loop [11, 12] (fun z i => ∃ (k : Nat) (n : Int), k ≤ es.length ∧ i = .int .i64 k ∧ z = .int .i64 n ∧ 0 ≤ n ∧ n ≤ 1048576) (fun _ i => es.length - (intOf i).toNat)
  case atStart => exact ⟨0, _, Nat.zero_le _, rfl, rfl, by omega, by omega⟩
  case round =>
    obtain ⟨k, n, hk, rfl, rfl, h0, h1⟩ := hrel
    by_cases hlt : k < es.length
    · have hne : es ≠ [] := by intro h; rw [h] at hlt; simp at hlt
      obtain ⟨b, off, hab, hbl, hcs⟩ := hc.resolve_left hne
      cases hab
      obtain ⟨c0, c1, c2, c3⟩ := hcs k hlt
      have hbk := HB.out k hlt
      generalize es.getD k El.zero = el at c0 c1 c2 c3 hbk
      clear hcs hc HB
      by_cases hs2 : 1048576 < n + (el.bl : Int)
      · go_wp2
        go_ret
        exact ⟨rfl, Below.refl _ _⟩
      · go_wp2
        go_round
        case rel => exact ⟨k + 1, _, by omega, by go_num, rfl, by omega, by omega⟩
        case measure => simp [intOf]; omega
    · clear HB
      by_cases hc0 : cut < 0
      · go_wp2
        go_ret
        exact ⟨rfl, Below.refl _ _⟩
      by_cases hc1 : (es.length : Int) < cut
      · go_wp2
        go_ret
        exact ⟨rfl, Below.refl _ _⟩
      have hd2 : decide (cut < 0) = false := decide_eq_false hc0
      have hd3 : decide ((es.length : Int) < cut) = false := decide_eq_false hc1
      go_wp2_with (at_make; refine wpList_make_full _ rfl _ _ 27 rfl w.heap.size 28 i0 (.agg #[.int .i64 0, .bool false, .slice none 0 0, .int .i64 0]) 4 Try.underlying27 hi hz0 hz1 .i64 .i64 _ _ es.length rfl rfl rfl rfl (by rw [hz2]; omega) (by unfold maxLen; omega) (Nat.le_refl _) ?_; intro w1 hown1 hgrow1)
      go_loopw [14] (fun i wr => ∃ (k : Nat) (xs : List Value), k ≤ es.length ∧ i = .int .i64 k ∧ wr.ownsRow w.heap.size 28 4 (.slice (some ⟨w.heap.size, 0, none⟩) es.length es.length) es.length xs ∧ Hid (∀ j, j < k → xs[j * 4]? = some (.int .i64 (es.getD j El.zero).no)) ∧ Below w.heap.size w wr) (fun i _ => es.length - (intOf i).toNat)
      case atStart => exact ⟨0, _, Nat.zero_le _, rfl, hown1, fun j hj => absurd hj (by omega), (Below.refl _ _).grown hgrow1 (Nat.le_refl _) (fun k hk => by cases hk)⟩
      case round =>
        obtain ⟨k2, xs, hk2, rfl, hown, HX, hbel⟩ := hrel
        by_cases hlt2 : k2 < es.length
        · have hne : es ≠ [] := by intro h; rw [h] at hlt2; simp at hlt2
          obtain ⟨b, off, hab, hbl, hcs⟩ := hc.resolve_left hne
          cases hab
          obtain ⟨c0, c1, c2, c3⟩ := hcs k2 hlt2
          have c0 := (hbel.cell (p := ⟨b, _, none⟩) hbl).trans c0
          have c1 := (hbel.cell (p := ⟨b, _, none⟩) hbl).trans c1
          have c2 := (hbel.cell (p := ⟨b, _, none⟩) hbl).trans c2
          have c3 := (hbel.cell (p := ⟨b, _, none⟩) hbl).trans c3
          generalize hel : es.getD k2 El.zero = el at c0 c1 c2 c3
          have HEL : Hid (es.getD k2 El.zero = el) := hel
          have hxl : xs.length = es.length * 4 := hown.1
          have d0 := hown.cellAt (k2 * 4) (by omega)
          have d1 := hown.cellAt (k2 * 4 + 1) (by omega)
          have d2 := hown.cellAt (k2 * 4 + 2) (by omega)
          have d3 := hown.cellAt (k2 * 4 + 3) (by omega)
          rw [List.getElem?_eq_getElem (by omega)] at d0 d1 d2 d3
          have f0 := hown.frozenAt (k2 * 4)
          have f1 := hown.frozenAt (k2 * 4 + 1)
          have f2 := hown.frozenAt (k2 * 4 + 2)
          have f3 := hown.frozenAt (k2 * 4 + 3)
          generalize xs[k2 * 4]'(by omega) = y0 at d0
          generalize xs[k2 * 4 + 1]'(by omega) = y1 at d1
          generalize xs[k2 * 4 + 2]'(by omega) = y2 at d2
          generalize xs[k2 * 4 + 3]'(by omega) = y3 at d3
          clear hcs hc hel
          have i1 : (k2 : Int) < (es.length : Int) := by omega
          have hbw : b ≠ w.heap.size := by omega
          go_wp2
          go_region
          go_wp2
          go_roundw
          case rel =>
            obtain ⟨xs', r1, r2, r3⟩ := row_step hlt2 HEL.out hown HX.out hbel (.bool el.null) (.slice el.ba el.bl el.bc) (.int .i64 el.len)
            exact ⟨k2 + 1, xs', by omega, by go_num, r1, r2, r3⟩
          case measure => simp [intOf]; omega
        · obtain ⟨c, rfl⟩ := Int.eq_ofNat_of_zero_le (show 0 ≤ cut by omega)
          have hcn : c ≤ es.length := by omega
          have HC : Hid (∀ i, i < (es.map El.no).length → wr.cell? ⟨w.heap.size, i * 4, none⟩ = some (.int .i64 ((es.map El.no).getD i 0))) := fun i hi => by
            rw [List.length_map] at hi
            rw [hown.cellAt (i * 4) (by omega), HX.out i (by omega)]
            simp [List.getD_eq_getElem?_getD, hi]
          have hgl : w.heap.size < wr.heap.size := (hown.lt _ rfl).2
          obtain ⟨cur, hblk⟩ : ∃ cur, wr.heap[w.heap.size]? = some (.cells cur 28 (0, 0)) := by
            rcases hown.2 with ⟨h', _⟩ | ⟨g', cap', cur, h', _, hg, _⟩
            · simp at h'
            · simp only [Value.slice.injEq, Option.some.injEq, Addr.mk.injEq, and_true, true_and] at h'
              obtain ⟨rfl, rfl⟩ := h'
              exact ⟨cur, hg⟩
          clear hown HX
          have HK : Hid (es = [] ∨ ∃ b off, some ad = some (⟨b, off, none⟩ : Addr) ∧ b < w.heap.size ∧ ∀ i, i < es.length → w.cell? ⟨b, off + i * 4, none⟩ = some (.int .i64 (es.getD i El.zero).no)) := by
            rcases hc with h | ⟨b, off, h1, h2, h3⟩
            · exact .inl h
            · exact .inr ⟨b, off, h1, h2, fun i hi => (h3 i hi).1⟩
          clear hc
          by_cases hlc : c < es.length
          · skip
            obtain ⟨rw1, rh1, rt1⟩ := recs3 (g := w.heap.size) (nos := es.map El.no) (c := c) (by first | (simp; done) | (simp; omega)) hgl HC.out (.bool b0) (.bool b1) es.length es.length (es.length - c) es.length c (es.length - c) (some ⟨w.heap.size, c * 4, none⟩) (by simp) rfl (by omega) (by intro _; first | rfl | (exfalso; omega))
            have hbW : Below w.heap.size w (((wr.alloc (.cells #[.bool b0, .bool b1, .slice (some ⟨w.heap.size, 0, none⟩) es.length es.length] 31)).alloc (.cells #[.bool b0, .bool b1, .slice (some ⟨w.heap.size, 0, none⟩) c es.length] 31)).alloc (.cells #[.bool b0, .bool b1, .slice (some ⟨w.heap.size, c * 4, none⟩) (es.length - c) (es.length - c)] 31)) := ((hbel.alloc hbel.size _).alloc (by simp; omega) _).alloc (by simp; omega) _
            have hblkW : (((wr.alloc (.cells #[.bool b0, .bool b1, .slice (some ⟨w.heap.size, 0, none⟩) es.length es.length] 31)).alloc (.cells #[.bool b0, .bool b1, .slice (some ⟨w.heap.size, 0, none⟩) c es.length] 31)).alloc (.cells #[.bool b0, .bool b1, .slice (some ⟨w.heap.size, c * 4, none⟩) (es.length - c) (es.length - c)] 31)).heap[w.heap.size]? = some (.cells cur 28 (0, 0)) := blk3 hblk
            clear hbel HC hblk
            by_cases hmatch : ∃ m, m < (es.map El.no).length ∧ ((es.map El.no).getD m 0 == no) = true
            · obtain ⟨m, hm, hy, hmin⟩ := first_of hmatch
              have HY : Hid (((es.map El.no).getD m 0 == no) = true) := hy
              have HMIN : Hid (∀ i, i < m → ((es.map El.no).getD i 0 == no) = false) := hmin
              have hmn : m < es.length := by simpa using hm
              clear hy hmin hmatch
              by_cases hmc : m < c
              · skip
                have HM1 : Hid (((es.map El.no).take c).getD m 0 == no) := by
                  show _ = true
                  have : ((es.map El.no).take c).getD m 0 = (es.map El.no).getD m 0 := by simp [List.getD_eq_getElem?_getD, hmc]
                  rw [this]; exact HY.out
                go_wp2_with fail
                refine (field_some _ _ _ m _ _ no _ rw1 (by simp; omega) hm HY.out HMIN.out).mono ?_
                rintro e w' ⟨rfl, rfl⟩
                go_wp2_with fail
                refine (field_some _ _ _ m _ _ no _ rh1 (by simp; omega) (by simp; omega) HM1.out (min_take HMIN.out (by omega))).mono ?_
                rintro e w' ⟨rfl, rfl⟩
                go_wp2_with fail
                refine (field_any _ _ _ _ _ no _ rt1 (by simp; omega)).mono ?_
                rintro e w' ⟨q, rfl, rfl⟩
                clear rw1 rh1 rt1
                go_wp2
                go_loop [22, 23] (fun f i => ∃ k : Nat, k ≤ es.length ∧ i = .int .i64 k ∧ ((k ≤ m ∧ f = .int .i64 (-1)) ∨ (m < k ∧ f = .int .i64 m))) (fun _ i => es.length - (intOf i).toNat)
                case atStart => exact ⟨0, Nat.zero_le _, rfl, .inl ⟨Nat.zero_le _, rfl⟩⟩
                case round =>
                  obtain ⟨k3, hk3, rfl, hf⟩ := hrel
                  by_cases hlt3 : k3 < es.length
                  · have i1 : (k3 : Int) < (es.length : Int) := by omega
                    rcases hf with ⟨hkm, rfl⟩ | ⟨hkm, rfl⟩
                    · by_cases hkk : k3 = m
                      · have hkk' : m = k3 := hkk.symm
                        subst hkk'
                        clear hkk
                        go_wp2
                        go_round
                        case rel => exact ⟨m + 1, by omega, by go_num, .inr ⟨by omega, rfl⟩⟩
                        case measure => simp [intOf]; omega
                      · have hqo := run_eql_ptr_other (P := Try.prog) (tp := 32) (w := _) (a := ⟨w.heap.size, m * 4, none⟩) (b := ⟨w.heap.size, k3 * 4, none⟩) Try.underlying32 hi (by rw [hz1]; decide) (by intro e; simp only [Addr.mk.injEq] at e; omega) hblkW hblkW
                        go_wp2
                        go_round
                        case rel => exact ⟨k3 + 1, by omega, by go_num, .inl ⟨by omega, rfl⟩⟩
                        case measure => simp [intOf]; omega
                    · go_wp2
                      go_round
                      case rel => exact ⟨k3 + 1, by omega, by go_num, .inr ⟨by omega, rfl⟩⟩
                      case measure => simp [intOf]; omega
                  · obtain ⟨hkm, rfl⟩ := hf.resolve_left (by intro h; omega)
                    have hne : es ≠ [] := by intro h; rw [h] at hmn; simp at hmn
                    obtain ⟨b, off, hab, hbl, hcs⟩ := HK.out.resolve_left hne
                    cases hab
                    have hcW : Hid (∀ i, i < es.length → World.cell? (((wr.alloc (.cells #[.bool b0, .bool b1, .slice (some ⟨w.heap.size, 0, none⟩) es.length es.length] 31)).alloc (.cells #[.bool b0, .bool b1, .slice (some ⟨w.heap.size, 0, none⟩) c es.length] 31)).alloc (.cells #[.bool b0, .bool b1, .slice (some ⟨w.heap.size, c * 4, none⟩) (es.length - c) (es.length - c)] 31)) ⟨b, off + i * 4, none⟩ = some (.int .i64 (es.getD i El.zero).no)) := fun i hi => (hbW.cell (p := ⟨b, _, none⟩) hbl).trans (hcs i hi)
                    have hcm := hcW.out m hmn
                    have hym : ((es.getD m El.zero).no == no) = true := by
                      have := HY.out
                      simpa [List.getD_eq_getElem?_getD, hmn] using this
                    have hym' : ((es.getD m El.zero).no != no) = false := by rw [bne, hym]; rfl
                    generalize (es.getD m El.zero).no = x at hcm hym hym'
                    have i2 : (m : Int) < (es.length : Int) := by omega
                    clear hcs hym
                    go_wp2
                    go_loop [24] (fun i => ∃ k : Nat, k ≤ m ∧ i = .int .i64 k) (fun i => m - (intOf i).toNat)
                    case atStart => exact ⟨0, Nat.zero_le _, rfl⟩
                    case round =>
                      obtain ⟨k4, hk4, rfl⟩ := hrel
                      by_cases hlt4 : k4 < m
                      · have hc4 := hcW.out k4 (by omega)
                        have ht4 : ((es.getD k4 El.zero).no == no) = false := by
                          have := HMIN.out k4 hlt4
                          have h4 : k4 < es.length := by omega
                          simpa [List.getD_eq_getElem?_getD, h4] using this
                        generalize (es.getD k4 El.zero).no = x4 at hc4 ht4
                        have i4 : (k4 : Int) < (es.length : Int) := by omega
                        go_wp2
                        go_round
                        case rel => exact ⟨k4 + 1, by omega, by go_num⟩
                        case measure => simp [intOf]; omega
                      · go_wp2
                        go_ret
                        exact ⟨rfl, hbW⟩
              · skip
                have HM1 : Hid (((es.map El.no).drop c).getD (m - c) 0 == no) := by
                  show _ = true
                  have : ((es.map El.no).drop c).getD (m - c) 0 = (es.map El.no).getD m 0 := by rw [List.getD_eq_getElem?_getD, List.getElem?_drop, List.getD_eq_getElem?_getD, show c + (m - c) = m by omega]
                  rw [this]; exact HY.out
                go_wp2_with fail
                refine (field_some _ _ _ m _ _ no _ rw1 (by simp; omega) hm HY.out HMIN.out).mono ?_
                rintro e w' ⟨rfl, rfl⟩
                go_wp2_with fail
                refine (field_none _ _ _ _ _ no _ rh1 (by simp; omega) (none_take_min HMIN.out (by omega))).mono ?_
                rintro e w' ⟨rfl, rfl⟩
                go_wp2_with fail
                refine (field_some _ _ _ (m - c) _ _ no _ rt1 (by simp; omega) (by simp at hm ⊢; omega) HM1.out (min_drop HMIN.out)).mono ?_
                rintro e w' ⟨rfl, rfl⟩
                rw [show c * 4 + (m - c) * 4 = 0 + m * 4 by omega]
                clear rw1 rh1 rt1
                go_wp2
                go_loop [22, 23] (fun f i => ∃ k : Nat, k ≤ es.length ∧ i = .int .i64 k ∧ ((k ≤ m ∧ f = .int .i64 (-1)) ∨ (m < k ∧ f = .int .i64 m))) (fun _ i => es.length - (intOf i).toNat)
                case atStart => exact ⟨0, Nat.zero_le _, rfl, .inl ⟨Nat.zero_le _, rfl⟩⟩
                case round =>
                  obtain ⟨k3, hk3, rfl, hf⟩ := hrel
                  by_cases hlt3 : k3 < es.length
                  · have i1 : (k3 : Int) < (es.length : Int) := by omega
                    rcases hf with ⟨hkm, rfl⟩ | ⟨hkm, rfl⟩
                    · by_cases hkk : k3 = m
                      · have hkk' : m = k3 := hkk.symm
                        subst hkk'
                        clear hkk
                        go_wp2
                        go_round
                        case rel => exact ⟨m + 1, by omega, by go_num, .inr ⟨by omega, rfl⟩⟩
                        case measure => simp [intOf]; omega
                      · have hqo := run_eql_ptr_other (P := Try.prog) (tp := 32) (w := _) (a := ⟨w.heap.size, m * 4, none⟩) (b := ⟨w.heap.size, k3 * 4, none⟩) Try.underlying32 hi (by rw [hz1]; decide) (by intro e; simp only [Addr.mk.injEq] at e; omega) hblkW hblkW
                        go_wp2
                        go_round
                        case rel => exact ⟨k3 + 1, by omega, by go_num, .inl ⟨by omega, rfl⟩⟩
                        case measure => simp [intOf]; omega
                    · go_wp2
                      go_round
                      case rel => exact ⟨k3 + 1, by omega, by go_num, .inr ⟨by omega, rfl⟩⟩
                      case measure => simp [intOf]; omega
                  · obtain ⟨hkm, rfl⟩ := hf.resolve_left (by intro h; omega)
                    have hne : es ≠ [] := by intro h; rw [h] at hmn; simp at hmn
                    obtain ⟨b, off, hab, hbl, hcs⟩ := HK.out.resolve_left hne
                    cases hab
                    have hcW : Hid (∀ i, i < es.length → World.cell? (((wr.alloc (.cells #[.bool b0, .bool b1, .slice (some ⟨w.heap.size, 0, none⟩) es.length es.length] 31)).alloc (.cells #[.bool b0, .bool b1, .slice (some ⟨w.heap.size, 0, none⟩) c es.length] 31)).alloc (.cells #[.bool b0, .bool b1, .slice (some ⟨w.heap.size, c * 4, none⟩) (es.length - c) (es.length - c)] 31)) ⟨b, off + i * 4, none⟩ = some (.int .i64 (es.getD i El.zero).no)) := fun i hi => (hbW.cell (p := ⟨b, _, none⟩) hbl).trans (hcs i hi)
                    have hcm := hcW.out m hmn
                    have hym : ((es.getD m El.zero).no == no) = true := by
                      have := HY.out
                      simpa [List.getD_eq_getElem?_getD, hmn] using this
                    have hym' : ((es.getD m El.zero).no != no) = false := by rw [bne, hym]; rfl
                    generalize (es.getD m El.zero).no = x at hcm hym hym'
                    have i2 : (m : Int) < (es.length : Int) := by omega
                    clear hcs hym
                    go_wp2
                    go_loop [24] (fun i => ∃ k : Nat, k ≤ m ∧ i = .int .i64 k) (fun i => m - (intOf i).toNat)
                    case atStart => exact ⟨0, Nat.zero_le _, rfl⟩
                    case round =>
                      obtain ⟨k4, hk4, rfl⟩ := hrel
                      by_cases hlt4 : k4 < m
                      · have hc4 := hcW.out k4 (by omega)
                        have ht4 : ((es.getD k4 El.zero).no == no) = false := by
                          have := HMIN.out k4 hlt4
                          have h4 : k4 < es.length := by omega
                          simpa [List.getD_eq_getElem?_getD, h4] using this
                        generalize (es.getD k4 El.zero).no = x4 at hc4 ht4
                        have i4 : (k4 : Int) < (es.length : Int) := by omega
                        go_wp2
                        go_round
                        case rel => exact ⟨k4 + 1, by omega, by go_num⟩
                        case measure => simp [intOf]; omega
                      · go_wp2
                        go_ret
                        exact ⟨rfl, hbW⟩
            · skip
              have HN : Hid (∀ i, i < es.length → ((es.getD i El.zero).no == no) = false) := fun i hi => by
                cases hb : (es.getD i El.zero).no == no
                · rfl
                · exact absurd ⟨i, by simpa using hi, by simpa [List.getD_eq_getElem?_getD, hi] using hb⟩ hmatch
              have hno0 : ∀ i, i < (es.map El.no).length → ((es.map El.no).getD i 0 == no) = false := fun i hi => by
                rw [List.length_map] at hi
                have := HN.out i hi
                simpa [List.getD_eq_getElem?_getD, hi] using this
              have HN0 : Hid (∀ i, i < (es.map El.no).length → ((es.map El.no).getD i 0 == no) = false) := hno0
              clear hno0 hmatch
              go_wp2_with fail
              refine (field_none _ _ _ _ _ no _ rw1 (by simp; omega) HN0.out).mono ?_
              rintro e w' ⟨rfl, rfl⟩
              go_wp2_with fail
              refine (field_none _ _ _ _ _ no _ rh1 (by simp; omega) (none_take HN0.out)).mono ?_
              rintro e w' ⟨rfl, rfl⟩
              go_wp2_with fail
              refine (field_none _ _ _ _ _ no _ rt1 (by simp; omega) (none_drop HN0.out)).mono ?_
              rintro e w' ⟨rfl, rfl⟩
              clear rw1 rh1 rt1 HN0
              go_wp2
              go_loop [21] (fun i => ∃ k : Nat, k ≤ es.length ∧ i = .int .i64 k) (fun i => es.length - (intOf i).toNat)
              case atStart => exact ⟨0, Nat.zero_le _, rfl⟩
              case round =>
                obtain ⟨k3, hk3, rfl⟩ := hrel
                by_cases hlt3 : k3 < es.length
                · have hne : es ≠ [] := by intro h; rw [h] at hlt3; simp at hlt3
                  obtain ⟨b, off, hab, hbl, hcs⟩ := HK.out.resolve_left hne
                  cases hab
                  have hck := (hbW.cell (p := ⟨b, _, none⟩) hbl).trans (hcs k3 hlt3)
                  have ht := HN.out k3 hlt3
                  generalize (es.getD k3 El.zero).no = x at hck ht
                  clear hcs
                  go_wp2
                  go_round
                  case rel => exact ⟨k3 + 1, by omega, by go_num⟩
                  case measure => simp [intOf]; omega
                · go_wp2
                  go_ret
                  exact ⟨rfl, hbW⟩
          · have hce : c = es.length := by omega
            subst hce
            obtain ⟨rw1, rh1, rt1⟩ := recs3 (g := w.heap.size) (nos := es.map El.no) (c := es.length) (by first | (simp; done) | (simp; omega)) hgl HC.out (.bool b0) (.bool b1) es.length es.length 0 es.length es.length 0 (some ⟨w.heap.size, 0, none⟩) (by simp) rfl (by omega) (by intro _; first | rfl | (exfalso; omega))
            have hbW : Below w.heap.size w (((wr.alloc (.cells #[.bool b0, .bool b1, .slice (some ⟨w.heap.size, 0, none⟩) es.length es.length] 31)).alloc (.cells #[.bool b0, .bool b1, .slice (some ⟨w.heap.size, 0, none⟩) es.length es.length] 31)).alloc (.cells #[.bool b0, .bool b1, .slice (some ⟨w.heap.size, 0, none⟩) 0 0] 31)) := ((hbel.alloc hbel.size _).alloc (by simp; omega) _).alloc (by simp; omega) _
            have hblkW : (((wr.alloc (.cells #[.bool b0, .bool b1, .slice (some ⟨w.heap.size, 0, none⟩) es.length es.length] 31)).alloc (.cells #[.bool b0, .bool b1, .slice (some ⟨w.heap.size, 0, none⟩) es.length es.length] 31)).alloc (.cells #[.bool b0, .bool b1, .slice (some ⟨w.heap.size, 0, none⟩) 0 0] 31)).heap[w.heap.size]? = some (.cells cur 28 (0, 0)) := blk3 hblk
            clear hbel HC hblk
            by_cases hmatch : ∃ m, m < (es.map El.no).length ∧ ((es.map El.no).getD m 0 == no) = true
            · obtain ⟨m, hm, hy, hmin⟩ := first_of hmatch
              have HY : Hid (((es.map El.no).getD m 0 == no) = true) := hy
              have HMIN : Hid (∀ i, i < m → ((es.map El.no).getD i 0 == no) = false) := hmin
              have hmn : m < es.length := by simpa using hm
              clear hy hmin hmatch
              have hmc : m < es.length := hmn
              have HM1 : Hid (((es.map El.no).take es.length).getD m 0 == no) := by
                show _ = true
                have : ((es.map El.no).take es.length).getD m 0 = (es.map El.no).getD m 0 := by simp [List.getD_eq_getElem?_getD, hmc]
                rw [this]; exact HY.out
              go_wp2_with fail
              refine (field_some _ _ _ m _ _ no _ rw1 (by simp; omega) hm HY.out HMIN.out).mono ?_
              rintro e w' ⟨rfl, rfl⟩
              go_wp2_with fail
              refine (field_some _ _ _ m _ _ no _ rh1 (by simp; omega) (by simp; omega) HM1.out (min_take HMIN.out (by omega))).mono ?_
              rintro e w' ⟨rfl, rfl⟩
              go_wp2_with fail
              refine (field_any _ _ _ _ _ no _ rt1 (by first | (simp; done) | (simp; omega))).mono ?_
              rintro e w' ⟨q, rfl, rfl⟩
              clear rw1 rh1 rt1
              go_wp2
              go_loop [22, 23] (fun f i => ∃ k : Nat, k ≤ es.length ∧ i = .int .i64 k ∧ ((k ≤ m ∧ f = .int .i64 (-1)) ∨ (m < k ∧ f = .int .i64 m))) (fun _ i => es.length - (intOf i).toNat)
              case atStart => exact ⟨0, Nat.zero_le _, rfl, .inl ⟨Nat.zero_le _, rfl⟩⟩
              case round =>
                obtain ⟨k3, hk3, rfl, hf⟩ := hrel
                by_cases hlt3 : k3 < es.length
                · have i1 : (k3 : Int) < (es.length : Int) := by omega
                  rcases hf with ⟨hkm, rfl⟩ | ⟨hkm, rfl⟩
                  · by_cases hkk : k3 = m
                    · have hkk' : m = k3 := hkk.symm
                      subst hkk'
                      clear hkk
                      go_wp2
                      go_round
                      case rel => exact ⟨m + 1, by omega, by go_num, .inr ⟨by omega, rfl⟩⟩
                      case measure => simp [intOf]; omega
                    · have hqo := run_eql_ptr_other (P := Try.prog) (tp := 32) (w := _) (a := ⟨w.heap.size, m * 4, none⟩) (b := ⟨w.heap.size, k3 * 4, none⟩) Try.underlying32 hi (by rw [hz1]; decide) (by intro e; simp only [Addr.mk.injEq] at e; omega) hblkW hblkW
                      go_wp2
                      go_round
                      case rel => exact ⟨k3 + 1, by omega, by go_num, .inl ⟨by omega, rfl⟩⟩
                      case measure => simp [intOf]; omega
                  · go_wp2
                    go_round
                    case rel => exact ⟨k3 + 1, by omega, by go_num, .inr ⟨by omega, rfl⟩⟩
                    case measure => simp [intOf]; omega
                · obtain ⟨hkm, rfl⟩ := hf.resolve_left (by intro h; omega)
                  have hne : es ≠ [] := by intro h; rw [h] at hmn; simp at hmn
                  obtain ⟨b, off, hab, hbl, hcs⟩ := HK.out.resolve_left hne
                  cases hab
                  have hcW : Hid (∀ i, i < es.length → World.cell? (((wr.alloc (.cells #[.bool b0, .bool b1, .slice (some ⟨w.heap.size, 0, none⟩) es.length es.length] 31)).alloc (.cells #[.bool b0, .bool b1, .slice (some ⟨w.heap.size, 0, none⟩) es.length es.length] 31)).alloc (.cells #[.bool b0, .bool b1, .slice (some ⟨w.heap.size, 0, none⟩) 0 0] 31)) ⟨b, off + i * 4, none⟩ = some (.int .i64 (es.getD i El.zero).no)) := fun i hi => (hbW.cell (p := ⟨b, _, none⟩) hbl).trans (hcs i hi)
                  have hcm := hcW.out m hmn
                  have hym : ((es.getD m El.zero).no == no) = true := by
                    have := HY.out
                    simpa [List.getD_eq_getElem?_getD, hmn] using this
                  have hym' : ((es.getD m El.zero).no != no) = false := by rw [bne, hym]; rfl
                  generalize (es.getD m El.zero).no = x at hcm hym hym'
                  have i2 : (m : Int) < (es.length : Int) := by omega
                  clear hcs hym
                  go_wp2
                  go_loop [24] (fun i => ∃ k : Nat, k ≤ m ∧ i = .int .i64 k) (fun i => m - (intOf i).toNat)
                  case atStart => exact ⟨0, Nat.zero_le _, rfl⟩
                  case round =>
                    obtain ⟨k4, hk4, rfl⟩ := hrel
                    by_cases hlt4 : k4 < m
                    · have hc4 := hcW.out k4 (by omega)
                      have ht4 : ((es.getD k4 El.zero).no == no) = false := by
                        have := HMIN.out k4 hlt4
                        have h4 : k4 < es.length := by omega
                        simpa [List.getD_eq_getElem?_getD, h4] using this
                      generalize (es.getD k4 El.zero).no = x4 at hc4 ht4
                      have i4 : (k4 : Int) < (es.length : Int) := by omega
                      go_wp2
                      go_round
                      case rel => exact ⟨k4 + 1, by omega, by go_num⟩
                      case measure => simp [intOf]; omega
                    · go_wp2
                      go_ret
                      exact ⟨rfl, hbW⟩
            · skip
              have HN : Hid (∀ i, i < es.length → ((es.getD i El.zero).no == no) = false) := fun i hi => by
                cases hb : (es.getD i El.zero).no == no
                · rfl
                · exact absurd ⟨i, by simpa using hi, by simpa [List.getD_eq_getElem?_getD, hi] using hb⟩ hmatch
              have hno0 : ∀ i, i < (es.map El.no).length → ((es.map El.no).getD i 0 == no) = false := fun i hi => by
                rw [List.length_map] at hi
                have := HN.out i hi
                simpa [List.getD_eq_getElem?_getD, hi] using this
              have HN0 : Hid (∀ i, i < (es.map El.no).length → ((es.map El.no).getD i 0 == no) = false) := hno0
              clear hno0 hmatch
              go_wp2_with fail
              refine (field_none _ _ _ _ _ no _ rw1 (by simp; omega) HN0.out).mono ?_
              rintro e w' ⟨rfl, rfl⟩
              go_wp2_with fail
              refine (field_none _ _ _ _ _ no _ rh1 (by simp; omega) (none_take HN0.out)).mono ?_
              rintro e w' ⟨rfl, rfl⟩
              go_wp2_with fail
              refine (field_none _ _ _ _ _ no _ rt1 (by first | (simp; done) | (simp; omega)) (none_drop HN0.out)).mono ?_
              rintro e w' ⟨rfl, rfl⟩
              clear rw1 rh1 rt1 HN0
              go_wp2
              go_loop [21] (fun i => ∃ k : Nat, k ≤ es.length ∧ i = .int .i64 k) (fun i => es.length - (intOf i).toNat)
              case atStart => exact ⟨0, Nat.zero_le _, rfl⟩
              case round =>
                obtain ⟨k3, hk3, rfl⟩ := hrel
                by_cases hlt3 : k3 < es.length
                · have hne : es ≠ [] := by intro h; rw [h] at hlt3; simp at hlt3
                  obtain ⟨b, off, hab, hbl, hcs⟩ := HK.out.resolve_left hne
                  cases hab
                  have hck := (hbW.cell (p := ⟨b, _, none⟩) hbl).trans (hcs k3 hlt3)
                  have ht := HN.out k3 hlt3
                  generalize (es.getD k3 El.zero).no = x at hck ht
                  clear hcs
                  go_wp2
                  go_round
                  case rel => exact ⟨k3 + 1, by omega, by go_num⟩
                  case measure => simp [intOf]; omega
                · go_wp2
                  go_ret
                  exact ⟨rfl, hbW⟩
end Go.Proofs.Qxb6617614a
