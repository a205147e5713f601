/-
  seat b6616381a: the book the reversed law keeps beside the keepers: how often, where last, how many.
-/
import Derived.Test.Qxb6616381aMsgs
import Derived.Deep.DeepCutAuto
namespace Go.Proofs.Qxb6616381a
open Go.RowKit Go.Maps Go.WideMaps
set_option linter.unusedVariables false

theorem Try.info3 : (Try.prog.info? 3).map (fun i => (i.zero, i.size, i.bytes)) = some (some (.int .i64 0), 1, 8) := by kernel_rfl
def intRow (n : Nat) : Obj := .cells (madeCells #[Value.int .i64 0] (n * 1)) 3
theorem make_ints (n : Nat) (hn : n ≤ 65536) (w : World) : (Instr.makeSlice 26 (.int .i64 n) (.int .i64 n)).run Try.prog w = .ok (.slice (some ⟨w.heap.size, 0, none⟩) n n) (w.alloc (intRow n)) := by
  obtain ⟨i, hi, hz, hs, hb⟩ := info_parts Try.info3
  have := run_make (P := Try.prog) w 26 3 i (.int .i64 0) Try.underlying26 hi hz .i64 .i64 n n (by omega) (Int.le_refl _) (by rw [hb]; omega) (by omega)
  simp only [Int.toNat_natCast, hs] at this
  exact this

/-- Two rows of n noughts, and the array that holds them, in new blocks. -/
def Pair (w wc : World) (n : Nat) (v : Value) : Prop := ∃ x o0 o1, v = .pointer (some ⟨x, 0, none⟩) ∧ w.heap.size ≤ x ∧ w.heap.size ≤ o0 ∧ w.heap.size ≤ o1 ∧
  wc.heap[x]? = some (.cells #[.slice (some ⟨o0, 0, none⟩) n n, .slice (some ⟨o1, 0, none⟩) n n] 27 (0, 0)) ∧ wc.heap[o0]? = some (intRow n) ∧ wc.heap[o1]? = some (intRow n) ∧ o0 ≠ o1 ∧ Below w.heap.size w wc

theorem three (w : World) (a b c : Obj) : (((w.alloc a).alloc b).alloc c).drew.heap[w.heap.size]? = some a ∧ (((w.alloc a).alloc b).alloc c).drew.heap[w.heap.size + 1]? = some b ∧ (((w.alloc a).alloc b).alloc c).drew.heap[w.heap.size + 1 + 1]? = some c ∧ Below w.heap.size w (((w.alloc a).alloc b).alloc c).drew := by
  have s1 : (w.alloc a).heap.size = w.heap.size + 1 := by simp
  have s2 : ((w.alloc a).alloc b).heap.size = w.heap.size + 1 + 1 := by simp
  refine ⟨?_, ?_, ?_, ?_⟩
  · show (((w.alloc a).alloc b).alloc c).heap[w.heap.size]? = _
    rw [Below.heap_alloc _ _ _ (by omega), Below.heap_alloc _ _ _ (by omega)]
    exact heap_alloc_new _ _
  · show (((w.alloc a).alloc b).alloc c).heap[w.heap.size + 1]? = _
    rw [Below.heap_alloc _ _ _ (by omega), ← s1]
    exact heap_alloc_new _ _
  · show (((w.alloc a).alloc b).alloc c).heap[w.heap.size + 1 + 1]? = _
    rw [← s2]
    exact heap_alloc_new _ _
  · exact (((Touch.refl [] w).alloc a).alloc b).alloc c |>.drew.below (Nat.le_refl _) (by simp)

theorem pair_mk {w wc : World} {n x o0 o1 : Nat} (hx : w.heap.size ≤ x) (h0 : w.heap.size ≤ o0) (h1 : w.heap.size ≤ o1) (hne : o0 ≠ o1) (hb : Below w.heap.size w wc) (ex : wc.heap[x]? = some (.cells #[.slice (some ⟨o0, 0, none⟩) n n, .slice (some ⟨o1, 0, none⟩) n n] 27 (0, 0))) (e0 : wc.heap[o0]? = some (intRow n)) (e1 : wc.heap[o1]? = some (intRow n)) : Pair w wc n (.pointer (some ⟨x, 0, none⟩)) :=
  ⟨x, o0, o1, rfl, hx, h0, h1, ex, e0, e1, hne, hb⟩

def Row (w : World) (b n : Nat) (f : Nat → Nat) : Prop := ∃ C : Array Value, w.heap[b]? = some (.cells C 3 (0, 0)) ∧ C.size = n ∧ ∀ j, j < n → C[j]? = some (.int .i64 (f j : Nat))
theorem Row.touch {L : List Nat} {w w' : World} {b n : Nat} {f : Nat → Nat} (h : Row w b n f) (ht : Touch L w w') (hb : b ∉ L) : Row w' b n f := by
  obtain ⟨C, hC, r⟩ := h
  exact ⟨C, ht.keep hb hC, r⟩
theorem Row.congr {w : World} {b n : Nat} {f g : Nat → Nat} (h : Row w b n f) (e : ∀ j, j < n → g j = f j) : Row w b n g := by
  obtain ⟨C, hC, hs, r⟩ := h
  exact ⟨C, hC, hs, fun j hj => by rw [e j hj]; exact r j hj⟩
theorem Row.put {w : World} {b n j : Nat} {f g : Nat → Nat} {v : Int} (h : Row w b n f) (hj : j < n) (hv : v = (g j : Nat)) (e : ∀ i, i ≠ j → g i = f i) : Row (w.setCell ⟨b, j, none⟩ (.int .i64 v)) b n g := by
  obtain ⟨C, hC, hs, r⟩ := h
  refine ⟨_, set_at hC j _, by simpa using hs, fun i hi => ?_⟩
  rw [Array.getElem?_setIfInBounds]
  by_cases e' : j = i
  · subst e'; rw [if_pos rfl, if_pos (by omega), hv]
  · rw [if_neg e', e i (fun x => e' x.symm)]; exact r i hi
theorem Row.cell {w : World} {b n j : Nat} {f : Nat → Nat} (h : Row w b n f) (hj : j < n) : w.cell? ⟨b, j, none⟩ = some (.int .i64 (f j : Nat)) := by
  obtain ⟨C, hC, hs, r⟩ := h
  exact cell_at hC (r j hj)
theorem Row.free {w : World} {b n : Nat} {f : Nat → Nat} (h : Row w b n f) (j : Nat) : w.frozen? ⟨b, j, none⟩ = false := by
  obtain ⟨C, hC, hs, r⟩ := h
  exact free_at hC j
theorem row_new {w : World} {b n : Nat} (h : w.heap[b]? = some (intRow n)) : Row w b n (fun _ => 0) := by
  refine ⟨_, h, by rw [size_madeCells]; omega, fun j hj => ?_⟩
  have := toList_madeCells_one (.int .i64 0) (n * 1)
  rw [← Array.getElem?_toList, this, List.getElem?_replicate, if_pos (by omega)]
  rfl

structure BB where
  xo : Nat
  o0 : Nat
  o1 : Nat
  xl : Nat
  l0 : Nat
  l1 : Nat
  xd : Nat

structure Book (w : World) (base n : Nat) (ms : List Msg) (k : Nat) (x : BB) : Prop where
  ho : w.heap[x.xo]? = some (.cells #[.slice (some ⟨x.o0, 0, none⟩) n n, .slice (some ⟨x.o1, 0, none⟩) n n] 27 (0, 0))
  hl : w.heap[x.xl]? = some (.cells #[.slice (some ⟨x.l0, 0, none⟩) n n, .slice (some ⟨x.l1, 0, none⟩) n n] 27 (0, 0))
  hd : w.heap[x.xd]? = some (.cells #[.int .i64 (cnt (holdOf n (ms.take k) 0) n : Nat), .int .i64 (cnt (holdOf n (ms.take k) 1) n : Nat)] 38 (0, 0))
  O0 : Row w x.o0 n (fun j => occ ms 0 j k)
  O1 : Row w x.o1 n (fun j => occ ms 1 j k)
  L0 : Row w x.l0 n (fun j => lastI ms 0 j k)
  L1 : Row w x.l1 n (fun j => lastI ms 1 j k)
  nd : x.o0 ≠ x.o1 ∧ x.o0 ≠ x.l0 ∧ x.o0 ≠ x.l1 ∧ x.o1 ≠ x.l0 ∧ x.o1 ≠ x.l1 ∧ x.l0 ≠ x.l1
  nx : x.xd ≠ x.o0 ∧ x.xd ≠ x.o1 ∧ x.xd ≠ x.l0 ∧ x.xd ≠ x.l1 ∧ x.xd ≠ x.xo ∧ x.xd ≠ x.xl
  no : x.xo ≠ x.o0 ∧ x.xo ≠ x.o1 ∧ x.xo ≠ x.l0 ∧ x.xo ≠ x.l1
  nl : x.xl ≠ x.o0 ∧ x.xl ≠ x.o1 ∧ x.xl ≠ x.l0 ∧ x.xl ≠ x.l1
  ge : base ≤ x.o0 ∧ base ≤ x.o1 ∧ base ≤ x.l0 ∧ base ≤ x.l1 ∧ base ≤ x.xd

theorem Book.below {w w' : World} {base n k : Nat} {ms : List Msg} {x : BB} (B : Book w base n ms k x) (hb : Below w.heap.size w w') : Book w' base n ms k x := by
  have ht : Touch [] w w' := ⟨hb.os, hb.tape, hb.output, hb.size, fun i hi _ => hb.block i hi⟩
  exact ⟨ht.keep (by simp) B.ho, ht.keep (by simp) B.hl, ht.keep (by simp) B.hd, B.O0.touch ht (by simp), B.O1.touch ht (by simp), B.L0.touch ht (by simp), B.L1.touch ht (by simp), B.nd, B.nx, B.no, B.nl, B.ge⟩

theorem cnt_none (n : Nat) : cnt (fun _ => none) n = 0 := by
  induction n with
  | zero => rfl
  | succ n ih => simp [cnt, ih]

theorem book_new {w wc wd : World} {n : Nat} {ms : List Msg} {u v : Value} (P : Pair w wc n u) (Q : Pair wc wd n v) : ∃ x : BB, u = .pointer (some ⟨x.xo, 0, none⟩) ∧ v = .pointer (some ⟨x.xl, 0, none⟩) ∧ x.xd = wd.heap.size ∧ Book (wd.alloc (.cells #[.int .i64 0, .int .i64 0] 38)) w.heap.size n ms 0 x ∧ Below w.heap.size w (wd.alloc (.cells #[.int .i64 0, .int .i64 0] 38)) := by
  obtain ⟨xo, o0, o1, rfl, p1, p2, p3, p4, p5, p6, p7, p8⟩ := P
  obtain ⟨xl, l0, l1, rfl, q1, q2, q3, q4, q5, q6, q7, q8⟩ := Q
  have hs := p8.size
  have z1 := lt_of_block p4
  have z2 := lt_of_block p5
  have z3 := lt_of_block p6
  have y1 := lt_of_block q4
  have y2 := lt_of_block q5
  have y3 := lt_of_block q6
  have t1 : Touch [] wc wd := ⟨q8.os, q8.tape, q8.output, q8.size, fun i hi _ => q8.block i hi⟩
  have t2 := (Touch.refl [] wd).alloc (.cells #[.int .i64 0, .int .i64 0] 38)
  have t := t1.trans t2
  have ne : xo ≠ o0 ∧ xo ≠ o1 ∧ xl ≠ l0 ∧ xl ≠ l1 := by
    refine ⟨?_, ?_, ?_, ?_⟩
    · rintro rfl; rw [p4] at p5; simp [intRow] at p5
    · rintro rfl; rw [p4] at p6; simp [intRow] at p6
    · rintro rfl; rw [q4] at q5; simp [intRow] at q5
    · rintro rfl; rw [q4] at q6; simp [intRow] at q6
  have := q8.size
  refine ⟨⟨xo, o0, o1, xl, l0, l1, wd.heap.size⟩, rfl, rfl, rfl, ⟨t.keep (by simp) p4, t2.keep (by simp) q4, ?_, (row_new p5).touch t (by simp), (row_new p6).touch t (by simp), (row_new q5).touch t2 (by simp), (row_new q6).touch t2 (by simp), ?_, ?_, ?_, ?_, ?_⟩, ?_⟩
  · rw [List.take_zero, holdOf_nil, holdOf_nil, cnt_none]
    exact heap_alloc_new _ _
  · exact ⟨p7, by show o0 ≠ l0; omega, by show o0 ≠ l1; omega, by show o1 ≠ l0; omega, by show o1 ≠ l1; omega, q7⟩
  · exact ⟨by show wd.heap.size ≠ o0; omega, by show wd.heap.size ≠ o1; omega, by show wd.heap.size ≠ l0; omega, by show wd.heap.size ≠ l1; omega, by show wd.heap.size ≠ xo; omega, by show wd.heap.size ≠ xl; omega⟩
  · exact ⟨ne.1, ne.2.1, by show xo ≠ l0; omega, by show xo ≠ l1; omega⟩
  · exact ⟨by show xl ≠ o0; omega, by show xl ≠ o1; omega, ne.2.2.1, ne.2.2.2⟩
  · exact ⟨p2, p3, by show w.heap.size ≤ l0; omega, by show w.heap.size ≤ l1; omega, by show w.heap.size ≤ wd.heap.size; omega⟩
  · exact p8.trans (t.below (by omega) (by simp))

theorem Book.miss {w : World} {base n k : Nat} {ms : List Msg} {x : BB} (B : Book w base n ms k x) (hk : k < ms.length) (h : ∀ ph j, ph < 2 → j < n → (ms.getD k zeroM).hits ph j = false) : Book w base n ms (k + 1) x := by
  have e0 : holdOf n (ms.take (k + 1)) 0 = holdOf n (ms.take k) 0 := by
    rw [take_snoc ms k hk]
    exact holdOf_snoc_miss fun j hj hm => by rw [h 0 j (by omega) hj] at hm; cases hm
  have e1 : holdOf n (ms.take (k + 1)) 1 = holdOf n (ms.take k) 1 := by
    rw [take_snoc ms k hk]
    exact holdOf_snoc_miss fun j hj hm => by rw [h 1 j (by omega) hj] at hm; cases hm
  refine ⟨B.ho, B.hl, by rw [e0, e1]; exact B.hd, B.O0.congr fun j hj => ?_, B.O1.congr fun j hj => ?_, B.L0.congr fun j hj => ?_, B.L1.congr fun j hj => ?_, B.nd, B.nx, B.no, B.nl, B.ge⟩
  · rw [occ_succ, h 0 j (by omega) hj]; rfl
  · rw [occ_succ, h 1 j (by omega) hj]; rfl
  · rw [lastI_succ, h 0 j (by omega) hj]; rfl
  · rw [lastI_succ, h 1 j (by omega) hj]; rfl

theorem hits_only {m : Msg} {ph j i : Nat} {ph' : Nat} (h : m.hits ph j = true) (e : ph' ≠ ph ∨ i ≠ j) : m.hits ph' i = false := by
  unfold Msg.hits at *
  simp only [Bool.and_eq_true, decide_eq_true_eq] at h
  rcases e with e | e
  · have : ¬ m.ph = (ph' : Int) := by omega
    simp [this]
  · have : ¬ m.id = (i : Int) := by omega
    simp [this]

theorem hold_not {n k j ph : Nat} {ms : List Msg} (hk : k ≤ ms.length) (hj : j < n) (h0 : occ ms ph j k = 0) : holdOf n (ms.take k) ph j = none := by
  have := hold_occ (n := n) ms ph j hj k hk
  rw [h0] at this
  cases hx : holdOf n (ms.take k) ph j
  · rfl
  · rw [hx] at this; simp at this
theorem hold_is {n k j ph : Nat} {ms : List Msg} (hk : k ≤ ms.length) (hj : j < n) (h0 : occ ms ph j k ≠ 0) : (holdOf n (ms.take k) ph j).isSome = true := by
  rw [hold_occ (n := n) ms ph j hj k hk]; simp; omega

/-- The first of its phase and sender, phase 0. -/
theorem Book.new0 {w : World} {base n k j : Nat} {ms : List Msg} {x : BB} {u v z : Int} (B : Book w base n ms k x) (hk : k < ms.length) (hj : j < n) (hh : (ms.getD k zeroM).hits 0 j = true) (h0 : occ ms 0 j k = 0)
    (hu : u = (cnt (holdOf n (ms.take k) 0) n : Nat) + 1) (hv : v = (occ ms 0 j k : Nat) + 1) (hz : z = (k : Nat)) (hbig : base ≤ w.heap.size) :
    Book (((w.setCell ⟨x.xd, 0, none⟩ (.int .i64 u)).setCell ⟨x.o0, j, none⟩ (.int .i64 v)).setCell ⟨x.l0, j, none⟩ (.int .i64 z)) base n ms (k + 1) x ∧ Below base w (((w.setCell ⟨x.xd, 0, none⟩ (.int .i64 u)).setCell ⟨x.o0, j, none⟩ (.int .i64 v)).setCell ⟨x.l0, j, none⟩ (.int .i64 z)) := by
  obtain ⟨d1, d2, d3, d4, d5, d6⟩ := B.nd
  obtain ⟨x1, x2, x3, x4, x5, x6⟩ := B.nx
  obtain ⟨a1, a2, a3, a4⟩ := B.no
  obtain ⟨b1, b2, b3, b4⟩ := B.nl
  obtain ⟨g1, g2, g3, g4, g5⟩ := B.ge
  have e0 : holdOf n (ms.take (k + 1)) 0 = (holdOf n (ms.take k) 0).put j (ms.getD k zeroM).val := by
    rw [take_snoc ms k hk]; exact holdOf_snoc_hit hj hh (hold_not (by omega) hj h0)
  have e1 : holdOf n (ms.take (k + 1)) 1 = holdOf n (ms.take k) 1 := by
    rw [take_snoc ms k hk]
    exact holdOf_snoc_miss fun i hi hm => by rw [hits_only hh (.inl (by omega))] at hm; cases hm
  have t1 : Touch [x.xd] w (w.setCell ⟨x.xd, 0, none⟩ (.int .i64 u)) := (Touch.refl _ w).setCell (by simp) _
  have t2 : ∀ w : World, Touch [x.o0] w (w.setCell ⟨x.o0, j, none⟩ (.int .i64 v)) := fun w => (Touch.refl _ w).setCell (by simp) _
  have t3 : ∀ w : World, Touch [x.l0] w (w.setCell ⟨x.l0, j, none⟩ (.int .i64 z)) := fun w => (Touch.refl _ w).setCell (by simp) _
  refine ⟨⟨?_, ?_, ?_, ?_, ?_, ?_, ?_, B.nd, B.nx, B.no, B.nl, B.ge⟩, ?_⟩
  · exact (t3 _).keep (by simpa using a3) ((t2 _).keep (by simpa using a1) (t1.keep (by simpa using x5.symm) B.ho))
  · exact (t3 _).keep (by simpa using b3) ((t2 _).keep (by simpa using b1) (t1.keep (by simpa using x6.symm) B.hl))
  · refine (t3 _).keep (by simpa using x3) ((t2 _).keep (by simpa using x1) ?_)
    rw [e0, e1, cnt_put _ hj (hold_not (by omega) hj h0), hu]
    exact set_at B.hd 0 _
  · refine Row.touch (Row.put (B.O0.touch t1 (by simpa using x1.symm)) hj ?_ fun i hi => ?_) (t3 _) (by simpa using d2)
    · rw [hv]; show _ = ((occ ms 0 j (k + 1) : Nat) : Int); rw [occ_succ, hh]; rfl
    · show occ ms 0 i (k + 1) = _; rw [occ_succ, hits_only hh (.inr hi)]; rfl
  · refine Row.congr (Row.touch (((B.O1.touch t1 (by simpa using x2.symm))).touch (t2 _) (by simpa using d1.symm)) (t3 _) (by simpa using d4)) fun i hi => ?_
    rw [occ_succ, hits_only hh (.inl (by omega))]; rfl
  · refine Row.put (Row.touch ((B.L0.touch t1 (by simpa using x3.symm))) (t2 _) (by simpa using d2.symm)) hj ?_ fun i hi => ?_
    · rw [hz]; show _ = ((lastI ms 0 j (k + 1) : Nat) : Int); rw [lastI_succ, hh]; rfl
    · show lastI ms 0 i (k + 1) = _; rw [lastI_succ, hits_only hh (.inr hi)]; rfl
  · refine Row.congr (Row.touch (((B.L1.touch t1 (by simpa using x4.symm))).touch (t2 _) (by simpa using d3.symm)) (t3 _) (by simpa using d6.symm)) fun i hi => ?_
    rw [lastI_succ, hits_only hh (.inl (by omega))]; rfl
  · exact ((((Touch.refl [x.xd, x.o0, x.l0] w).setCell (by simp) _).setCell (by simp) _).setCell (by simp) _).below hbig (by simp; omega)

/-- One more of its phase and sender, phase 0. -/
theorem Book.more0 {w : World} {base n k j : Nat} {ms : List Msg} {x : BB} {v z : Int} (B : Book w base n ms k x) (hk : k < ms.length) (hj : j < n) (hh : (ms.getD k zeroM).hits 0 j = true) (h0 : occ ms 0 j k ≠ 0)
    (hv : v = (occ ms 0 j k : Nat) + 1) (hz : z = (k : Nat)) (hbig : base ≤ w.heap.size) :
    Book ((w.setCell ⟨x.o0, j, none⟩ (.int .i64 v)).setCell ⟨x.l0, j, none⟩ (.int .i64 z)) base n ms (k + 1) x ∧ Below base w ((w.setCell ⟨x.o0, j, none⟩ (.int .i64 v)).setCell ⟨x.l0, j, none⟩ (.int .i64 z)) := by
  obtain ⟨d1, d2, d3, d4, d5, d6⟩ := B.nd
  obtain ⟨x1, x2, x3, x4, x5, x6⟩ := B.nx
  obtain ⟨a1, a2, a3, a4⟩ := B.no
  obtain ⟨b1, b2, b3, b4⟩ := B.nl
  obtain ⟨g1, g2, g3, g4, g5⟩ := B.ge
  have e0 : holdOf n (ms.take (k + 1)) 0 = holdOf n (ms.take k) 0 := by
    rw [take_snoc ms k hk]
    refine holdOf_snoc_miss fun i hi hm => ?_
    by_cases e : i = j
    · subst e; exact hold_is (by omega) hj h0
    · rw [hits_only hh (.inr e)] at hm; cases hm
  have e1 : holdOf n (ms.take (k + 1)) 1 = holdOf n (ms.take k) 1 := by
    rw [take_snoc ms k hk]
    exact holdOf_snoc_miss fun i hi hm => by rw [hits_only hh (.inl (by omega))] at hm; cases hm
  have t2 : ∀ w : World, Touch [x.o0] w (w.setCell ⟨x.o0, j, none⟩ (.int .i64 v)) := fun w => (Touch.refl _ w).setCell (by simp) _
  have t3 : ∀ w : World, Touch [x.l0] w (w.setCell ⟨x.l0, j, none⟩ (.int .i64 z)) := fun w => (Touch.refl _ w).setCell (by simp) _
  refine ⟨⟨?_, ?_, ?_, ?_, ?_, ?_, ?_, B.nd, B.nx, B.no, B.nl, B.ge⟩, ?_⟩
  · exact (t3 _).keep (by simpa using a3) ((t2 _).keep (by simpa using a1) B.ho)
  · exact (t3 _).keep (by simpa using b3) ((t2 _).keep (by simpa using b1) B.hl)
  · refine (t3 _).keep (by simpa using x3) ((t2 _).keep (by simpa using x1) ?_)
    rw [e0, e1]
    exact B.hd
  · refine Row.touch (Row.put B.O0 hj ?_ fun i hi => ?_) (t3 _) (by simpa using d2)
    · rw [hv]; show _ = ((occ ms 0 j (k + 1) : Nat) : Int); rw [occ_succ, hh]; rfl
    · show occ ms 0 i (k + 1) = _; rw [occ_succ, hits_only hh (.inr hi)]; rfl
  · refine Row.congr (Row.touch (B.O1.touch (t2 _) (by simpa using d1.symm)) (t3 _) (by simpa using d4)) fun i hi => ?_
    rw [occ_succ, hits_only hh (.inl (by omega))]; rfl
  · refine Row.put (Row.touch B.L0 (t2 _) (by simpa using d2.symm)) hj ?_ fun i hi => ?_
    · rw [hz]; show _ = ((lastI ms 0 j (k + 1) : Nat) : Int); rw [lastI_succ, hh]; rfl
    · show lastI ms 0 i (k + 1) = _; rw [lastI_succ, hits_only hh (.inr hi)]; rfl
  · refine Row.congr (Row.touch (B.L1.touch (t2 _) (by simpa using d3.symm)) (t3 _) (by simpa using d6.symm)) fun i hi => ?_
    rw [lastI_succ, hits_only hh (.inl (by omega))]; rfl
  · exact (((Touch.refl [x.o0, x.l0] w).setCell (by simp) _).setCell (by simp) _).below hbig (by simp; omega)
/-- The first of its phase and sender, phase 1. -/
theorem Book.new1 {w : World} {base n k j : Nat} {ms : List Msg} {x : BB} {u v z : Int} (B : Book w base n ms k x) (hk : k < ms.length) (hj : j < n) (hh : (ms.getD k zeroM).hits 1 j = true) (h0 : occ ms 1 j k = 0)
    (hu : u = (cnt (holdOf n (ms.take k) 1) n : Nat) + 1) (hv : v = (occ ms 1 j k : Nat) + 1) (hz : z = (k : Nat)) (hbig : base ≤ w.heap.size) :
    Book (((w.setCell ⟨x.xd, 1, none⟩ (.int .i64 u)).setCell ⟨x.o1, j, none⟩ (.int .i64 v)).setCell ⟨x.l1, j, none⟩ (.int .i64 z)) base n ms (k + 1) x ∧ Below base w (((w.setCell ⟨x.xd, 1, none⟩ (.int .i64 u)).setCell ⟨x.o1, j, none⟩ (.int .i64 v)).setCell ⟨x.l1, j, none⟩ (.int .i64 z)) := by
  obtain ⟨f1, d5, d4, d3, d2, f6⟩ := B.nd
  have d1 := f1.symm
  have d6 := f6.symm
  obtain ⟨x2, x1, x4, x3, x5, x6⟩ := B.nx
  obtain ⟨a2, a1, a4, a3⟩ := B.no
  obtain ⟨b2, b1, b4, b3⟩ := B.nl
  obtain ⟨g1, g2, g3, g4, g5⟩ := B.ge
  have e0 : holdOf n (ms.take (k + 1)) 1 = (holdOf n (ms.take k) 1).put j (ms.getD k zeroM).val := by
    rw [take_snoc ms k hk]; exact holdOf_snoc_hit hj hh (hold_not (by omega) hj h0)
  have e1 : holdOf n (ms.take (k + 1)) 0 = holdOf n (ms.take k) 0 := by
    rw [take_snoc ms k hk]
    exact holdOf_snoc_miss fun i hi hm => by rw [hits_only hh (.inl (by omega))] at hm; cases hm
  have t1 : Touch [x.xd] w (w.setCell ⟨x.xd, 1, none⟩ (.int .i64 u)) := (Touch.refl _ w).setCell (by simp) _
  have t2 : ∀ w : World, Touch [x.o1] w (w.setCell ⟨x.o1, j, none⟩ (.int .i64 v)) := fun w => (Touch.refl _ w).setCell (by simp) _
  have t3 : ∀ w : World, Touch [x.l1] w (w.setCell ⟨x.l1, j, none⟩ (.int .i64 z)) := fun w => (Touch.refl _ w).setCell (by simp) _
  refine ⟨⟨?_, ?_, ?_, ?_, ?_, ?_, ?_, B.nd, B.nx, B.no, B.nl, B.ge⟩, ?_⟩
  · exact (t3 _).keep (by simpa using a3) ((t2 _).keep (by simpa using a1) (t1.keep (by simpa using x5.symm) B.ho))
  · exact (t3 _).keep (by simpa using b3) ((t2 _).keep (by simpa using b1) (t1.keep (by simpa using x6.symm) B.hl))
  · refine (t3 _).keep (by simpa using x3) ((t2 _).keep (by simpa using x1) ?_)
    rw [e0, e1, cnt_put _ hj (hold_not (by omega) hj h0), hu]
    exact set_at B.hd 1 _
  · refine Row.congr (Row.touch (((B.O0.touch t1 (by simpa using x2.symm))).touch (t2 _) (by simpa using d1.symm)) (t3 _) (by simpa using d4)) fun i hi => ?_
    rw [occ_succ, hits_only hh (.inl (by omega))]; rfl
  · refine Row.touch (Row.put (B.O1.touch t1 (by simpa using x1.symm)) hj ?_ fun i hi => ?_) (t3 _) (by simpa using d2)
    · rw [hv]; show _ = ((occ ms 1 j (k + 1) : Nat) : Int); rw [occ_succ, hh]; rfl
    · show occ ms 1 i (k + 1) = _; rw [occ_succ, hits_only hh (.inr hi)]; rfl
  · refine Row.congr (Row.touch (((B.L0.touch t1 (by simpa using x4.symm))).touch (t2 _) (by simpa using d3.symm)) (t3 _) (by simpa using d6.symm)) fun i hi => ?_
    rw [lastI_succ, hits_only hh (.inl (by omega))]; rfl
  · refine Row.put (Row.touch ((B.L1.touch t1 (by simpa using x3.symm))) (t2 _) (by simpa using d2.symm)) hj ?_ fun i hi => ?_
    · rw [hz]; show _ = ((lastI ms 1 j (k + 1) : Nat) : Int); rw [lastI_succ, hh]; rfl
    · show lastI ms 1 i (k + 1) = _; rw [lastI_succ, hits_only hh (.inr hi)]; rfl
  · exact ((((Touch.refl [x.xd, x.o1, x.l1] w).setCell (by simp) _).setCell (by simp) _).setCell (by simp) _).below hbig (by simp; omega)

/-- One more of its phase and sender, phase 1. -/
theorem Book.more1 {w : World} {base n k j : Nat} {ms : List Msg} {x : BB} {v z : Int} (B : Book w base n ms k x) (hk : k < ms.length) (hj : j < n) (hh : (ms.getD k zeroM).hits 1 j = true) (h0 : occ ms 1 j k ≠ 0)
    (hv : v = (occ ms 1 j k : Nat) + 1) (hz : z = (k : Nat)) (hbig : base ≤ w.heap.size) :
    Book ((w.setCell ⟨x.o1, j, none⟩ (.int .i64 v)).setCell ⟨x.l1, j, none⟩ (.int .i64 z)) base n ms (k + 1) x ∧ Below base w ((w.setCell ⟨x.o1, j, none⟩ (.int .i64 v)).setCell ⟨x.l1, j, none⟩ (.int .i64 z)) := by
  obtain ⟨f1, d5, d4, d3, d2, f6⟩ := B.nd
  have d1 := f1.symm
  have d6 := f6.symm
  obtain ⟨x2, x1, x4, x3, x5, x6⟩ := B.nx
  obtain ⟨a2, a1, a4, a3⟩ := B.no
  obtain ⟨b2, b1, b4, b3⟩ := B.nl
  obtain ⟨g1, g2, g3, g4, g5⟩ := B.ge
  have e0 : holdOf n (ms.take (k + 1)) 1 = holdOf n (ms.take k) 1 := by
    rw [take_snoc ms k hk]
    refine holdOf_snoc_miss fun i hi hm => ?_
    by_cases e : i = j
    · subst e; exact hold_is (by omega) hj h0
    · rw [hits_only hh (.inr e)] at hm; cases hm
  have e1 : holdOf n (ms.take (k + 1)) 0 = holdOf n (ms.take k) 0 := by
    rw [take_snoc ms k hk]
    exact holdOf_snoc_miss fun i hi hm => by rw [hits_only hh (.inl (by omega))] at hm; cases hm
  have t2 : ∀ w : World, Touch [x.o1] w (w.setCell ⟨x.o1, j, none⟩ (.int .i64 v)) := fun w => (Touch.refl _ w).setCell (by simp) _
  have t3 : ∀ w : World, Touch [x.l1] w (w.setCell ⟨x.l1, j, none⟩ (.int .i64 z)) := fun w => (Touch.refl _ w).setCell (by simp) _
  refine ⟨⟨?_, ?_, ?_, ?_, ?_, ?_, ?_, B.nd, B.nx, B.no, B.nl, B.ge⟩, ?_⟩
  · exact (t3 _).keep (by simpa using a3) ((t2 _).keep (by simpa using a1) B.ho)
  · exact (t3 _).keep (by simpa using b3) ((t2 _).keep (by simpa using b1) B.hl)
  · refine (t3 _).keep (by simpa using x3) ((t2 _).keep (by simpa using x1) ?_)
    rw [e0, e1]
    exact B.hd
  · refine Row.congr (Row.touch (B.O0.touch (t2 _) (by simpa using d1.symm)) (t3 _) (by simpa using d4)) fun i hi => ?_
    rw [occ_succ, hits_only hh (.inl (by omega))]; rfl
  · refine Row.touch (Row.put B.O1 hj ?_ fun i hi => ?_) (t3 _) (by simpa using d2)
    · rw [hv]; show _ = ((occ ms 1 j (k + 1) : Nat) : Int); rw [occ_succ, hh]; rfl
    · show occ ms 1 i (k + 1) = _; rw [occ_succ, hits_only hh (.inr hi)]; rfl
  · refine Row.congr (Row.touch (B.L0.touch (t2 _) (by simpa using d3.symm)) (t3 _) (by simpa using d6.symm)) fun i hi => ?_
    rw [lastI_succ, hits_only hh (.inl (by omega))]; rfl
  · refine Row.put (Row.touch B.L1 (t2 _) (by simpa using d2.symm)) hj ?_ fun i hi => ?_
    · rw [hz]; show _ = ((lastI ms 1 j (k + 1) : Nat) : Int); rw [lastI_succ, hh]; rfl
    · show lastI ms 1 i (k + 1) = _; rw [lastI_succ, hits_only hh (.inr hi)]; rfl
  · exact (((Touch.refl [x.o1, x.l1] w).setCell (by simp) _).setCell (by simp) _).below hbig (by simp; omega)
end Go.Proofs.Qxb6616381a
