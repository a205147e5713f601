/-
  seat b6616381a: the book the first law keeps: where each sender and phase is first named.
-/
import Derived.Test.Qxb6616381aBook
import Derived.Test.Qxb6616381aMatch
namespace Go.Proofs.Qxb6616381a
open Go.RowKit Go.Maps Go.WideMaps
set_option linter.unusedVariables false

theorem RowZ.congr {w : World} {b n : Nat} {f g : Nat → Int} (h : RowZ w b n f) (e : ∀ j, j < n → g j = f j) : RowZ w b n g := by
  obtain ⟨C, hC, hs, r⟩ := h
  exact ⟨C, hC, hs, fun j hj => by rw [e j hj]; exact r j hj⟩
theorem RowZ.put {w : World} {b n j : Nat} {f g : Nat → Int} {v : Int} (h : RowZ w b n f) (hj : j < n) (hv : v = g j) (e : ∀ i, i < n → i ≠ j → g i = f i) : RowZ (w.setCell ⟨b, j, none⟩ (.int .i64 v)) b n g := by
  obtain ⟨C, hC, hs, r⟩ := h
  refine ⟨_, set_at hC j _, by simpa using hs, fun i hi => ?_⟩
  rw [Array.getElem?_setIfInBounds]
  by_cases e' : j = i
  · subst e'; rw [if_pos rfl, if_pos (by omega), hv]
  · rw [if_neg e', e i hi (fun x => e' x.symm)]; exact r i hi
theorem RowZ.free {w : World} {b n : Nat} {f : Nat → Int} (h : RowZ w b n f) (j : Nat) : w.frozen? ⟨b, j, none⟩ = false := by
  obtain ⟨C, hC, hs, r⟩ := h
  exact free_at hC j
theorem rowZ_new {w : World} {b n : Nat} (h : w.heap[b]? = some (intRow n)) : RowZ w b n (fun _ => 0) := by
  obtain ⟨C, hC, hs, r⟩ := row_new h
  exact ⟨C, hC, hs, r⟩

structure FB where
  xf : Nat
  r0 : Nat
  r1 : Nat

structure IB (w : World) (base n : Nat) (x : FB) (f0 f1 : Nat → Int) : Prop where
  hf : w.heap[x.xf]? = some (.cells #[.slice (some ⟨x.r0, 0, none⟩) n n, .slice (some ⟨x.r1, 0, none⟩) n n] 27 (0, 0))
  R0 : RowZ w x.r0 n f0
  R1 : RowZ w x.r1 n f1
  nd : x.r0 ≠ x.r1 ∧ x.xf ≠ x.r0 ∧ x.xf ≠ x.r1
  ge : base ≤ x.r0 ∧ base ≤ x.r1

theorem IB.below {w w' : World} {base n : Nat} {x : FB} {f0 f1 : Nat → Int} (B : IB w base n x f0 f1) (hb : Below w.heap.size w w') : IB w' base n x f0 f1 := by
  have ht := touch_of_below hb
  exact ⟨ht.keep (by simp) B.hf, B.R0.touch ht (by simp), B.R1.touch ht (by simp), B.nd, B.ge⟩
theorem IB.congr {w : World} {base n : Nat} {x : FB} {f0 f1 g0 g1 : Nat → Int} (B : IB w base n x f0 f1) (h0 : ∀ j, j < n → g0 j = f0 j) (h1 : ∀ j, j < n → g1 j = f1 j) : IB w base n x g0 g1 := ⟨B.hf, B.R0.congr h0, B.R1.congr h1, B.nd, B.ge⟩

theorem IB.set0 {w : World} {base n j : Nat} {x : FB} {f0 f1 g0 g1 : Nat → Int} {v : Int} (B : IB w base n x f0 f1) (hbig : base ≤ w.heap.size) (hj : j < n) (hv : v = g0 j) (e : ∀ i, i < n → i ≠ j → g0 i = f0 i) (e1 : ∀ i, i < n → g1 i = f1 i) : IB (w.setCell ⟨x.r0, j, none⟩ (.int .i64 v)) base n x g0 g1 ∧ Below base w (w.setCell ⟨x.r0, j, none⟩ (.int .i64 v)) := by
  obtain ⟨d1, d2, d3⟩ := B.nd
  have t : Touch [x.r0] w (w.setCell ⟨x.r0, j, none⟩ (.int .i64 v)) := (Touch.refl _ w).setCell (by simp) _
  exact ⟨⟨t.keep (by simpa using d2) B.hf, B.R0.put hj hv e, (B.R1.touch t (by simpa using d1.symm)).congr e1, B.nd, B.ge⟩, t.below hbig (by simpa using B.ge.1)⟩
theorem IB.set1 {w : World} {base n j : Nat} {x : FB} {f0 f1 g0 g1 : Nat → Int} {v : Int} (B : IB w base n x f0 f1) (hbig : base ≤ w.heap.size) (hj : j < n) (hv : v = g1 j) (e : ∀ i, i < n → i ≠ j → g1 i = f1 i) (e1 : ∀ i, i < n → g0 i = f0 i) : IB (w.setCell ⟨x.r1, j, none⟩ (.int .i64 v)) base n x g0 g1 ∧ Below base w (w.setCell ⟨x.r1, j, none⟩ (.int .i64 v)) := by
  obtain ⟨d1, d2, d3⟩ := B.nd
  have t : Touch [x.r1] w (w.setCell ⟨x.r1, j, none⟩ (.int .i64 v)) := (Touch.refl _ w).setCell (by simp) _
  exact ⟨⟨t.keep (by simpa using d3) B.hf, (B.R0.touch t (by simpa using d1)).congr e1, B.R1.put hj hv e, B.nd, B.ge⟩, t.below hbig (by simpa using B.ge.2)⟩

theorem ib_new {w wc : World} {n : Nat} {u : Value} (P : Pair w wc n u) : ∃ x : FB, u = .pointer (some ⟨x.xf, 0, none⟩) ∧ IB wc w.heap.size n x (fun _ => 0) (fun _ => 0) ∧ Below w.heap.size w wc := by
  obtain ⟨xo, o0, o1, rfl, p1, p2, p3, p4, p5, p6, p7, p8⟩ := P
  refine ⟨⟨xo, o0, o1⟩, rfl, ⟨p4, rowZ_new p5, rowZ_new p6, ⟨p7, ?_, ?_⟩, ⟨p2, p3⟩⟩, p8⟩
  · intro e; have e : xo = o0 := e; subst e; rw [p4] at p5; simp [intRow] at p5
  · intro e; have e : xo = o1 := e; subst e; rw [p4] at p6; simp [intRow] at p6

theorem fst_step (ms : List Msg) (ph j k : Nat) (hk : k < ms.length) : fstI ms ph j (ms.length - k) = if (ms.getD k zeroM).hits ph j then (k : Int) else fstI ms ph j (ms.length - (k + 1)) := by
  have e : ms.length - k = ms.length - (k + 1) + 1 := by omega
  rw [e, fstI_succ]
  have e2 : ms.length - (ms.length - (k + 1) + 1) = k := by omega
  rw [e2]
end Go.Proofs.Qxb6616381a
