/-
  seat b6616381a: what a keeper holds of one phase, in memory.
-/
import Derived.Test.Qxb6616381aAdd
namespace Go.Proofs.Qxb6616381a
open Go.RowKit Go.Maps Go.WideMaps
set_option linter.unusedVariables false

theorem law9 : Keyed Try.prog 9 := string_keyed Try.underlying9
theorem zero3 (w : World) : (zeroValue 3).run Try.prog w = .ok (.int .i64 0) w := by kernel_rfl

/-- Nothing has turned but the blocks of the list, and new ones. -/
structure Touch (L : List Nat) (w w' : World) : Prop where
  os : w'.os = w.os
  tape : w'.tape = w.tape
  output : w'.output = w.output
  size : w.heap.size ≤ w'.heap.size
  block : ∀ k, k < w.heap.size → k ∉ L → w'.heap[k]? = w.heap[k]?
theorem Touch.refl (L : List Nat) (w : World) : Touch L w w := ⟨rfl, rfl, rfl, Nat.le_refl _, fun _ _ _ => rfl⟩
theorem Touch.trans {L : List Nat} {a b c : World} (h : Touch L a b) (k : Touch L b c) : Touch L a c :=
  ⟨k.os.trans h.os, k.tape.trans h.tape, k.output.trans h.output, Nat.le_trans h.size k.size, fun i hi hl => (k.block i (Nat.lt_of_lt_of_le hi h.size) hl).trans (h.block i hi hl)⟩
theorem Touch.drew {L : List Nat} {a w : World} (h : Touch L a w) : Touch L a w.drew := ⟨h.os, h.tape, h.output, h.size, h.block⟩
theorem Touch.setCell {L : List Nat} {a w : World} (h : Touch L a w) {p : Addr} (hp : p.block ∈ L) (u : Value) : Touch L a (w.setCell p u) :=
  h.trans ⟨rfl, rfl, rfl, by simp [World.setCell], fun k hk hl => Below.heap_setCell _ _ _ _ (fun e => hl (e ▸ hp))⟩
theorem Touch.alloc {L : List Nat} {a w : World} (h : Touch L a w) (o : Obj) : Touch L a (w.alloc o) :=
  h.trans ⟨rfl, rfl, rfl, by simp, fun k hk hl => Below.heap_alloc _ _ _ hk⟩
theorem Touch.grown {L : List Nat} {a w w' : World} (h : Touch L a w) {g : Nat} (hg : w.grownBy w' (some g)) (hp : g ∈ L) : Touch L a w' :=
  h.trans ⟨hg.os, hg.tape, hg.output, hg.size, fun k hk hl => hg.block k hk (fun e => by cases e; exact hl hp)⟩
theorem Touch.below {L : List Nat} {w w' : World} {B : Nat} (h : Touch L w w') (hB : B ≤ w.heap.size) (hL : ∀ k ∈ L, B ≤ k) : Below B w w' :=
  ⟨h.os, h.tape, h.output, h.size, fun k hk => h.block k (by omega) (fun hm => by have := hL k hm; omega)⟩
theorem Touch.keep {L : List Nat} {w w' : World} (h : Touch L w w') {k : Nat} {o : Obj} (hl : k ∉ L) (ho : w.heap[k]? = some o) : w'.heap[k]? = some o := (h.block k (lt_of_block ho) hl).trans ho

def msgObj (j ph : Nat) (x : ByteArray) : Obj := .cells #[.int .i64 j, .int .i64 ph, .string x, .pointer none, .pointer none, .pointer none] 35
def heldCells (n b f c mm : Nat) : Array Value := #[.slice (some ⟨b, 0, none⟩) n n, .slice (some ⟨f, 0, none⟩) (words n) (words n), .int .i64 c, .map (some mm), .pointer none]

/-- A slot of 'by': nil, or a pointer to the message that is held. -/
def SlotOK (w : World) (ph j : Nat) (o : Option ByteArray) (v : Value) : Prop :=
  (o = none ∧ v = .pointer none) ∨ ∃ x q, o = some x ∧ v = .pointer (some ⟨q, 0, none⟩) ∧ w.heap[q]? = some (msgObj j ph x)

def keyL (s : ByteArray) : Lit := .string s.data.toList
/-- The map counts the values that are held. -/
def Counts (D : DataW Unit) (s : Hold) (n : Nat) : Prop := ∀ v : ByteArray, D.atKey (keyL v) (.lit (.int .i64 0)) = .lit (.int .i64 (vcount s v n)) ∧ Maps.has D (keyL v) = decide (0 < vcount s v n)

structure Held (w : World) (n ph h b f mm : Nat) (s : Hold) : Prop where
  hh : w.heap[h]? = some (.cells (heldCells n b f (cnt s n) mm) 49 (0, 0))
  hb : ∃ B : Array Value, w.heap[b]? = some (.cells B 30 (0, 0)) ∧ B.size = n ∧ ∀ j v, j < n → B[j]? = some v → SlotOK w ph j (s j) v
  hf : ∃ F : Array Value, w.heap[f]? = some (.cells F 42 (0, 0)) ∧ F.size = words n ∧ ∀ k, k < words n → F[k]? = some (.int .u64 (wd (fun j => (s j).isSome) k : Nat))
  hm : ∃ D, w.ownsMap Try.prog 9 (plainElem Try.prog 3) mm (cnt s n) D ∧ Counts D s n
  sz : ∀ j x, s j = some x → x.size ≤ maxLen

theorem SlotOK.touch {L : List Nat} {w w' : World} {ph j : Nat} {o : Option ByteArray} {v : Value} (h : SlotOK w ph j o v) (ht : Touch L w w') (hL : ∀ k ∈ L, ∀ c, w.heap[k]? ≠ some (.cells c 35 (0, 0))) : SlotOK w' ph j o v := by
  rcases h with h | ⟨x, q, rfl, rfl, hq⟩
  · exact .inl h
  · exact .inr ⟨x, q, rfl, rfl, ht.keep (fun hm => hL q hm _ hq) hq⟩

theorem Held.touch {L : List Nat} {w w' : World} {n ph h b f mm : Nat} {s : Hold} (H : Held w n ph h b f mm s) (ht : Touch L w w') (h1 : h ∉ L) (h2 : b ∉ L) (h3 : f ∉ L) (h4 : mm ∉ L) (hL : ∀ k ∈ L, ∀ c, w.heap[k]? ≠ some (.cells c 35 (0, 0))) : Held w' n ph h b f mm s := by
  obtain ⟨B, hB, hBs, hBv⟩ := H.hb
  obtain ⟨F, hF, hFs, hFv⟩ := H.hf
  obtain ⟨D, ⟨es, clock, he, r⟩, hD⟩ := H.hm
  exact ⟨ht.keep h1 H.hh, ⟨B, ht.keep h2 hB, hBs, fun j v hj hv => (hBv j v hj hv).touch ht hL⟩, ⟨F, ht.keep h3 hF, hFs, hFv⟩, ⟨D, ⟨es, clock, ht.keep h4 he, r⟩, hD⟩, H.sz⟩

/-- The cells of a block that is known whole. -/
theorem cell_at {w : World} {g : Nat} {C : Array Value} {t : TypeId} {v : Value} {i : Nat} (h : w.heap[g]? = some (.cells C t (0, 0))) (hv : C[i]? = some v) : w.cell? ⟨g, i, none⟩ = some v := by
  rw [cell_of_row w g i C t (0, 0) h]; exact hv
theorem free_at {w : World} {g : Nat} {C : Array Value} {t : TypeId} (h : w.heap[g]? = some (.cells C t (0, 0))) (i : Nat) : w.frozen? ⟨g, i, none⟩ = false := frozen_of_row w g i C t h
theorem set_at {w : World} {g : Nat} {C : Array Value} {t : TypeId} (h : w.heap[g]? = some (.cells C t (0, 0))) (i : Nat) (u : Value) : (w.setCell ⟨g, i, none⟩ u).heap[g]? = some (.cells (C.setIfInBounds i u) t (0, 0)) := heap_setCell_same w g i C t u h
end Go.Proofs.Qxb6616381a
