/-
  seat b6616381a: (*Processor).keep.
-/
import Derived.Test.Qxb6616381aPut
namespace Go.Proofs.Qxb6616381a
open Go.RowKit Go.Maps Go.WideMaps
set_option linter.unusedVariables false

structure Blks where
  p : Nat
  h0 : Nat
  b0 : Nat
  f0 : Nat
  m0 : Nat
  h1 : Nat
  b1 : Nat
  f1 : Nat
  m1 : Nat

structure Keeper (w : World) (base n : Nat) (k : Blks) (s0 s1 : Hold) : Prop where
  hp : w.heap[k.p]? = some (.cells (procCells n (.pointer (some ⟨k.h0, 0, none⟩)) (.pointer (some ⟨k.h1, 0, none⟩))) 56 (0, 0))
  H0 : Held w n 0 k.h0 k.b0 k.f0 k.m0 s0
  H1 : Held w n 1 k.h1 k.b1 k.f1 k.m1 s1
  nh : k.h0 ≠ k.h1
  nb : k.b0 ≠ k.b1
  nf : k.f0 ≠ k.f1
  nm : k.m0 ≠ k.m1
  g0 : base ≤ k.h0 ∧ base ≤ k.b0 ∧ base ≤ k.f0 ∧ base ≤ k.m0
  g1 : base ≤ k.h1 ∧ base ≤ k.b1 ∧ base ≤ k.f1 ∧ base ≤ k.m1
  gp : base ≤ k.p

/-- Messages stay as they are. -/
def MsgsKept (w w' : World) : Prop := ∀ (q : Nat) (c : Array Value), w.heap[q]? = some (Obj.cells c 35 (0, 0)) → w'.heap[q]? = some (Obj.cells c 35 (0, 0))

theorem Held.drew {w : World} {n ph h b f mm : Nat} {s : Hold} (H : Held w n ph h b f mm s) (k : Nat) : Held (w.drewN k) n ph h b f mm s := H.touch (L := []) ⟨rfl, rfl, rfl, Nat.le_refl _, fun _ _ _ => rfl⟩ (by simp) (by simp) (by simp) (by simp) (by simp)

/-- The blocks of one holding differ from those of the other by their types, or by their names. -/
theorem Keeper.put0 {w w' : World} {base n : Nat} {k : Blks} {s0 s1 s : Hold} (K : Keeper w base n k s0 s1) (hbig : base ≤ w.heap.size) (P : PutPost n 0 k.h0 k.b0 k.f0 k.m0 s w w') : Keeper w' base n k s s1 ∧ Below base w w' ∧ MsgsKept w w' := by
  obtain ⟨HP, ht⟩ := P
  obtain ⟨B, hB, _⟩ := K.H0.hb
  obtain ⟨F, hF, _⟩ := K.H0.hf
  obtain ⟨D, ⟨es, clock, hM, _⟩, _⟩ := K.H0.hm
  obtain ⟨B1, hB1, _⟩ := K.H1.hb
  obtain ⟨F1, hF1, _⟩ := K.H1.hf
  obtain ⟨D1, ⟨es1, clock1, hM1, _⟩, _⟩ := K.H1.hm
  have hh := K.H0.hh
  have hh1 := K.H1.hh
  have hp := K.hp
  have hL : ∀ q ∈ [k.h0, k.b0, k.f0, k.m0], ∀ c, w.heap[q]? ≠ some (.cells c 35 (0, 0)) := by
    intro q hq c
    simp only [List.mem_cons, List.not_mem_nil, or_false] at hq
    rcases hq with rfl | rfl | rfl | rfl
    · rw [hh]; simp
    · rw [hB]; simp
    · rw [hF]; simp
    · rw [hM]; simp
  have ne_of : ∀ {a b : Nat} {x y : Obj}, w.heap[a]? = some x → w.heap[b]? = some y → x ≠ y → a ≠ b := fun h1 h2 hxy e => by
    subst e; rw [h1] at h2; exact hxy (by simpa using h2)
  refine ⟨⟨ht.keep ?_ hp, HP, K.H1.touch ht ?_ ?_ ?_ ?_ hL, K.nh, K.nb, K.nf, K.nm, K.g0, K.g1, K.gp⟩, ht.below hbig (by simp only [List.mem_cons, List.not_mem_nil, or_false]; rintro q (rfl | rfl | rfl | rfl); exact K.g0.1; exact K.g0.2.1; exact K.g0.2.2.1; exact K.g0.2.2.2), fun q c hq => ht.keep (fun hm => hL q hm c hq) hq⟩
  · simp only [List.mem_cons, List.not_mem_nil, or_false, not_or]
    exact ⟨ne_of hp hh (by simp), ne_of hp hB (by simp), ne_of hp hF (by simp), ne_of hp hM (by simp)⟩
  · simp only [List.mem_cons, List.not_mem_nil, or_false, not_or]
    exact ⟨K.nh.symm, ne_of hh1 hB (by simp), ne_of hh1 hF (by simp), ne_of hh1 hM (by simp)⟩
  · simp only [List.mem_cons, List.not_mem_nil, or_false, not_or]
    exact ⟨ne_of hB1 hh (by simp), K.nb.symm, ne_of hB1 hF (by simp), ne_of hB1 hM (by simp)⟩
  · simp only [List.mem_cons, List.not_mem_nil, or_false, not_or]
    exact ⟨ne_of hF1 hh (by simp), ne_of hF1 hB (by simp), K.nf.symm, ne_of hF1 hM (by simp)⟩
  · simp only [List.mem_cons, List.not_mem_nil, or_false, not_or]
    exact ⟨ne_of hM1 hh (by simp), ne_of hM1 hB (by simp), ne_of hM1 hF (by simp), K.nm.symm⟩

theorem Keeper.put1 {w w' : World} {base n : Nat} {k : Blks} {s0 s1 s : Hold} (K : Keeper w base n k s0 s1) (hbig : base ≤ w.heap.size) (P : PutPost n 1 k.h1 k.b1 k.f1 k.m1 s w w') : Keeper w' base n k s0 s ∧ Below base w w' ∧ MsgsKept w w' := by
  obtain ⟨HP, ht⟩ := P
  obtain ⟨B, hB, _⟩ := K.H1.hb
  obtain ⟨F, hF, _⟩ := K.H1.hf
  obtain ⟨D, ⟨es, clock, hM, _⟩, _⟩ := K.H1.hm
  obtain ⟨B1, hB1, _⟩ := K.H0.hb
  obtain ⟨F1, hF1, _⟩ := K.H0.hf
  obtain ⟨D1, ⟨es1, clock1, hM1, _⟩, _⟩ := K.H0.hm
  have hh := K.H1.hh
  have hh1 := K.H0.hh
  have hp := K.hp
  have hL : ∀ q ∈ [k.h1, k.b1, k.f1, k.m1], ∀ c, w.heap[q]? ≠ some (.cells c 35 (0, 0)) := by
    intro q hq c
    simp only [List.mem_cons, List.not_mem_nil, or_false] at hq
    rcases hq with rfl | rfl | rfl | rfl
    · rw [hh]; simp
    · rw [hB]; simp
    · rw [hF]; simp
    · rw [hM]; simp
  have ne_of : ∀ {a b : Nat} {x y : Obj}, w.heap[a]? = some x → w.heap[b]? = some y → x ≠ y → a ≠ b := fun h1 h2 hxy e => by
    subst e; rw [h1] at h2; exact hxy (by simpa using h2)
  refine ⟨⟨ht.keep ?_ hp, K.H0.touch ht ?_ ?_ ?_ ?_ hL, HP, K.nh, K.nb, K.nf, K.nm, K.g0, K.g1, K.gp⟩, ht.below hbig (by simp only [List.mem_cons, List.not_mem_nil, or_false]; rintro q (rfl | rfl | rfl | rfl); exact K.g1.1; exact K.g1.2.1; exact K.g1.2.2.1; exact K.g1.2.2.2), fun q c hq => ht.keep (fun hm => hL q hm c hq) hq⟩
  · simp only [List.mem_cons, List.not_mem_nil, or_false, not_or]
    exact ⟨ne_of hp hh (by simp), ne_of hp hB (by simp), ne_of hp hF (by simp), ne_of hp hM (by simp)⟩
  · simp only [List.mem_cons, List.not_mem_nil, or_false, not_or]
    exact ⟨K.nh, ne_of hh1 hB (by simp), ne_of hh1 hF (by simp), ne_of hh1 hM (by simp)⟩
  · simp only [List.mem_cons, List.not_mem_nil, or_false, not_or]
    exact ⟨ne_of hB1 hh (by simp), K.nb, ne_of hB1 hF (by simp), ne_of hB1 hM (by simp)⟩
  · simp only [List.mem_cons, List.not_mem_nil, or_false, not_or]
    exact ⟨ne_of hF1 hh (by simp), ne_of hF1 hB (by simp), K.nf, ne_of hF1 hM (by simp)⟩
  · simp only [List.mem_cons, List.not_mem_nil, or_false, not_or]
    exact ⟨ne_of hM1 hh (by simp), ne_of hM1 hB (by simp), ne_of hM1 hF (by simp), K.nm⟩

/-- A keeper stays while nothing below the heap's end turns. -/
theorem Keeper.below {w w' : World} {base n : Nat} {k : Blks} {s0 s1 : Hold} (K : Keeper w base n k s0 s1) (hb : Below w.heap.size w w') : Keeper w' base n k s0 s1 := by
  have ht : Touch [] w w' := ⟨hb.os, hb.tape, hb.output, hb.size, fun i hi _ => hb.block i hi⟩
  exact ⟨ht.keep (by simp) K.hp, K.H0.touch ht (by simp) (by simp) (by simp) (by simp) (by simp), K.H1.touch ht (by simp) (by simp) (by simp) (by simp) (by simp), K.nh, K.nb, K.nf, K.nm, K.g0, K.g1, K.gp⟩

end Go.Proofs.Qxb6616381a
