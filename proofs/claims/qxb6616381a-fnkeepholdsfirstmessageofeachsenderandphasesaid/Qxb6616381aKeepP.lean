/-
  seat b6616381a: (*Processor).keep: the message is taken in.
-/
import Derived.Test.Qxb6616381aKeep
namespace Go.Proofs.Qxb6616381a
open Go.RowKit Go.Maps Go.WideMaps
set_option linter.unusedVariables false

theorem Touch.cell {L : List Nat} {w w' : World} (h : Touch L w w') {g i : Nat} (hg : g < w.heap.size) (hL : g ∉ L) : w'.cell? ⟨g, i, none⟩ = w.cell? ⟨g, i, none⟩ := World.cell?_of_block (h.block g hg hL)
theorem touch_draws (w : World) (m : Nat) : Touch [] w (w.drewN m) := ⟨rfl, rfl, rfl, Nat.le_refl _, fun _ _ _ => rfl⟩
theorem touch_new (w : World) (m : Nat) (o : Obj) : Touch [] w ((w.drewN m).drew.alloc o) := (touch_draws w m).drew.alloc o
theorem held_new {w : World} {n ph h b f mm : Nat} {s : Hold} (H : Held w n ph h b f mm s) (m : Nat) (o : Obj) : Held ((w.drewN m).drew.alloc o) n ph h b f mm s := H.touch (touch_new w m o) (by simp) (by simp) (by simp) (by simp) (by simp)

set_option maxHeartbeats 3200000 in
theorem keep_put0 (n j q : Nat) (k : Blks) (s0 s1 : Hold) (base : Nat) (v : ByteArray) (w : World) (K : Keeper w base n k s0 s1) (hbig : base ≤ w.heap.size) (hn : n ≤ 65536) (hj : j < n) (h0 : s0 j = none) (hv : v.size ≤ maxLen) (x3 x4 x5 : Value)
    (hq : w.heap[q]? = some (.cells #[.int .i64 j, .int .i64 0, .string v, x3, x4, x5] 35 (0, 0))) :
    Calls Try.prog 13 #[.pointer (some ⟨k.p, 0, none⟩), .pointer (some ⟨q, 0, none⟩)] w fun e w' => e = .returned (.tuple #[]) ∧ ∃ w1 : World, Touch [] w w1 ∧ PutPost n 0 k.h0 k.b0 k.f0 k.m0 (s0.put j v) w1 w' := by
  obtain ⟨B, hB, hBs, hBv⟩ := K.H0.hb
  have hh := K.H0.hh
  have hp := K.hp
  have c0 : w.cell? ⟨k.h0, 0, none⟩ = some (.slice (some ⟨k.b0, 0, none⟩) n n) := cell_at hh rfl
  have q0 : w.cell? ⟨q, 0, none⟩ = some (.int .i64 j) := cell_at hq rfl
  have q1 : w.cell? ⟨q, 1, none⟩ = some (.int .i64 0) := cell_at hq rfl
  have q2 : w.cell? ⟨q, 2, none⟩ = some (.string v) := cell_at hq rfl
  have p1 : w.cell? ⟨k.p, 1, none⟩ = some (.int .i64 n) := cell_at hp rfl
  have p7 : w.cell? ⟨k.p, 7, none⟩ = some (.pointer (some ⟨k.h0, 0, none⟩)) := cell_at hp rfl
  have bj : w.cell? ⟨k.b0, j, none⟩ = some (.pointer none) := by
    have hg : B[j]? = some (B[j]'(by omega)) := Array.getElem?_eq_getElem (by omega)
    rcases hBv j _ hj hg with ⟨_, hv0⟩ | ⟨x, q', hx, _⟩
    · rw [hv0] at hg; exact cell_at hB hg
    · rw [h0] at hx; cases hx
  have t2 : decide ((j : Int) < 0) = false := decide_eq_false (by omega)
  have t3 : decide ((n : Int) ≤ (j : Int)) = false := decide_eq_false (by omega)
  have ij : (j : Int) < (n : Int) := by omega
  obtain ⟨F, hF, _⟩ := K.H0.hf
  obtain ⟨D, ⟨es, clock, hM, _⟩, _⟩ := K.H0.hm
  have ne_of : ∀ {a b : Nat} {x y : Obj}, w.heap[a]? = some x → w.heap[b]? = some y → x ≠ y → a ≠ b := fun h1 h2 hxy e => by
    subst e; rw [h1] at h2; exact hxy (by simpa using h2)
  have nqL : q ∉ [k.h0, k.b0, k.f0, k.m0] := by
    simp only [List.mem_cons, List.not_mem_nil, or_false, not_or]
    exact ⟨ne_of hq hh (by simp), ne_of hq hB (by simp), ne_of hq hF (by simp), ne_of hq hM (by simp)⟩
  have npL : k.p ∉ [k.h0, k.b0, k.f0, k.m0] := by
    simp only [List.mem_cons, List.not_mem_nil, or_false, not_or]
    exact ⟨ne_of hp hh (by simp), ne_of hp hB (by simp), ne_of hp hF (by simp), ne_of hp hM (by simp)⟩
  have HK : Hid (Keeper w base n k s0 s1) := K
  have AFT : Hid (∀ (m : Nat) (o : Obj) (w2 : World), PutPost n 0 k.h0 k.b0 k.f0 k.m0 (s0.put j v) ((w.drewN m).drew.alloc o) w2 → w2.cell? ⟨q, 0, none⟩ = some (.int .i64 j) ∧ w2.cell? ⟨q, 1, none⟩ = some (.int .i64 0) ∧ w2.cell? ⟨q, 2, none⟩ = some (.string v) ∧ w2.cell? ⟨k.p, 7, none⟩ = some (.pointer (some ⟨k.h0, 0, none⟩))) := fun m o w2 hP => by
    have tn := touch_new w m o
    have lq := lt_of_block hq
    have lp := lt_of_block hp
    have lq' := lt_of_block (tn.keep (by simp) hq)
    have lp' := lt_of_block (tn.keep (by simp) hp)
    exact ⟨((hP.2.cell lq' nqL).trans (tn.cell lq (by simp))).trans q0, ((hP.2.cell lq' nqL).trans (tn.cell lq (by simp))).trans q1, ((hP.2.cell lq' nqL).trans (tn.cell lq (by simp))).trans q2, ((hP.2.cell lp' npL).trans (tn.cell lp (by simp))).trans p7⟩
  clear K hB hBs hBv hh hp hq hF hM ne_of nqL npL
  go_enter Try.func13, Try.ntmps13
  go_wp2
  go_quiet (fail)
  go_wp2
  clear bj c0 t2 t3 ij p1
  go_region_held3 (fun w' => w'.cell? ⟨q, 0, none⟩ = some (.int .i64 j) ∧ w'.cell? ⟨q, 1, none⟩ = some (.int .i64 0) ∧ w'.cell? ⟨q, 2, none⟩ = some (.string v) ∧ w'.cell? ⟨k.p, 7, none⟩ = some (.pointer (some ⟨k.h0, 0, none⟩))) (first | go_keep | exact AFT.out _ _ _ hP2) (first | (go_at_call 17; refine (put_any n 0 k.h0 k.b0 k.f0 k.m0 j _ s0 v _ ?_ hn hj h0 hv ?_).mono ?_; exact held_new HK.out.H0 _ _; exact heap_alloc_new _ _; rintro e w2 ⟨rfl, hP2⟩))
  go_end0
  exact ⟨rfl, _, touch_new w _ _, hP2⟩
set_option maxHeartbeats 3200000 in
theorem keep_put1 (n j q : Nat) (k : Blks) (s0 s1 : Hold) (base : Nat) (v : ByteArray) (w : World) (K : Keeper w base n k s0 s1) (hbig : base ≤ w.heap.size) (hn : n ≤ 65536) (hj : j < n) (h0 : s1 j = none) (hv : v.size ≤ maxLen) (x3 x4 x5 : Value)
    (hq : w.heap[q]? = some (.cells #[.int .i64 j, .int .i64 1, .string v, x3, x4, x5] 35 (0, 0))) :
    Calls Try.prog 13 #[.pointer (some ⟨k.p, 0, none⟩), .pointer (some ⟨q, 0, none⟩)] w fun e w' => e = .returned (.tuple #[]) ∧ ∃ w1 : World, Touch [] w w1 ∧ PutPost n 1 k.h1 k.b1 k.f1 k.m1 (s1.put j v) w1 w' := by
  obtain ⟨B, hB, hBs, hBv⟩ := K.H1.hb
  have hh := K.H1.hh
  have hp := K.hp
  have c0 : w.cell? ⟨k.h1, 0, none⟩ = some (.slice (some ⟨k.b1, 0, none⟩) n n) := cell_at hh rfl
  have q0 : w.cell? ⟨q, 0, none⟩ = some (.int .i64 j) := cell_at hq rfl
  have q1 : w.cell? ⟨q, 1, none⟩ = some (.int .i64 1) := cell_at hq rfl
  have q2 : w.cell? ⟨q, 2, none⟩ = some (.string v) := cell_at hq rfl
  have p1 : w.cell? ⟨k.p, 1, none⟩ = some (.int .i64 n) := cell_at hp rfl
  have p7 : w.cell? ⟨k.p, 8, none⟩ = some (.pointer (some ⟨k.h1, 0, none⟩)) := cell_at hp rfl
  have bj : w.cell? ⟨k.b1, j, none⟩ = some (.pointer none) := by
    have hg : B[j]? = some (B[j]'(by omega)) := Array.getElem?_eq_getElem (by omega)
    rcases hBv j _ hj hg with ⟨_, hv0⟩ | ⟨x, q', hx, _⟩
    · rw [hv0] at hg; exact cell_at hB hg
    · rw [h0] at hx; cases hx
  have t2 : decide ((j : Int) < 0) = false := decide_eq_false (by omega)
  have t3 : decide ((n : Int) ≤ (j : Int)) = false := decide_eq_false (by omega)
  have ij : (j : Int) < (n : Int) := by omega
  obtain ⟨F, hF, _⟩ := K.H1.hf
  obtain ⟨D, ⟨es, clock, hM, _⟩, _⟩ := K.H1.hm
  have ne_of : ∀ {a b : Nat} {x y : Obj}, w.heap[a]? = some x → w.heap[b]? = some y → x ≠ y → a ≠ b := fun h1 h2 hxy e => by
    subst e; rw [h1] at h2; exact hxy (by simpa using h2)
  have nqL : q ∉ [k.h1, k.b1, k.f1, k.m1] := by
    simp only [List.mem_cons, List.not_mem_nil, or_false, not_or]
    exact ⟨ne_of hq hh (by simp), ne_of hq hB (by simp), ne_of hq hF (by simp), ne_of hq hM (by simp)⟩
  have npL : k.p ∉ [k.h1, k.b1, k.f1, k.m1] := by
    simp only [List.mem_cons, List.not_mem_nil, or_false, not_or]
    exact ⟨ne_of hp hh (by simp), ne_of hp hB (by simp), ne_of hp hF (by simp), ne_of hp hM (by simp)⟩
  have HK : Hid (Keeper w base n k s0 s1) := K
  have AFT : Hid (∀ (m : Nat) (o : Obj) (w2 : World), PutPost n 1 k.h1 k.b1 k.f1 k.m1 (s1.put j v) ((w.drewN m).drew.alloc o) w2 → w2.cell? ⟨q, 0, none⟩ = some (.int .i64 j) ∧ w2.cell? ⟨q, 1, none⟩ = some (.int .i64 1) ∧ w2.cell? ⟨q, 2, none⟩ = some (.string v) ∧ w2.cell? ⟨k.p, 8, none⟩ = some (.pointer (some ⟨k.h1, 0, none⟩))) := fun m o w2 hP => by
    have tn := touch_new w m o
    have lq := lt_of_block hq
    have lp := lt_of_block hp
    have lq' := lt_of_block (tn.keep (by simp) hq)
    have lp' := lt_of_block (tn.keep (by simp) hp)
    exact ⟨((hP.2.cell lq' nqL).trans (tn.cell lq (by simp))).trans q0, ((hP.2.cell lq' nqL).trans (tn.cell lq (by simp))).trans q1, ((hP.2.cell lq' nqL).trans (tn.cell lq (by simp))).trans q2, ((hP.2.cell lp' npL).trans (tn.cell lp (by simp))).trans p7⟩
  clear K hB hBs hBv hh hp hq hF hM ne_of nqL npL
  go_enter Try.func13, Try.ntmps13
  go_wp2
  go_quiet (fail)
  go_wp2
  clear bj c0 t2 t3 ij p1
  go_region_held3 (fun w' => w'.cell? ⟨q, 0, none⟩ = some (.int .i64 j) ∧ w'.cell? ⟨q, 1, none⟩ = some (.int .i64 1) ∧ w'.cell? ⟨q, 2, none⟩ = some (.string v) ∧ w'.cell? ⟨k.p, 8, none⟩ = some (.pointer (some ⟨k.h1, 0, none⟩))) (first | go_keep | exact AFT.out _ _ _ hP2) (first | (go_at_call 17; refine (put_any n 1 k.h1 k.b1 k.f1 k.m1 j _ s1 v _ ?_ hn hj h0 hv ?_).mono ?_; exact held_new HK.out.H1 _ _; exact heap_alloc_new _ _; rintro e w2 ⟨rfl, hP2⟩))
  go_end0
  exact ⟨rfl, _, touch_new w _ _, hP2⟩
end Go.Proofs.Qxb6616381a
