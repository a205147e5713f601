/-
  seat b6616381a: (*Processor).keep, ZZkeep: the contract.
-/
import Derived.Test.Qxb6616381aKeepW
import Derived.Test.Qxb6616381aKeepP
namespace Go.Proofs.Qxb6616381a
open Go.RowKit Go.Maps Go.WideMaps
set_option linter.unusedVariables false

/-- What keep leaves. -/
def KeepPost (base n : Nat) (k : Blks) (L : List Msg) (w w' : World) : Prop := Keeper w' base n k (holdOf n L 0) (holdOf n L 1) ∧ Below base w w' ∧ MsgsKept w w'

theorem hits_ph {m : Msg} {c ph : Nat} (h : m.ph = c) (hne : c ≠ ph) (j : Nat) : m.hits ph j = false := by
  simp only [Msg.hits, Bool.and_eq_false_iff, decide_eq_false_iff_not]
  left; omega

theorem below_draws (w : World) (B m : Nat) : Below B w (w.drewN m) := ⟨rfl, rfl, rfl, Nat.le_refl _, fun _ _ => rfl⟩

theorem post_idle {base n : Nat} {k : Blks} {L : List Msg} {m : Msg} {w : World} (K : Keeper w base n k (holdOf n L 0) (holdOf n L 1)) (hbig : base ≤ w.heap.size)
    (h0 : holdOf n (L ++ [m]) 0 = holdOf n L 0) (h1 : holdOf n (L ++ [m]) 1 = holdOf n L 1) (d : Nat) : KeepPost base n k (L ++ [m]) w (w.drewN d) := by
  refine ⟨?_, below_draws w base d, fun q c hq => hq⟩
  rw [h0, h1]
  exact K.below (below_draws w _ d)

theorem touch_nil_below {w w1 : World} (h : Touch [] w w1) : Below w.heap.size w w1 := ⟨h.os, h.tape, h.output, h.size, fun i hi => h.block i hi (by simp)⟩

theorem keep_any (base n q : Nat) (k : Blks) (L : List Msg) (m : Msg) (w : World) (K : Keeper w base n k (holdOf n L 0) (holdOf n L 1)) (hbig : base ≤ w.heap.size) (hn : n ≤ 65536) (hv : m.val.size ≤ maxLen) (x3 x4 x5 : Value)
    (hq : w.heap[q]? = some (.cells #[.int .i64 m.id, .int .i64 m.ph, .string m.val, x3, x4, x5] 35 (0, 0))) :
    Calls Try.prog 13 #[.pointer (some ⟨k.p, 0, none⟩), .pointer (some ⟨q, 0, none⟩)] w fun e w' => e = .returned (.tuple #[]) ∧ KeepPost base n k (L ++ [m]) w w' := by
  have q0 : w.cell? ⟨q, 0, none⟩ = some (.int .i64 m.id) := cell_at hq rfl
  have q1 : w.cell? ⟨q, 1, none⟩ = some (.int .i64 m.ph) := cell_at hq rfl
  have p1 : w.cell? ⟨k.p, 1, none⟩ = some (.int .i64 n) := cell_at K.hp rfl
  have p7 : w.cell? ⟨k.p, 7, none⟩ = some (.pointer (some ⟨k.h0, 0, none⟩)) := cell_at K.hp rfl
  have p8 : w.cell? ⟨k.p, 8, none⟩ = some (.pointer (some ⟨k.h1, 0, none⟩)) := cell_at K.hp rfl
  have idle : ∀ c : Nat, m.ph = c → (∀ j : Nat, j < n → m.id ≠ j) → ∀ ph, holdOf n (L ++ [m]) ph = holdOf n L ph := fun c hc hid ph => holdOf_snoc_miss fun j hj hm => by
    simp only [Msg.hits, Bool.and_eq_true, decide_eq_true_eq] at hm
    exact absurd hm.2 (hid j hj)
  by_cases e0 : m.ph = 0
  · have hmiss1 : holdOf n (L ++ [m]) 1 = holdOf n L 1 := holdOf_snoc_miss fun j hj hm => by
      rw [hits_ph (c := 0) e0 (by decide) j] at hm; cases hm
    rw [e0] at q1
    by_cases hlo : m.id < 0
    · refine (keep_low0 k.p q m.id w q0 q1 hlo).mono fun e w' ⟨he, d, hw⟩ => ⟨he, ?_⟩
      rw [hw]
      exact post_idle K hbig (idle 0 e0 (fun j hj => by omega) 0) hmiss1 d
    by_cases hhi : (n : Int) ≤ m.id
    · refine (keep_high0 k.p q n m.id w q0 q1 p1 hhi).mono fun e w' ⟨he, d, hw⟩ => ⟨he, ?_⟩
      rw [hw]
      exact post_idle K hbig (idle 0 e0 (fun j hj => by omega) 0) hmiss1 d
    obtain ⟨j, hj⟩ := Int.eq_ofNat_of_zero_le (show 0 ≤ m.id by omega)
    have hjn : j < n := by omega
    have hhit : m.hits 0 j = true := by simp [Msg.hits, e0, hj]
    rw [hj] at q0
    cases hs : holdOf n L 0 j with
    | none =>
      rw [hj, e0] at hq
      refine (keep_put0 n j q k _ _ base m.val w K hbig hn hjn hs hv x3 x4 x5 hq).mono fun e w' ⟨he, w1, ht, hP⟩ => ⟨he, ?_⟩
      have hb1 := touch_nil_below ht
      obtain ⟨K', hb', hm'⟩ := (K.below hb1).put0 (Nat.le_trans hbig hb1.size) hP
      refine ⟨?_, (hb1.mono hbig).trans hb', fun a c hac => hm' a c (ht.keep (by simp) hac)⟩
      rw [holdOf_snoc_hit hjn hhit hs, hmiss1]
      exact K'
    | some x =>
      obtain ⟨B, hB, hBs, hBv⟩ := K.H0.hb
      have hg : B[j]? = some (B[j]'(by omega)) := Array.getElem?_eq_getElem (by omega)
      rcases hBv j _ hjn hg with ⟨hz, _⟩ | ⟨x', q', _, hv', _⟩
      · rw [hs] at hz; cases hz
      · rw [hv'] at hg
        refine (keep_held0 k.p q n k.h0 k.b0 j q' w q0 q1 p1 hjn p7 (cell_at K.H0.hh rfl) (cell_at hB hg)).mono fun e w' ⟨he, d, hw⟩ => ⟨he, ?_⟩
        rw [hw]
        refine post_idle K hbig (holdOf_snoc_miss fun i hi hm => ?_) hmiss1 d
        simp only [Msg.hits, Bool.and_eq_true, decide_eq_true_eq] at hm
        have : i = j := by omega
        subst this
        rw [hs]; rfl
  by_cases e1 : m.ph = 1
  · have hmiss0 : holdOf n (L ++ [m]) 0 = holdOf n L 0 := holdOf_snoc_miss fun j hj hm => by
      rw [hits_ph (c := 1) e1 (by decide) j] at hm; cases hm
    rw [e1] at q1
    by_cases hlo : m.id < 0
    · refine (keep_low1 k.p q m.id w q0 q1 hlo).mono fun e w' ⟨he, d, hw⟩ => ⟨he, ?_⟩
      rw [hw]
      exact post_idle K hbig hmiss0 (idle 1 e1 (fun j hj => by omega) 1) d
    by_cases hhi : (n : Int) ≤ m.id
    · refine (keep_high1 k.p q n m.id w q0 q1 p1 hhi).mono fun e w' ⟨he, d, hw⟩ => ⟨he, ?_⟩
      rw [hw]
      exact post_idle K hbig hmiss0 (idle 1 e1 (fun j hj => by omega) 1) d
    obtain ⟨j, hj⟩ := Int.eq_ofNat_of_zero_le (show 0 ≤ m.id by omega)
    have hjn : j < n := by omega
    have hhit : m.hits 1 j = true := by simp [Msg.hits, e1, hj]
    rw [hj] at q0
    cases hs : holdOf n L 1 j with
    | none =>
      rw [hj, e1] at hq
      refine (keep_put1 n j q k _ _ base m.val w K hbig hn hjn hs hv x3 x4 x5 hq).mono fun e w' ⟨he, w1, ht, hP⟩ => ⟨he, ?_⟩
      have hb1 := touch_nil_below ht
      obtain ⟨K', hb', hm'⟩ := (K.below hb1).put1 (Nat.le_trans hbig hb1.size) hP
      refine ⟨?_, (hb1.mono hbig).trans hb', fun a c hac => hm' a c (ht.keep (by simp) hac)⟩
      rw [holdOf_snoc_hit hjn hhit hs, hmiss0]
      exact K'
    | some x =>
      obtain ⟨B, hB, hBs, hBv⟩ := K.H1.hb
      have hg : B[j]? = some (B[j]'(by omega)) := Array.getElem?_eq_getElem (by omega)
      rcases hBv j _ hjn hg with ⟨hz, _⟩ | ⟨x', q', _, hv', _⟩
      · rw [hs] at hz; cases hz
      · rw [hv'] at hg
        refine (keep_held1 k.p q n k.h1 k.b1 j q' w q0 q1 p1 hjn p8 (cell_at K.H1.hh rfl) (cell_at hB hg)).mono fun e w' ⟨he, d, hw⟩ => ⟨he, ?_⟩
        rw [hw]
        refine post_idle K hbig hmiss0 (holdOf_snoc_miss fun i hi hm => ?_) d
        simp only [Msg.hits, Bool.and_eq_true, decide_eq_true_eq] at hm
        have : i = j := by omega
        subst this
        rw [hs]; rfl
  · refine (keep_phase k.p q m.id m.ph w q1 (by rw [bne_iff_ne]; exact e0) (by rw [bne_iff_ne]; exact e1)).mono fun e w' ⟨he, d, hw⟩ => ⟨he, ?_⟩
    rw [hw]
    refine post_idle K hbig (holdOf_snoc_miss fun j hj hm => ?_) (holdOf_snoc_miss fun j hj hm => ?_) d
    · simp only [Msg.hits, Bool.and_eq_true, decide_eq_true_eq] at hm
      exact absurd hm.1 (by simpa using e0)
    · simp only [Msg.hits, Bool.and_eq_true, decide_eq_true_eq] at hm
      exact absurd hm.1 (by simpa using e1)

theorem zzkeep_any (base n q : Nat) (k : Blks) (L : List Msg) (m : Msg) (w : World) (K : Keeper w base n k (holdOf n L 0) (holdOf n L 1)) (hbig : base ≤ w.heap.size) (hn : n ≤ 65536) (hv : m.val.size ≤ maxLen) (x3 x4 x5 : Value)
    (hq : w.heap[q]? = some (.cells #[.int .i64 m.id, .int .i64 m.ph, .string m.val, x3, x4, x5] 35 (0, 0))) :
    Calls Try.prog 7 #[.pointer (some ⟨k.p, 0, none⟩), .pointer (some ⟨q, 0, none⟩)] w fun e w' => e = .returned (.tuple #[]) ∧ KeepPost base n k (L ++ [m]) w w' := by
  have HC : Hid (Calls Try.prog 13 #[.pointer (some ⟨k.p, 0, none⟩), .pointer (some ⟨q, 0, none⟩)] w fun e w' => e = .returned (.tuple #[]) ∧ KeepPost base n k (L ++ [m]) w w') := keep_any base n q k L m w K hbig hn hv x3 x4 x5 hq
  clear K hq
  go_enter Try.func7, Try.ntmps7
  go_wp2_with fail
  refine HC.out.mono ?_
  rintro e w' ⟨rfl, hP⟩
  go_wp2
  go_end0
  exact ⟨rfl, hP⟩

/-- Out of what ZZnewKeeper makes. -/
theorem keeper_new {w : World} {base n : Nat} {v : Value} (h : NewKeeper base n w v) : ∃ k : Blks, v = .pointer (some ⟨k.p, 0, none⟩) ∧ Keeper w base n k (holdOf n [] 0) (holdOf n [] 1) := by
  obtain ⟨γ, p, x, y, rfl, hp, ⟨⟨h0, a0, a1, a2, rfl, kh0, ⟨b0, rfl, kb0⟩, ⟨f0, rfl, kf0⟩, ⟨m0, rfl, km0⟩⟩, ⟨h1, c0, c1, c2, rfl, kh1, ⟨b1, rfl, kb1⟩, ⟨f1, rfl, kf1⟩, ⟨m1, rfl, km1⟩⟩⟩⟩ := h
  have c0 : ∀ n, cnt (fun _ => none) n = 0 := fun n => by
    induction n with
    | zero => rfl
    | succ n ih => simp [cnt, ih]
  have v0 : ∀ x n, vcount (fun _ => none) x n = 0 := fun x n => by
    induction n with
    | zero => rfl
    | succ n ih => simp [vcount, ih]
  have wz : ∀ k, wd (fun _ => false) k = 0 := fun k => by
    apply Nat.eq_of_testBit_eq
    intro i
    rw [wd_bit]; simp
  have held : ∀ (ph h b f m i j l t : Nat), Blk base w γ h t (.cells #[.slice (some ⟨b, 0, none⟩) n n, .slice (some ⟨f, 0, none⟩) (words n) (words n), .int .i64 0, .map (some m), .pointer none] 49) → Blk base w γ b i (byRow n) → Blk base w γ f j (fromRow n) → Blk base w γ m l (.map #[] 0) → Held w n ph h b f m (fun _ => none) := by
    intro ph h b f m i j l t kh kb kf km
    refine ⟨?_, ⟨_, kb.2.1, ?_, ?_⟩, ⟨_, kf.2.1, ?_, ?_⟩, ⟨.map [], ?_, ?_⟩, ?_⟩
    · rw [c0]; exact kh.2.1
    · rw [size_madeCells]; omega
    · intro j v hj hv
      left
      refine ⟨rfl, ?_⟩
      have := toList_madeCells_one (.pointer none) (n * 1)
      rw [← Array.getElem?_toList, this, List.getElem?_replicate] at hv
      split at hv
      · simpa using hv.symm
      · cases hv
    · rw [size_madeCells]; omega
    · intro k hk
      have := toList_madeCells_one (.int .u64 0) (words n * 1)
      rw [← Array.getElem?_toList, this, List.getElem?_replicate, if_pos (by omega)]
      have e : (fun j : Nat => (Option.isSome (none : Option ByteArray))) = fun _ => false := rfl
      rw [e, wz]
      rfl
    · refine ⟨#[], 0, km.2.1, ⟨by simp, MapKept.stamped_empty 0, by simp⟩, Nat.zero_le _, rfl⟩
    · intro x
      rw [v0]
      exact ⟨rfl, rfl⟩
    · intro j x hx; cases hx
  refine ⟨⟨p, h0, b0, f0, m0, h1, b1, f1, m1⟩, rfl, ⟨hp.2.1, ?_, ?_, ?_, ?_, ?_, ?_, ⟨kh0.1, kb0.1, kf0.1, km0.1⟩, ⟨kh1.1, kb1.1, kf1.1, km1.1⟩, hp.1⟩⟩
  · rw [holdOf_nil]; exact held 0 h0 b0 f0 m0 _ _ _ _ kh0 kb0 kf0 km0
  · rw [holdOf_nil]; exact held 1 h1 b1 f1 m1 _ _ _ _ kh1 kb1 kf1 km1
  · intro e; have e : h0 = h1 := e; subst e; have := kh0.2.2; have := kh1.2.2; omega
  · intro e; have e : b0 = b1 := e; subst e; have := kb0.2.2; have := kb1.2.2; omega
  · intro e; have e : f0 = f1 := e; subst e; have := kf0.2.2; have := kf1.2.2; omega
  · intro e; have e : m0 = m1 := e; subst e; have := km0.2.2; have := km1.2.2; omega
end Go.Proofs.Qxb6616381a
