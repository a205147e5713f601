/-
  seat b6616356a: the walk of FnForPartsEachSplitsAtAnyCut.
-/
import Derived.Test.Qxb6616356aLaws
namespace Go.Proofs.Qxb6616356a
open Go.RowKit
set_option linter.unusedVariables false

theorem bytes4_ok (b0 b2 : Bool) (a1 a3 a5 : Int) (a : Option Addr) (n cap : Nat) (w : World) (h : n ≤ 131072) : Calls Try.prog 10 #[.bool b0, .int .i64 a1, .bool b2, .int .i64 a3, .slice a n cap, .int .i64 a5] w fun e w' => e = .returned (.bool true) ∧ w = w' := by
  go_enter Try.func10, Try.ntmps10
  go_wp2
  go_ret
  exact ⟨rfl, rfl⟩

theorem vis_split (a0 a2 : Bool) (a1 a3 : Int) (us : List Int) (c : Nat) : vis a0 a1 a2 a3 us = vis a0 a1 a2 a3 (us.take c) ++ us.drop c := by
  unfold vis
  rw [List.append_assoc _ (us.take c), List.take_append_drop]

set_option maxHeartbeats 1600000 in
set_option maxRecDepth 100000 in
theorem cut_walk_some (a0 a2 : Bool) (a1 a3 : Int) (b off cap c : Nat) (us : List Int) (w : World) (hb : b < w.heap.size) (hcs : ∀ i, i < us.length → w.cell? ⟨b, off + i, none⟩ = some (.int .i64 (us.getD i 0))) (h1 : us.length ≤ 131072) (hcap : us.length ≤ cap) (hcm : cap ≤ maxLen) (hlt : c < us.length) :
    Calls Try.prog 4 #[.bool a0, .int .i64 a1, .bool a2, .int .i64 a3, .slice (some ⟨b, off, none⟩) us.length cap, .int .i64 c] w fun e w' => e = .returned (.bool true) ∧ Below w.heap.size w w' := by
  unfold maxLen at hcm
  have hc : c ≤ us.length := by omega
  have hus : Reads w (.slice (some ⟨b, off, none⟩) us.length cap) us := ⟨_, _, rfl, .inr ⟨b, off, rfl, hb, hcs⟩⟩
  have hhead : Reads w (.slice (some ⟨b, off, none⟩) c cap) (us.take c) := ⟨_, _, by rw [List.length_take, Nat.min_eq_left hc], .inr ⟨b, off, rfl, hb, fun i hi => by
    rw [List.length_take] at hi; rw [hcs i (by omega)]; have hic : i < c := by omega
    simp [List.getD_eq_getElem?_getD, hic]⟩⟩
  have HC : Hid (∀ i, i < us.length → w.cell? ⟨b, off + i, none⟩ = some (.int .i64 (us.getD i 0))) := hcs
  clear hcs
  have hd0 : decide ((c : Int) < 0) = false := decide_eq_false (by omega)
  have hd1 : decide ((131072 : Int) < (us.length : Int)) = false := decide_eq_false (by omega)
  · go_enter Try.func4, Try.ntmps4
    go_wp2_with fail
    refine (bytes4_ok a0 a2 a1 a3 c _ us.length cap w h1).mono ?_
    rintro e w' ⟨rfl, rfl⟩
    have htail : Reads w (.slice (some ⟨b, off + c, none⟩) (us.length - c) (cap - c)) (us.drop c) := ⟨_, _, by rw [List.length_drop], .inr ⟨b, off + c, rfl, hb, fun i hi => by
      rw [List.length_drop] at hi; rw [Nat.add_assoc, HC.out (c + i) (by omega)]; simp [List.getD_eq_getElem?_getD, List.getElem?_drop]⟩⟩
    go_wp2_with fail
    refine (visits_any a0 a1 a2 a3 _ us w hus (by omega)).mono ?_
    rintro e w1 ⟨v1, rfl, r1, b1⟩
    go_wp2_with fail
    refine (visits_any a0 a1 a2 a3 _ (us.take c) w1 (hhead.below b1) (by simp; omega)).mono ?_
    rintro e w2 ⟨v2, rfl, r2, b2⟩
    go_wp2_with fail
    refine (visits_any false 0 false 0 _ (us.drop c) w2 ((htail.below b1).below b2) (by simp; omega)).mono ?_
    rintro e w3 ⟨v3, rfl, r3, b3⟩
    have htail3 := ((htail.below b1).below b2).below b3
    have r1 := (r1.below b2).below b3
    have r2 := r2.below b3
    have bb : Below w.heap.size w w3 := b1.trans ((b2.mono b1.size).trans (b3.mono (Nat.le_trans b1.size b2.size)))
    rw [vis_split a0 a2 a1 a3 us c] at r1
    have e3 : vis false 0 false 0 (us.drop c) = us.drop c := rfl
    rw [e3] at r3
    have hn1 := vis_length a0 a1 a2 a3 (us.take c)
    have hn2 : (us.take c).length ≤ us.length := by simp; omega
    have hn3 : (us.drop c).length ≤ us.length := by simp
    clear b1 b2 b3 hus hhead htail e3
    generalize vis a0 a1 a2 a3 (us.take c) = hd at *
    have hhl : hd.length ≤ 200000 := by omega
    clear hn1 hn2
    generalize hdr : us.drop c = tl at *
    have HDR : Hid (us.drop c = tl) := hdr
    clear hdr
    have hr1 := r1
    have hr2 := r2
    have hr3 := r3
    obtain ⟨x1, k1, rfl, hr1⟩ := hr1
    obtain ⟨x2, k2, rfl, hr2⟩ := hr2
    obtain ⟨x3, k3, rfl, hr3⟩ := hr3
    rw [List.length_append] at *
    go_wp2_with fail
    refine (sameAt_true _ _ [] tl 0 rfl w3 (by simp; omega) r3 htail3).mono ?_
    rintro e w4 ⟨rfl, n4, rfl⟩
    have hlen : (((hd.length + tl.length : Nat) : Int) != (hd.length : Int) + (tl.length : Int)) = false := by simp
    have hlen' : ((hd.length : Int) + (tl.length : Int) != (hd.length : Int) + (tl.length : Int)) = false := by simp
    go_wp2_with fail
    go_loopw [16] (fun i wr => ∃ k n : Nat, k ≤ hd.length ∧ i = .int .i64 k ∧ wr = w3.drewN n) (fun i _ => hd.length - (intOf i).toNat)
    case atStart => exact ⟨0, n4, Nat.zero_le _, rfl, rfl⟩
    case round =>
      obtain ⟨k, n, hk, rfl, rfl⟩ := hrel
      by_cases hlt : k < hd.length
      · have hne : hd ≠ [] := by intro h; rw [h] at hlt; simp at hlt
        obtain ⟨b1, o1, rfl, _, hc1⟩ := hr1.resolve_left (by simp [hne])
        obtain ⟨b2, o2, rfl, _, hc2⟩ := hr2.resolve_left hne
        have h1 := hc1 k (by omega)
        have h2 := hc2 k hlt
        have e1 : (hd ++ tl).getD k 0 = hd.getD k 0 := by simp [List.getD_eq_getElem?_getD, List.getElem?_append_left hlt]
        rw [e1] at h1
        clear hc1 hc2 hr1 hr2 hr3 e1 r1 r2 r3 htail3
        have i1 : (k : Int) < (hd.length : Int) + (tl.length : Int) := by omega
        have i2 : (k : Int) < (hd.length : Int) := by omega
        go_wp2
        go_quiet (fail)
        go_wp2
        go_roundw
        case rel => exact ⟨k + 1, _, by omega, by go_num, rfl⟩
        case measure => simp [intOf]; omega
      · go_wp2_with fail
        refine (sameAt_true _ _ hd tl _ rfl _ (by omega) (r1.drewN n) (r3.drewN n)).mono ?_
        rintro e w4 ⟨rfl, n5, rfl⟩
        go_wp2
        go_ret
        exact ⟨rfl, below_drewN bb _⟩

set_option maxHeartbeats 1600000 in
set_option maxRecDepth 100000 in
theorem cut_walk_end (a0 a2 : Bool) (a1 a3 : Int) (a : Option Addr) (cap : Nat) (us : List Int) (w : World) (hus : Reads w (.slice a us.length cap) us) (h1 : us.length ≤ 131072) (hcap : us.length ≤ cap) (hcm : cap ≤ maxLen) :
    Calls Try.prog 4 #[.bool a0, .int .i64 a1, .bool a2, .int .i64 a3, .slice a us.length cap, .int .i64 us.length] w fun e w' => e = .returned (.bool true) ∧ Below w.heap.size w w' := by
  unfold maxLen at hcm
  have hd0 : decide ((us.length : Int) < 0) = false := decide_eq_false (by omega)
  have hd1 : decide ((131072 : Int) < (us.length : Int)) = false := decide_eq_false (by omega)
  by_cases hce : cap = us.length
  · subst hce
    go_enter Try.func4, Try.ntmps4
    go_wp2_with fail
    refine (bytes4_ok a0 a2 a1 a3 us.length _ us.length _ w h1).mono ?_
    rintro e w' ⟨rfl, rfl⟩
    go_wp2_with fail
    refine (visits_any a0 a1 a2 a3 _ us w hus (by omega)).mono ?_
    rintro e w1 ⟨v1, rfl, r1, b1⟩
    go_wp2_with fail
    refine (visits_any a0 a1 a2 a3 _ us w1 (hus.below b1) (by omega)).mono ?_
    rintro e w2 ⟨v2, rfl, r2, b2⟩
    go_wp2_with fail
    refine (visits_any false 0 false 0 (.slice a 0 0) [] w2 ⟨_, _, rfl, .inl rfl⟩ (by simp)).mono ?_
    rintro e w3 ⟨v3, rfl, r3, b3⟩
    have htail3 : Reads w3 (.slice a 0 0) [] := ⟨_, _, rfl, .inl rfl⟩
    have r1 := (r1.below b2).below b3
    have r2 := r2.below b3
    have bb : Below w.heap.size w w3 := b1.trans ((b2.mono b1.size).trans (b3.mono (Nat.le_trans b1.size b2.size)))
    have e3 : vis false 0 false 0 [] = [] := rfl
    rw [e3] at r3
    have hn1 := vis_length a0 a1 a2 a3 us
    clear b1 b2 b3 e3
    generalize vis a0 a1 a2 a3 us = hd at *
    have hhl : hd.length ≤ 200000 := by omega
    clear hn1
    have r1 : Reads w3 v1 (hd ++ []) := by rw [List.append_nil]; exact r1
    have hn3 : ([] : List Int).length ≤ us.length := by simp
    generalize htl : ([] : List Int) = tl at *
    clear htl
    have hr1 := r1
    have hr2 := r2
    have hr3 := r3
    obtain ⟨x1, k1, rfl, hr1⟩ := hr1
    obtain ⟨x2, k2, rfl, hr2⟩ := hr2
    obtain ⟨x3, k3, rfl, hr3⟩ := hr3
    rw [List.length_append] at *
    go_wp2_with fail
    refine (sameAt_true _ _ [] tl 0 rfl w3 (by simp; omega) r3 htail3).mono ?_
    rintro e w4 ⟨rfl, n4, rfl⟩
    have hlen : (((hd.length + tl.length : Nat) : Int) != (hd.length : Int) + (tl.length : Int)) = false := by simp
    have hlen' : ((hd.length : Int) + (tl.length : Int) != (hd.length : Int) + (tl.length : Int)) = false := by simp
    go_wp2_with fail
    go_loopw [16] (fun i wr => ∃ k n : Nat, k ≤ hd.length ∧ i = .int .i64 k ∧ wr = w3.drewN n) (fun i _ => hd.length - (intOf i).toNat)
    case atStart => exact ⟨0, n4, Nat.zero_le _, rfl, rfl⟩
    case round =>
      obtain ⟨k, n, hk, rfl, rfl⟩ := hrel
      by_cases hlt : k < hd.length
      · have hne : hd ≠ [] := by intro h; rw [h] at hlt; simp at hlt
        obtain ⟨b1, o1, rfl, _, hc1⟩ := hr1.resolve_left (by simp [hne])
        obtain ⟨b2, o2, rfl, _, hc2⟩ := hr2.resolve_left hne
        have h1 := hc1 k (by omega)
        have h2 := hc2 k hlt
        have e1 : (hd ++ tl).getD k 0 = hd.getD k 0 := by simp [List.getD_eq_getElem?_getD, List.getElem?_append_left hlt]
        rw [e1] at h1
        clear hc1 hc2 hr1 hr2 hr3 e1 r1 r2 r3 htail3
        have i1 : (k : Int) < (hd.length : Int) + (tl.length : Int) := by omega
        have i2 : (k : Int) < (hd.length : Int) := by omega
        go_wp2
        go_quiet (fail)
        go_wp2
        go_roundw
        case rel => exact ⟨k + 1, _, by omega, by go_num, rfl⟩
        case measure => simp [intOf]; omega
      · go_wp2_with fail
        refine (sameAt_true _ _ hd tl _ rfl _ (by omega) (r1.drewN n) (r3.drewN n)).mono ?_
        rintro e w4 ⟨rfl, n5, rfl⟩
        go_wp2
        go_ret
        exact ⟨rfl, below_drewN bb _⟩
  · skip
    go_enter Try.func4, Try.ntmps4
    go_wp2_with fail
    refine (bytes4_ok a0 a2 a1 a3 us.length _ us.length _ w h1).mono ?_
    rintro e w' ⟨rfl, rfl⟩
    go_wp2_with fail
    refine (visits_any a0 a1 a2 a3 _ us w hus (by omega)).mono ?_
    rintro e w1 ⟨v1, rfl, r1, b1⟩
    go_wp2_with fail
    refine (visits_any a0 a1 a2 a3 _ us w1 (hus.below b1) (by omega)).mono ?_
    rintro e w2 ⟨v2, rfl, r2, b2⟩
    go_wp2_with fail
    refine (visits_any false 0 false 0 (.slice (Option.map (fun x => x.add us.length) a) 0 (cap - us.length)) [] w2 ⟨_, _, rfl, .inl rfl⟩ (by simp)).mono ?_
    rintro e w3 ⟨v3, rfl, r3, b3⟩
    have htail3 : Reads w3 (.slice (Option.map (fun x => x.add us.length) a) 0 (cap - us.length)) [] := ⟨_, _, rfl, .inl rfl⟩
    have r1 := (r1.below b2).below b3
    have r2 := r2.below b3
    have bb : Below w.heap.size w w3 := b1.trans ((b2.mono b1.size).trans (b3.mono (Nat.le_trans b1.size b2.size)))
    have e3 : vis false 0 false 0 [] = [] := rfl
    rw [e3] at r3
    have hn1 := vis_length a0 a1 a2 a3 us
    clear b1 b2 b3 e3
    generalize vis a0 a1 a2 a3 us = hd at *
    have hhl : hd.length ≤ 200000 := by omega
    clear hn1
    have r1 : Reads w3 v1 (hd ++ []) := by rw [List.append_nil]; exact r1
    have hn3 : ([] : List Int).length ≤ us.length := by simp
    generalize htl : ([] : List Int) = tl at *
    clear htl
    have hr1 := r1
    have hr2 := r2
    have hr3 := r3
    obtain ⟨x1, k1, rfl, hr1⟩ := hr1
    obtain ⟨x2, k2, rfl, hr2⟩ := hr2
    obtain ⟨x3, k3, rfl, hr3⟩ := hr3
    rw [List.length_append] at *
    go_wp2_with fail
    refine (sameAt_true _ _ [] tl 0 rfl w3 (by simp; omega) r3 htail3).mono ?_
    rintro e w4 ⟨rfl, n4, rfl⟩
    have hlen : (((hd.length + tl.length : Nat) : Int) != (hd.length : Int) + (tl.length : Int)) = false := by simp
    have hlen' : ((hd.length : Int) + (tl.length : Int) != (hd.length : Int) + (tl.length : Int)) = false := by simp
    go_wp2_with fail
    go_loopw [16] (fun i wr => ∃ k n : Nat, k ≤ hd.length ∧ i = .int .i64 k ∧ wr = w3.drewN n) (fun i _ => hd.length - (intOf i).toNat)
    case atStart => exact ⟨0, n4, Nat.zero_le _, rfl, rfl⟩
    case round =>
      obtain ⟨k, n, hk, rfl, rfl⟩ := hrel
      by_cases hlt : k < hd.length
      · have hne : hd ≠ [] := by intro h; rw [h] at hlt; simp at hlt
        obtain ⟨b1, o1, rfl, _, hc1⟩ := hr1.resolve_left (by simp [hne])
        obtain ⟨b2, o2, rfl, _, hc2⟩ := hr2.resolve_left hne
        have h1 := hc1 k (by omega)
        have h2 := hc2 k hlt
        have e1 : (hd ++ tl).getD k 0 = hd.getD k 0 := by simp [List.getD_eq_getElem?_getD, List.getElem?_append_left hlt]
        rw [e1] at h1
        clear hc1 hc2 hr1 hr2 hr3 e1 r1 r2 r3 htail3
        have i1 : (k : Int) < (hd.length : Int) + (tl.length : Int) := by omega
        have i2 : (k : Int) < (hd.length : Int) := by omega
        go_wp2
        go_quiet (fail)
        go_wp2
        go_roundw
        case rel => exact ⟨k + 1, _, by omega, by go_num, rfl⟩
        case measure => simp [intOf]; omega
      · go_wp2_with fail
        refine (sameAt_true _ _ hd tl _ rfl _ (by omega) (r1.drewN n) (r3.drewN n)).mono ?_
        rintro e w4 ⟨rfl, n5, rfl⟩
        go_wp2
        go_ret
        exact ⟨rfl, below_drewN bb _⟩

theorem cell_lt {w : World} {p : Addr} {v : Value} (h : w.cell? p = some v) : p.block < w.heap.size := by
  rcases Nat.lt_or_ge p.block w.heap.size with h' | h'
  · exact h'
  · simp [World.cell?, Array.getElem?_eq_none h'] at h

/-- A slice that came in, as the walks read it. -/
theorem reads_of_row {w : World} {a : Option Addr} {len cap : Nat} {zs : List Int}
    (h : (a = none ∧ len = 0 ∧ cap = 0 ∧ zs = []) ∨ ∃ x, a = some x ∧ len ≤ cap ∧ cap ≤ maxLen ∧ zs.length = cap ∧ (∀ i, i < zs.length → w.cell? (x.add i) = some (.int .i64 (zs.getD i 0))) ∧ ∀ n ∈ zs, (Lit.int .i64 n).wf = true) :
    (zs.take len).length = len ∧ len ≤ cap ∧ cap ≤ maxLen ∧ Reads w (.slice a len cap) (zs.take len) ∧
      (len = 0 ∨ ∃ b off, a = some ⟨b, off, none⟩ ∧ b < w.heap.size ∧ ∀ i, i < (zs.take len).length → w.cell? ⟨b, off + i, none⟩ = some (.int .i64 ((zs.take len).getD i 0))) := by
  rcases h with ⟨rfl, rfl, rfl, rfl⟩ | ⟨x, rfl, hl, hm, hz, hc, _⟩
  · exact ⟨rfl, Nat.le_refl _, Nat.zero_le _, ⟨none, 0, rfl, .inl rfl⟩, .inl rfl⟩
  · have hlen : (zs.take len).length = len := by rw [List.length_take]; omega
    by_cases h0 : len = 0
    · subst h0
      exact ⟨rfl, hl, hm, ⟨some x, cap, rfl, .inl rfl⟩, .inl rfl⟩
    · obtain ⟨b, off, spot⟩ := x
      have hspot : spot = none := by simpa [Addr.add] using World.cell?_spot (hc 0 (by omega))
      subst hspot
      have hadd : ∀ i, (⟨b, off, none⟩ : Addr).add i = ⟨b, off + i, none⟩ := fun i => by unfold Addr.add; split <;> simp_all
      have hcs : ∀ i, i < (zs.take len).length → w.cell? ⟨b, off + i, none⟩ = some (.int .i64 ((zs.take len).getD i 0)) := fun i hi => by
        have := hc i (by omega)
        rw [hadd] at this
        rw [this]
        have hil : i < len := by omega
        simp [List.getD_eq_getElem?_getD, hil]
      have hb : b < w.heap.size := cell_lt (hcs 0 (by omega))
      exact ⟨hlen, hl, hm, ⟨some ⟨b, off, none⟩, cap, by rw [hlen], .inr ⟨b, off, rfl, hb, hcs⟩⟩, .inr ⟨b, off, rfl, hb, hcs⟩⟩

set_option maxHeartbeats 800000 in
theorem cut_walk_out (a0 a2 : Bool) (a1 a3 a5 : Int) (a : Option Addr) (len cap : Nat) (w : World) (hl : len ≤ cap) (hm : cap ≤ maxLen) (h : 131072 < len ∨ a5 < 0 ∨ (len : Int) < a5) :
    Calls Try.prog 4 #[.bool a0, .int .i64 a1, .bool a2, .int .i64 a3, .slice a len cap, .int .i64 a5] w fun e w' => e = .returned (.bool true) ∧ Below w.heap.size w w' := by
  unfold maxLen at hm
  by_cases h1 : 1048576 < len
  · go_enter Try.func4, Try.ntmps4
    go_wp2
    go_ret
    exact ⟨rfl, Below.refl _ _⟩
  · by_cases h2 : 131072 < len
    · go_enter Try.func4, Try.ntmps4
      go_wp2
      go_ret
      exact ⟨rfl, Below.refl _ _⟩
    · by_cases h3 : a5 < 0
      · go_enter Try.func4, Try.ntmps4
        go_wp2
        go_ret
        exact ⟨rfl, Below.refl _ _⟩
      · have h4 : (len : Int) < a5 := by omega
        go_enter Try.func4, Try.ntmps4
        go_wp2
        go_ret
        exact ⟨rfl, Below.refl _ _⟩

end Go.Proofs.Qxb6616356a
