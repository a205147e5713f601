/-
  seat b6616376a: zzCloneStrs, zzCloneVals, zzAppendOne, zzScanRange.
-/
import Derived.Test.Qxb6616376aBytes
namespace Go.Proofs.Qxb6616376a
open Go.RowKit
set_option linter.unusedVariables false

theorem Try.info9 : (Try.prog.info? 9).map (fun i => (i.zero, i.size, i.bytes)) = some (some (.string ByteArray.empty), 1, 16) := by kernel_rfl
theorem Try.info25 : (Try.prog.info? 25).map (fun i => (i.zero, i.size, i.bytes)) = some (some (.slice none 0 0), 1, 24) := by kernel_rfl

def isNilS : Value → Bool
  | .slice none _ _ => true
  | _ => false

/-- 'Strs', its cells in a block from 'base' on. -/
def StrsF (base : Nat) (w : World) (v : Value) (ss : List ByteArray) : Prop :=
  (∀ i, (ss.getD i ByteArray.empty).size ≤ maxLen) ∧ ∃ a cap, v = .slice a ss.length cap ∧ (a = none → ss = [] ∧ cap = 0) ∧
    (ss = [] ∨ ∃ b off, a = some ⟨b, off, none⟩ ∧ base ≤ b ∧ b < w.heap.size ∧ ∀ i, i < ss.length → w.cell? ⟨b, off + i, none⟩ = some (.string (ss.getD i ByteArray.empty)))

theorem StrsF.strs {base : Nat} {w : World} {v : Value} {ss : List ByteArray} (h : StrsF base w v ss) : Strs w v ss := by
  obtain ⟨hl, a, cap, rfl, hn, h⟩ := h
  refine ⟨hl, a, cap, rfl, hn, ?_⟩
  rcases h with h | ⟨b, off, rfl, _, hlt, hc⟩
  · exact .inl h
  · exact .inr ⟨b, off, rfl, hlt, hc⟩
theorem StrsF.mono {base base' : Nat} {w : World} {v : Value} {ss : List ByteArray} (h : StrsF base w v ss) (hb : base' ≤ base) : StrsF base' w v ss := by
  obtain ⟨hl, a, cap, rfl, hn, h⟩ := h
  refine ⟨hl, a, cap, rfl, hn, ?_⟩
  rcases h with h | ⟨b, off, rfl, h1, hlt, hc⟩
  · exact .inl h
  · exact .inr ⟨b, off, rfl, Nat.le_trans hb h1, hlt, hc⟩
theorem StrsF.below {base : Nat} {w w' : World} {v : Value} {ss : List ByteArray} (h : StrsF base w v ss) (hb : Below w.heap.size w w') : StrsF base w' v ss := by
  obtain ⟨hl, a, cap, rfl, hn, h⟩ := h
  refine ⟨hl, a, cap, rfl, hn, ?_⟩
  rcases h with h | ⟨b, off, rfl, h1, hlt, hc⟩
  · exact .inl h
  · exact .inr ⟨b, off, rfl, h1, Nat.lt_of_lt_of_le hlt hb.size, fun i hi => (hb.cell (p := ⟨b, off + i, none⟩) hlt).trans (hc i hi)⟩
theorem StrsF.setCell {base : Nat} {w : World} {v : Value} {ss : List ByteArray} (h : StrsF base w v ss) {p : Addr} (hp : p.block < base) (u : Value) : StrsF base (w.setCell p u) v ss := by
  obtain ⟨hl, a, cap, rfl, hn, h⟩ := h
  refine ⟨hl, a, cap, rfl, hn, ?_⟩
  rcases h with h | ⟨b, off, rfl, h1, hlt, hc⟩
  · exact .inl h
  · refine .inr ⟨b, off, rfl, h1, by simpa [World.setCell] using hlt, fun i hi => ?_⟩
    rw [World.cell?_setCell_other _ _ _ _ (by intro e; rw [e] at hp; simp at hp; omega)]
    exact hc i hi

/-- A row that holds the strings. -/
theorem strsF_own {w : World} {base g n : Nat} {ss : List ByteArray} {xs : List Value} (hl : ∀ i, (ss.getD i ByteArray.empty).size ≤ maxLen) (hn : ss.length = n) (hown : w.ownsRow base 9 1 (.slice (some ⟨g, 0, none⟩) n n) n xs)
    (hx : ∀ i, i < n → xs[i]? = some (.string (ss.getD i ByteArray.empty))) : StrsF base w (.slice (some ⟨g, 0, none⟩) n n) ss := by
  have hlt := hown.lt g rfl
  refine ⟨hl, some ⟨g, 0, none⟩, n, by rw [hn], (fun h => by cases h), .inr ⟨g, 0, rfl, hlt.1, hlt.2, fun i hi => ?_⟩⟩
  rw [Nat.zero_add, hown.cellAt i (by omega), hx i (by omega)]

set_option maxHeartbeats 800000 in
theorem clone_any (v : Value) (ss : List ByteArray) (w : World) (hv : Strs w v ss) (hl : ss.length ≤ 1048577) :
    Calls Try.prog 13 #[v] w fun e w' => ∃ v', e = .returned v' ∧ StrsF w.heap.size w' v' ss ∧ isNilS v' = isNilS v ∧ Below w.heap.size w w' := by
  obtain ⟨hsz, a, cap, rfl, hn, hc⟩ := hv
  have hnl := fun (w : World) (a : Option Addr) (n c : Nat) => Lib.run_eql_slice_nil (P := Try.prog) w 25 9 a n c 0 0 Try.underlying25
  cases a with
  | none =>
    obtain ⟨rfl, rfl⟩ := hn rfl
    go_enter Try.func13, Try.ntmps13
    go_wp2
    go_ret
    exact ⟨_, rfl, ⟨hsz, none, 0, rfl, fun _ => ⟨rfl, rfl⟩, .inl rfl⟩, rfl, Below.refl _ _⟩
  | some ad =>
    obtain ⟨i0, hi, hz0, hz1, hz2⟩ := info_parts Try.info9
    go_enter Try.func13, Try.ntmps13
    go_wp2_with (at_make; refine wpList_make_full _ rfl _ _ 25 rfl w.heap.size 9 i0 (.string ByteArray.empty) 1 Try.underlying25 hi hz0 hz1 .i64 .i64 _ _ ss.length rfl rfl rfl rfl (by rw [hz2]; omega) (by unfold maxLen; omega) (Nat.le_refl _) ?_; intro w1 hown1 hgrow1)
    go_loopw [4] (fun i wr => ∃ (k : Nat) (xs : List Value), k ≤ ss.length ∧ i = .int .i64 k ∧ wr.ownsRow w.heap.size 9 1 (.slice (some ⟨w.heap.size, 0, none⟩) ss.length ss.length) ss.length xs ∧ (∀ j, j < k → xs[j]? = some (.string (ss.getD j ByteArray.empty))) ∧ Below w.heap.size w wr) (fun i _ => ss.length - (intOf i).toNat)
    case atStart => exact ⟨0, _, Nat.zero_le _, rfl, hown1, fun j hj => absurd hj (by omega), (Below.refl _ _).grown hgrow1 (Nat.le_refl _) (fun k hk => by cases hk)⟩
    case round =>
      obtain ⟨k, xs, hk, rfl, hown, hx, hbel⟩ := hrel
      have HX : Hid (∀ j, j < k → xs[j]? = some (.string (ss.getD j ByteArray.empty))) := hx
      clear hx
      by_cases hlt : k < ss.length
      · have hne : ss ≠ [] := by intro h; rw [h] at hlt; simp at hlt
        obtain ⟨b, off, hab, hbl, hcs⟩ := hc.resolve_left hne
        cases hab
        have hck := (hbel.cell (p := ⟨b, off + k, none⟩) hbl).trans (hcs k hlt)
        have hlen : xs.length = ss.length := by simpa using hown.1
        have hcg : wr.cell? ⟨w.heap.size, k, none⟩ = some (xs[k]'(by omega)) := by rw [hown.cellAt k (by omega), List.getElem?_eq_getElem (by omega)]
        have hfg := hown.frozenAt k
        generalize xs[k]'(by omega) = old at hcg
        generalize hs : ss.getD k ByteArray.empty = s at hck
        have HS : Hid (ss.getD k ByteArray.empty = s) := hs
        have hst := (hown.stored k (.string s)).1
        clear hcs hc hs hown
        go_wp2
        go_roundw
        case rel => exact ⟨k + 1, _, by omega, by go_num, hst, fun j hj => by
          by_cases h : j = k
          · subst h; rw [HS.out]; simp [hlen, hlt]
          · rw [List.getElem?_set_ne (by omega)]; exact HX.out j (by omega), hbel.setCell (p := ⟨w.heap.size, k, none⟩) (by simp) _⟩
        case measure => simp [intOf]; omega
      · have hke : k = ss.length := by omega
        have hF := strsF_own hsz rfl hown (fun j hj => HX.out j (by omega))
        clear hke hc hown
        go_wp2
        go_ret
        exact ⟨_, rfl, hF, rfl, hbel⟩
/-- zzAppendOne: the strings, and one more. -/
theorem set_last {ss : List ByteArray} {s : ByteArray} {xs : List Value} (hl : xs.length = ss.length + 1) (hx : ∀ j, j < ss.length → xs[j]? = some (.string (ss.getD j ByteArray.empty))) :
    ∀ j, j < ss.length + 1 → (xs.set ss.length (.string s))[j]? = some (.string ((ss ++ [s]).getD j ByteArray.empty)) := by
  intro j hj
  by_cases h : j = ss.length
  · subst h; simp [hl]
  · have h' : j < ss.length := by omega
    rw [List.getElem?_set_ne (by omega), hx j h']
    simp [List.getD_eq_getElem?_getD, List.getElem?_append_left h']
theorem sizes_snoc {ss : List ByteArray} {s : ByteArray} (h1 : ∀ i, (ss.getD i ByteArray.empty).size ≤ maxLen) (h2 : s.size ≤ maxLen) : ∀ i, ((ss ++ [s]).getD i ByteArray.empty).size ≤ maxLen := by
  intro i
  by_cases h : i < ss.length
  · have := h1 i
    simpa [List.getD_eq_getElem?_getD, List.getElem?_append_left h] using this
  · by_cases h' : i = ss.length
    · subst h'; simpa [List.getD_eq_getElem?_getD] using h2
    · have : (ss ++ [s])[i]? = none := List.getElem?_eq_none (by simp; omega)
      simp [List.getD_eq_getElem?_getD, this]

set_option maxHeartbeats 800000 in
theorem appendOne_any (v : Value) (ss : List ByteArray) (s0 : ByteArray) (w : World) (hv : Strs w v ss) (hl : ss.length ≤ 1048576) (hs0 : s0.size ≤ maxLen) :
    Calls Try.prog 17 #[v, .string s0] w fun e w' => ∃ v', e = .returned v' ∧ StrsF w.heap.size w' v' (ss ++ [s0]) ∧ isNilS v' = false ∧ Below w.heap.size w w' := by
  obtain ⟨hsz, a, cap, rfl, hn, hc⟩ := hv
  obtain ⟨i0, hi, hz0, hz1, hz2⟩ := info_parts Try.info9
  go_enter Try.func17, Try.ntmps17
  go_wp2_with (at_make; refine wpList_make_full _ rfl _ _ 25 rfl w.heap.size 9 i0 (.string ByteArray.empty) 1 Try.underlying25 hi hz0 hz1 .i64 .i64 _ _ (ss.length + 1) rfl rfl (by omega) (by omega) (by rw [hz2]; omega) (by unfold maxLen; omega) (Nat.le_refl _) ?_; intro w1 hown1 hgrow1)
  go_loopw [6] (fun i wr => ∃ (k : Nat) (xs : List Value), k ≤ ss.length ∧ i = .int .i64 k ∧ wr.ownsRow w.heap.size 9 1 (.slice (some ⟨w.heap.size, 0, none⟩) (ss.length + 1) (ss.length + 1)) (ss.length + 1) xs ∧ (∀ j, j < k → xs[j]? = some (.string (ss.getD j ByteArray.empty))) ∧ Below w.heap.size w wr) (fun i _ => ss.length - (intOf i).toNat)
  case atStart => exact ⟨0, _, Nat.zero_le _, rfl, hown1, fun j hj => absurd hj (by omega), (Below.refl _ _).grown hgrow1 (Nat.le_refl _) (fun k hk => by cases hk)⟩
  case round =>
    obtain ⟨k, xs, hk, rfl, hown, hx, hbel⟩ := hrel
    have HX : Hid (∀ j, j < k → xs[j]? = some (.string (ss.getD j ByteArray.empty))) := hx
    clear hx
    have hlen : xs.length = ss.length + 1 := by simpa using hown.1
    by_cases hlt : k < ss.length
    · have hne : ss ≠ [] := by intro h; rw [h] at hlt; simp at hlt
      obtain ⟨b, off, hab, hbl, hcs⟩ := hc.resolve_left hne
      subst hab
      have hck := (hbel.cell (p := ⟨b, off + k, none⟩) hbl).trans (hcs k hlt)
      have hcg : wr.cell? ⟨w.heap.size, k, none⟩ = some (xs[k]'(by omega)) := by rw [hown.cellAt k (by omega), List.getElem?_eq_getElem (by omega)]
      have hfg := hown.frozenAt k
      generalize xs[k]'(by omega) = old at hcg
      generalize hs : ss.getD k ByteArray.empty = s at hck
      have HS : Hid (ss.getD k ByteArray.empty = s) := hs
      have hst := (hown.stored k (.string s)).1
      have HL : Hid (xs.length = ss.length + 1) := hlen
      clear hcs hc hs hown hlen
      have hix : (k : Int) < (ss.length : Int) + 1 := by omega
      go_wp2
      go_roundw
      case rel => exact ⟨k + 1, _, by omega, by go_num, hst, fun j hj => by
        by_cases h : j = k
        · subst h; rw [HS.out, List.getElem?_set_self (by rw [HL.out]; omega)]
        · rw [List.getElem?_set_ne (by omega)]; exact HX.out j (by omega), hbel.setCell (p := ⟨w.heap.size, k, none⟩) (by simp) _⟩
      case measure => simp [intOf]; omega
    · have hke : k = ss.length := by omega
      have hF := strsF_own (sizes_snoc hsz hs0) (by simp) (hown.stored ss.length (.string s0)).1 (set_last hlen (fun j hj => HX.out j (by omega)))
      have hcg : wr.cell? ⟨w.heap.size, ss.length, none⟩ = some (xs[ss.length]'(by omega)) := by rw [hown.cellAt ss.length (by omega), List.getElem?_eq_getElem (by omega)]
      have hfg := hown.frozenAt ss.length
      generalize xs[ss.length]'(by omega) = old at hcg
      clear hke hc hown hlen
      have hix : (ss.length : Int) < (ss.length : Int) + 1 := by omega
      go_wp2
      go_ret
      exact ⟨_, rfl, hF, rfl, hbel.setCell (p := ⟨w.heap.size, ss.length, none⟩) (by simp) _⟩

theorem own_below {w w' : World} {base e g n cap : Nat} {xs : List Value} (h : w.ownsRow base e 1 (.slice (some ⟨g, 0, none⟩) n cap) n xs) (hb : Below w.heap.size w w') (hg : g < w.heap.size) : w'.ownsRow base e 1 (.slice (some ⟨g, 0, none⟩) n cap) n xs := by
  obtain ⟨h1, h2⟩ := h
  refine ⟨h1, ?_⟩
  rcases h2 with h2 | ⟨g', cap', cur, hv, hg', hh, r⟩
  · exact Or.inl h2
  · simp only [Value.slice.injEq, Option.some.injEq, Addr.mk.injEq, and_true, true_and] at hv
    obtain ⟨rfl, rfl⟩ := hv
    exact Or.inr ⟨g, cap, cur, rfl, hg', (hb.block g hg).trans hh, r⟩

/-- Is the key one that tells a range? -/
def isEnd (s : ByteArray) : Bool := (s.toList == [98, 101, 103, 105, 110]) || (s.toList == [101, 110, 100])

theorem any_take_succ (ss : List ByteArray) (k : Nat) (h : k < ss.length) : (ss.take (k + 1)).any isEnd = ((ss.take k).any isEnd || isEnd (ss.getD k ByteArray.empty)) := by
  rw [List.take_add_one, List.getElem?_eq_getElem h, List.any_append]
  simp [h]
theorem any_of_hit (ss : List ByteArray) (k : Nat) (h : k < ss.length) (he : isEnd (ss.getD k ByteArray.empty) = true) : ss.any isEnd = true := by
  rw [List.any_eq_true]
  refine ⟨ss.getD k ByteArray.empty, ?_, he⟩
  simp [h]

set_option maxHeartbeats 800000 in
theorem scan_any (v : Value) (ss : List ByteArray) (w : World) (hv : Strs w v ss) (hl : ss.length ≤ 1048577) :
    Calls Try.prog 15 #[v] w fun e w' => e = .returned (.bool (ss.any isEnd)) ∧ w = w' := by
  obtain ⟨hsz, a, cap, rfl, hn, hc⟩ := hv
  go_enter Try.func15, Try.ntmps15
  go_wp2_with fail
  go_loop [3] (fun i => ∃ k : Nat, k ≤ ss.length ∧ i = .int .i64 k ∧ Hid ((ss.take k).any isEnd = false)) (fun i => ss.length - (intOf i).toNat)
  case atStart => exact ⟨0, Nat.zero_le _, rfl, rfl⟩
  case round =>
    obtain ⟨k, hk, rfl, hno⟩ := hrel
    by_cases hlt : k < ss.length
    · have hne : ss ≠ [] := by intro h; rw [h] at hlt; simp at hlt
      obtain ⟨b, off, rfl, hbl, hcs⟩ := hc.resolve_left hne
      have hck := hcs k hlt
      have HA : Hid ((ss.take (k + 1)).any isEnd = ((ss.take k).any isEnd || isEnd (ss.getD k ByteArray.empty))) := any_take_succ ss k hlt
      have HH : Hid (isEnd (ss.getD k ByteArray.empty) = true → ss.any isEnd = true) := any_of_hit ss k hlt
      generalize ss.getD k ByteArray.empty = s at hck HA HH
      clear hcs hc hsz
      cases t1 : s.toList == [98, 101, 103, 105, 110]
      · cases t2 : s.toList == [101, 110, 100]
        · have HN : Hid ((ss.take (k + 1)).any isEnd = false) := by
            show _ = false
            rw [HA.out, hno.out]; simp [isEnd, t1, t2]
          clear HA HH hno
          go_wp2
          go_round
          case rel => exact ⟨k + 1, by omega, by go_num, HN⟩
          case measure => simp [intOf]; omega
        · have HY : Hid (ss.any isEnd = true) := HH.out (by simp [isEnd, t2])
          clear HA HH hno
          go_wp2
          go_ret
          exact ⟨by rw [HY.out]; rfl, rfl⟩
      · have HY : Hid (ss.any isEnd = true) := HH.out (by simp [isEnd, t1])
        clear HA HH hno
        go_wp2
        go_ret
        exact ⟨by rw [HY.out]; rfl, rfl⟩
    · have HF : Hid (ss.any isEnd = false) := by
        show _ = false
        have := hno.out
        rwa [List.take_of_length_le (by omega)] at this
      clear hno hc
      go_wp2
      go_ret
      exact ⟨by rw [HF.out]; rfl, rfl⟩

set_option maxHeartbeats 800000 in
theorem cloneVals_any (v : Value) (us : List (List ByteArray)) (w : World) (hv : Vals w v us) (hl : us.length ≤ 1048576) (hli : ∀ i, (us.getD i []).length ≤ 1048576) :
    Calls Try.prog 14 #[v] w fun e w' => ∃ v', e = .returned v' ∧ Vals w' v' us ∧ Below w.heap.size w w' := by
  obtain ⟨a, cap, rfl, hn, hc⟩ := hv
  have hnl := fun (w : World) (a : Option Addr) (n c : Nat) => Lib.run_eql_slice_nil (P := Try.prog) w 26 25 a n c 0 0 Try.underlying26
  cases a with
  | none =>
    obtain ⟨rfl, rfl⟩ := hn rfl
    go_enter Try.func14, Try.ntmps14
    go_wp2
    go_ret
    exact ⟨_, rfl, ⟨none, 0, rfl, fun _ => ⟨rfl, rfl⟩, .inl rfl⟩, Below.refl _ _⟩
  | some ad =>
    obtain ⟨i0, hi, hz0, hz1, hz2⟩ := info_parts Try.info25
    go_enter Try.func14, Try.ntmps14
    go_wp2_with (at_make; refine wpList_make_full _ rfl _ _ 26 rfl w.heap.size 25 i0 (.slice none 0 0) 1 Try.underlying26 hi hz0 hz1 .i64 .i64 _ _ us.length rfl rfl rfl rfl (by rw [hz2]; omega) (by unfold maxLen; omega) (Nat.le_refl _) ?_; intro w1 hown1 hgrow1)
    go_loopw [4] (fun i wr => ∃ (k : Nat) (xs : List Value), k ≤ us.length ∧ i = .int .i64 k ∧ wr.ownsRow w.heap.size 25 1 (.slice (some ⟨w.heap.size, 0, none⟩) us.length us.length) us.length xs ∧ (∀ j, j < k → ∃ u, xs[j]? = some u ∧ StrsF (w.heap.size + 1) wr u (us.getD j [])) ∧ Below w.heap.size w wr) (fun i _ => us.length - (intOf i).toNat)
    case atStart => exact ⟨0, _, Nat.zero_le _, rfl, hown1, fun j hj => absurd hj (by omega), (Below.refl _ _).grown hgrow1 (Nat.le_refl _) (fun k hk => by cases hk)⟩
    case round =>
      obtain ⟨k, xs, hk, rfl, hown, hx, hbel⟩ := hrel
      have HX : Hid (∀ j, j < k → ∃ u, xs[j]? = some u ∧ StrsF (w.heap.size + 1) wr u (us.getD j [])) := hx
      clear hx
      have hlt0 := hown.lt w.heap.size rfl
      by_cases hlt : k < us.length
      · have hne : us ≠ [] := by intro h; rw [h] at hlt; simp at hlt
        obtain ⟨b, off, hab, hbl, hcs⟩ := hc.resolve_left hne
        cases hab
        obtain ⟨u, hcu, hsu⟩ := hcs k hlt
        have hck := (hbel.cell (p := ⟨b, off + k, none⟩) hbl).trans hcu
        have hsr := hsu.below hbel
        have hlk := hli k
        have hlen : xs.length = us.length := by simpa using hown.1
        clear hcs hc hcu hsu hli
        go_wp2_with fail
        refine (clone_any u _ wr hsr (by omega)).mono ?_
        rintro e w2 ⟨v2, rfl, hF2, _, hb2⟩
        have hown2 : w2.ownsRow w.heap.size 25 1 (.slice (some ⟨w.heap.size, 0, none⟩) us.length us.length) us.length xs := own_below hown hb2 hlt0.2
        have hcg : w2.cell? ⟨w.heap.size, k, none⟩ = some (xs[k]'(by omega)) := by rw [hown2.cellAt k (by omega), List.getElem?_eq_getElem (by omega)]
        have hfg := hown2.frozenAt k
        generalize xs[k]'(by omega) = old at hcg
        have hst := (hown2.stored k v2).1
        have HF2 := hF2.mono (base' := w.heap.size + 1) (by omega)
        have HN : Hid (∀ j, j < k + 1 → ∃ u, (xs.set k v2)[j]? = some u ∧ StrsF (w.heap.size + 1) (w2.setCell ⟨w.heap.size, k, none⟩ v2) u (us.getD j [])) := fun j hj => by
          by_cases h : j = k
          · subst h; exact ⟨v2, by simp [hlen, hlt], HF2.setCell (by simp) _⟩
          · obtain ⟨u', hu1, hu2⟩ := HX.out j (by omega)
            exact ⟨u', by rw [List.getElem?_set_ne (by omega)]; exact hu1, (hu2.below hb2).setCell (by simp) _⟩
        have HB : Below w.heap.size w (w2.setCell ⟨w.heap.size, k, none⟩ v2) := (hbel.trans (hb2.mono hbel.size)).setCell (p := ⟨w.heap.size, k, none⟩) (by simp) _
        obtain ⟨a2, n2, c2, rfl⟩ : ∃ a2 n2 c2, v2 = .slice a2 n2 c2 := by
          obtain ⟨_, a2, c2, h, _⟩ := hF2
          exact ⟨a2, _, c2, h⟩
        clear hF2 hown hown2 HX hlen HF2
        go_wp2
        go_roundw
        case rel => exact ⟨k + 1, _, by omega, by go_num, hst, HN.out, HB⟩
        case measure => simp [intOf]; omega
      · have hke : k = us.length := by omega
        have hlen : xs.length = us.length := by simpa using hown.1
        have hV : Vals wr (.slice (some ⟨w.heap.size, 0, none⟩) us.length us.length) us := ⟨_, _, rfl, (fun h => by cases h), .inr ⟨w.heap.size, 0, rfl, hlt0.2, fun j hj => by
          obtain ⟨u, h1, h2⟩ := HX.out j (by omega)
          exact ⟨u, by rw [Nat.zero_add, hown.cellAt j (by omega), h1], h2.strs⟩⟩⟩
        clear hke hc hown hlen
        go_wp2
        go_ret
        exact ⟨_, rfl, hV, hbel⟩
end Go.Proofs.Qxb6616376a
