/-
  seat b6616376a: slices of strings and slices of slices of strings, as the walks read them; the functions that only count.
-/
import Derived.Test.Qxb6616376aRows
import Derived.WalkKit
import Derived.WalkLawsBesides
import Derived.WalkSpells
namespace Go.Proofs.Qxb6616376a
open Go.RowKit
set_option linter.unusedVariables false

/-- The value v is a slice of the strings ss in the world w. -/
def Strs (w : World) (v : Value) (ss : List ByteArray) : Prop :=
  (∀ i, (ss.getD i ByteArray.empty).size ≤ maxLen) ∧ ∃ a cap, v = .slice a ss.length cap ∧ (a = none → ss = [] ∧ cap = 0) ∧
    (ss = [] ∨ ∃ b off, a = some ⟨b, off, none⟩ ∧ b < w.heap.size ∧ ∀ i, i < ss.length → w.cell? ⟨b, off + i, none⟩ = some (.string (ss.getD i ByteArray.empty)))

/-- The value v is a slice of slices of strings. -/
def Vals (w : World) (v : Value) (us : List (List ByteArray)) : Prop :=
  ∃ a cap, v = .slice a us.length cap ∧ (a = none → us = [] ∧ cap = 0) ∧
    (us = [] ∨ ∃ b off, a = some ⟨b, off, none⟩ ∧ b < w.heap.size ∧ ∀ i, i < us.length → ∃ u, w.cell? ⟨b, off + i, none⟩ = some u ∧ Strs w u (us.getD i []))

theorem Strs.below {w w' : World} {v : Value} {ss : List ByteArray} (h : Strs w v ss) (hb : Below w.heap.size w w') : Strs w' v ss := by
  obtain ⟨hl, a, cap, rfl, hn, h⟩ := h
  refine ⟨hl, a, cap, rfl, hn, ?_⟩
  rcases h with h | ⟨b, off, rfl, hlt, hc⟩
  · exact .inl h
  · exact .inr ⟨b, off, rfl, Nat.lt_of_lt_of_le hlt hb.size, fun i hi => (hb.cell (p := ⟨b, off + i, none⟩) hlt).trans (hc i hi)⟩

theorem Vals.below {w w' : World} {v : Value} {us : List (List ByteArray)} (h : Vals w v us) (hb : Below w.heap.size w w') : Vals w' v us := by
  obtain ⟨a, cap, rfl, hn, h⟩ := h
  refine ⟨a, cap, rfl, hn, ?_⟩
  rcases h with h | ⟨b, off, rfl, hlt, hc⟩
  · exact .inl h
  · refine .inr ⟨b, off, rfl, Nat.lt_of_lt_of_le hlt hb.size, fun i hi => ?_⟩
    obtain ⟨u, h1, h2⟩ := hc i hi
    exact ⟨u, (hb.cell (p := ⟨b, off + i, none⟩) hlt).trans h1, h2.below hb⟩

/-- zzAddLen: some number in range. -/
theorem addLen_any (t n : Int) (w : World) (h0 : 0 ≤ t) (h1 : t ≤ 1048577) (h2 : 0 ≤ n) (h3 : n ≤ 9223372036854775807) :
    Calls Try.prog 12 #[.int .i64 t, .int .i64 n] w fun e w' => ∃ r : Int, e = .returned (.int .i64 r) ∧ 0 ≤ r ∧ r ≤ 1048577 ∧ w = w' := by
  by_cases ht : 1048576 < t
  · go_enter Try.func12, Try.ntmps12
    go_wp2
    go_ret
    exact ⟨_, rfl, by omega, by omega, rfl⟩
  · by_cases hn : 1048576 - t < n
    · go_enter Try.func12, Try.ntmps12
      go_wp2
      go_ret
      exact ⟨_, rfl, by omega, by omega, rfl⟩
    · go_enter Try.func12, Try.ntmps12
      go_wp2
      go_ret
      exact ⟨_, rfl, by omega, by omega, rfl⟩

set_option maxHeartbeats 800000 in
theorem strsBytes_any (v : Value) (ss : List ByteArray) (t : Int) (w : World) (hv : Strs w v ss) (h0 : 0 ≤ t) (h1 : t ≤ 1048577) (hl : ss.length ≤ 1048576) :
    Calls Try.prog 10 #[v, .int .i64 t] w fun e w' => ∃ r : Int, e = .returned (.int .i64 r) ∧ 0 ≤ r ∧ r ≤ 1048577 ∧ w = w' := by
  obtain ⟨hsz, a, cap, rfl, hn, hc⟩ := hv
  go_enter Try.func10, Try.ntmps10
  go_wp2_with fail
  go_loop [1, 5] (fun tv i => ∃ (k : Nat) (t' : Int), k ≤ ss.length ∧ i = .int .i64 k ∧ tv = .int .i64 t' ∧ 0 ≤ t' ∧ t' ≤ 1048577) (fun _ i => ss.length - (intOf i).toNat)
  case atStart => exact ⟨0, t, Nat.zero_le _, rfl, rfl, h0, h1⟩
  case round =>
    obtain ⟨k, t', hk, rfl, rfl, h0', h1'⟩ := hrel
    by_cases hlt : k < ss.length
    · have hne : ss ≠ [] := by intro h; rw [h] at hlt; simp at hlt
      obtain ⟨b, off, rfl, hbl, hcs⟩ := hc.resolve_left hne
      have hck := hcs k hlt
      have hsk := hsz k
      generalize ss.getD k ByteArray.empty = s at hck hsk
      unfold maxLen at hsk
      clear hcs hc hsz
      go_wp2_with fail
      refine (addLen_any t' 16 w h0' h1' (by omega) (by omega)).mono ?_
      rintro e w1 ⟨r1, rfl, g0, g1, rfl⟩
      go_wp2_with fail
      refine (addLen_any r1 _ w g0 g1 (by omega) (by omega)).mono ?_
      rintro e w1 ⟨r2, rfl, g2, g3, rfl⟩
      by_cases hgt : 1048576 < r2
      · go_wp2
        go_ret
        exact ⟨_, rfl, g2, g3, rfl⟩
      · go_wp2
        go_round
        case rel => exact ⟨k + 1, r2, by omega, by go_num, rfl, g2, g3⟩
        case measure => simp [intOf]; omega
    · go_wp2
      go_ret
      exact ⟨_, rfl, h0', h1', rfl⟩

set_option maxHeartbeats 800000 in
theorem valsBytes_any (v : Value) (us : List (List ByteArray)) (t : Int) (w : World) (hv : Vals w v us) (h0 : 0 ≤ t) (h1 : t ≤ 1048577) (hl : us.length ≤ 1048576) (hi : ∀ i, (us.getD i []).length ≤ 1048576) :
    Calls Try.prog 11 #[v, .int .i64 t] w fun e w' => ∃ r : Int, e = .returned (.int .i64 r) ∧ 0 ≤ r ∧ r ≤ 1048577 ∧ w = w' := by
  obtain ⟨a, cap, rfl, hn, hc⟩ := hv
  go_enter Try.func11, Try.ntmps11
  go_wp2_with fail
  go_loop [1, 5] (fun tv i => ∃ (k : Nat) (t' : Int), k ≤ us.length ∧ i = .int .i64 k ∧ tv = .int .i64 t' ∧ 0 ≤ t' ∧ t' ≤ 1048577) (fun _ i => us.length - (intOf i).toNat)
  case atStart => exact ⟨0, t, Nat.zero_le _, rfl, rfl, h0, h1⟩
  case round =>
    obtain ⟨k, t', hk, rfl, rfl, h0', h1'⟩ := hrel
    by_cases hlt : k < us.length
    · have hne : us ≠ [] := by intro h; rw [h] at hlt; simp at hlt
      obtain ⟨b, off, rfl, hbl, hcs⟩ := hc.resolve_left hne
      obtain ⟨u, hck, hsu⟩ := hcs k hlt
      have hik := hi k
      clear hcs hc hi
      go_wp2_with fail
      refine (addLen_any t' 24 w h0' h1' (by omega) (by omega)).mono ?_
      rintro e w1 ⟨r1, rfl, g0, g1, rfl⟩
      go_wp2_with fail
      refine (strsBytes_any u _ r1 w hsu g0 g1 hik).mono ?_
      rintro e w1 ⟨r2, rfl, g2, g3, rfl⟩
      by_cases hgt : 1048576 < r2
      · go_wp2
        go_ret
        exact ⟨_, rfl, g2, g3, rfl⟩
      · go_wp2
        go_round
        case rel => exact ⟨k + 1, r2, by omega, by go_num, rfl, g2, g3⟩
        case measure => simp [intOf]; omega
    · go_wp2
      go_ret
      exact ⟨_, rfl, h0', h1', rfl⟩

end Go.Proofs.Qxb6616376a
