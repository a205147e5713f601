/-
  seat b6616376a: zzBytes of the third law.
-/
import Derived.Test.Qxb6616376aStrs
namespace Go.Proofs.Qxb6616376a
open Go.RowKit
set_option linter.unusedVariables false

/-- What zzBytes answers: some bool; where it is true the lengths are small. -/
def Counted (ks : List ByteArray) (us : List (List ByteArray)) (w : World) (e : Ending) (w' : World) : Prop :=
  ∃ β : Bool, e = .returned (.bool β) ∧ w = w' ∧ (β = true → ks.length ≤ 1048576 ∧ us.length ≤ 1048576 ∧ ∀ i, (us.getD i []).length ≤ 1048576)
theorem Counted.no (ks : List ByteArray) (us : List (List ByteArray)) (w : World) : Counted ks us w (.returned (.bool false)) w := ⟨false, rfl, rfl, fun h => by cases h⟩
theorem Counted.yes (ks : List ByteArray) (us : List (List ByteArray)) (w : World) (h1 : ks.length ≤ 1048576) (h2 : us.length ≤ 1048576) (h3 : ∀ i, i < us.length → (us.getD i []).length ≤ 1048576) : Counted ks us w (.returned (.bool true)) w :=
  ⟨true, rfl, rfl, fun _ => ⟨h1, h2, fun i => by
    by_cases h : i < us.length
    · exact h3 i h
    · simp [List.getD_eq_getElem?_getD, List.getElem?_eq_none (Nat.le_of_not_lt h)]⟩⟩

set_option maxHeartbeats 3200000 in
set_option maxRecDepth 100000 in
theorem bytes5_any (vk vv : Value) (ks : List ByteArray) (us : List (List ByteArray)) (s : ByteArray) (w : World) (hk : Strs w vk ks) (hv : Vals w vv us) (hs : s.size ≤ maxLen) (hkm : ks.length ≤ maxLen) (hum : us.length ≤ maxLen) (hui : ∀ i, (us.getD i []).length ≤ maxLen) :
    Calls Try.prog 9 #[vk, vv, .string s] w fun e w' => Counted ks us w e w' := by
  obtain ⟨hsz, a, cap, rfl, hn, hc⟩ := hk
  obtain ⟨a2, cap2, rfl, hn2, hc2⟩ := hv
  unfold maxLen at hs hkm hum
  by_cases hk1 : 1048576 < ks.length
  · go_enter Try.func9, Try.ntmps9
    go_wp2
    go_ret
    exact Counted.no _ _ _
  have hd1 : decide ((1048576 : Int) < (ks.length : Int)) = false := decide_eq_false (by omega)
  go_enter Try.func9, Try.ntmps9
  go_wp2
  go_loop [7, 8] (fun z i => ∃ (k : Nat) (n : Int), k ≤ ks.length ∧ i = .int .i64 k ∧ z = .int .i64 n ∧ 0 ≤ n ∧ n ≤ 1048576) (fun _ i => ks.length - (intOf i).toNat)
  case atStart => exact ⟨0, _, Nat.zero_le _, rfl, rfl, by omega, by omega⟩
  case round =>
    obtain ⟨k, n, hk, rfl, rfl, h0, h1⟩ := hrel
    by_cases hlt : k < ks.length
    · have hne : ks ≠ [] := by intro h; rw [h] at hlt; simp at hlt
      obtain ⟨b, off, rfl, hbl, hcs⟩ := hc.resolve_left hne
      have hck := hcs k hlt
      have hsk := hsz k
      generalize ks.getD k ByteArray.empty = s at hck hsk
      unfold maxLen at hsk
      clear hcs hc hsz
      by_cases hs1 : 1048576 < s.size
      · go_wp2
        go_ret
        exact Counted.no _ _ _
      by_cases hs2 : 1048576 < n + (s.size : Int)
      · go_wp2
        go_ret
        exact Counted.no _ _ _
      · go_wp2
        go_round
        case rel => exact ⟨k + 1, _, by omega, by go_num, rfl, by omega, by omega⟩
        case measure => simp [intOf]; omega
    · by_cases hu1 : 1048576 < us.length
      · go_wp2
        go_ret
        exact Counted.no _ _ _
      have hd2 : decide ((1048576 : Int) < (us.length : Int)) = false := decide_eq_false (by omega)
      by_cases hu2 : 1048576 < n + (us.length : Int)
      · go_wp2
        go_ret
        exact Counted.no _ _ _
      have hd3 : decide ((1048576 : Int) < n + (us.length : Int)) = false := decide_eq_false (by omega)
      clear hc hsz hd1
      go_wp2
      go_loop [7, 9] (fun z i => ∃ (k : Nat) (n : Int), k ≤ us.length ∧ i = .int .i64 k ∧ z = .int .i64 n ∧ 0 ≤ n ∧ n ≤ 1048576 ∧ ∀ i, i < k → (us.getD i []).length ≤ 1048576) (fun _ i => us.length - (intOf i).toNat)
      case atStart => exact ⟨0, _, Nat.zero_le _, rfl, rfl, by omega, by omega, fun i hi => absurd hi (by omega)⟩
      case round =>
        obtain ⟨k2, n2, hk2, rfl, rfl, g0, g1, gi⟩ := hrel
        have GI : Hid (∀ i, i < k2 → (us.getD i []).length ≤ 1048576) := gi
        clear gi
        by_cases hlt2 : k2 < us.length
        · have hne : us ≠ [] := by intro h; rw [h] at hlt2; simp at hlt2
          obtain ⟨b, off, rfl, hbl, hcs⟩ := hc2.resolve_left hne
          obtain ⟨u, hck, hsu⟩ := hcs k2 hlt2
          have huk := hui k2
          have GG : Hid ((us.getD k2 []).length = (us.getD k2 []).length) := rfl
          generalize hss : us.getD k2 [] = ss at hck hsu huk
          have HSS : Hid (us.getD k2 [] = ss) := hss
          clear hss GG
          obtain ⟨hsz, a, cap, rfl, hn, hc⟩ := hsu
          unfold maxLen at huk
          have HCS : Hid (∀ i, i < us.length → ∃ u, w.cell? ⟨b, off + i, none⟩ = some u ∧ Strs w u (us.getD i [])) := hcs
          clear hcs hc2
          by_cases hi1 : 1048576 < ss.length
          · go_wp2
            go_ret
            exact Counted.no _ _ _
          have hd4 : decide ((1048576 : Int) < (ss.length : Int)) = false := decide_eq_false (by omega)
          by_cases hi2 : 1048576 < n2 + (ss.length : Int)
          · go_wp2
            go_ret
            exact Counted.no _ _ _
          have hd5 : decide ((1048576 : Int) < n2 + (ss.length : Int)) = false := decide_eq_false (by omega)
          go_wp2
          go_loop [7, 10] (fun z i => ∃ (k : Nat) (n : Int), k ≤ ss.length ∧ i = .int .i64 k ∧ z = .int .i64 n ∧ 0 ≤ n ∧ n ≤ 1048576) (fun _ i => ss.length - (intOf i).toNat)
          case atStart => exact ⟨0, _, Nat.zero_le _, rfl, rfl, by omega, by omega⟩
          case round =>
            obtain ⟨k3, n3, hk3, rfl, rfl, f0, f1⟩ := hrel
            by_cases hlt3 : k3 < ss.length
            · have hne : ss ≠ [] := by intro h; rw [h] at hlt3; simp at hlt3
              obtain ⟨b3, off3, rfl, hbl3, hcs3⟩ := hc.resolve_left hne
              have hck3 := hcs3 k3 hlt3
              have hsk := hsz k3
              generalize ss.getD k3 ByteArray.empty = s3 at hck3 hsk
              unfold maxLen at hsk
              clear hcs3 hc hsz
              by_cases hs1 : 1048576 < s3.size
              · go_wp2
                go_ret
                exact Counted.no _ _ _
              by_cases hs2 : 1048576 < n3 + (s3.size : Int)
              · go_wp2
                go_ret
                exact Counted.no _ _ _
              · go_wp2
                go_round
                case rel => exact ⟨k3 + 1, _, by omega, by go_num, rfl, by omega, by omega⟩
                case measure => simp [intOf]; omega
            · go_wp2
              go_round
              case rel => exact ⟨k2 + 1, _, by omega, by go_num, rfl, by omega, by omega, fun i hi => by
                by_cases h : i = k2
                · subst h; rw [HSS.out]; omega
                · exact GI.out i (by omega)⟩
              case measure => simp [intOf]; omega
        · have hke : k2 = us.length := by omega
          have YES : Hid (Counted ks us w (.returned (.bool true)) w) := Counted.yes ks us w (by omega) (by omega) (fun i hi => GI.out i (by omega))
          clear GI hke hc2
          by_cases hz1 : 1048576 < s.size
          · go_wp2
            go_ret
            exact Counted.no _ _ _
          by_cases hz2 : 1048576 < n2 + (s.size : Int)
          · go_wp2
            go_ret
            exact Counted.no _ _ _
          · go_wp2
            go_ret
            exact YES.out
end Go.Proofs.Qxb6616376a
