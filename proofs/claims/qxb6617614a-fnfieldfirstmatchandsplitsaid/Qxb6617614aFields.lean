/-
  seat b6617614a: slices of fields, as the walks read them; zzBytes; (*Record).Field.
-/
import Derived.Test.Qxb6617614aRows
import Derived.WalkKit
import Derived.WalkLawsBesides
import Derived.WalkSpells
namespace Go.Proofs.Qxb6617614a
open Go.RowKit
set_option linter.unusedVariables false

/-- One field, as its four cells. -/
structure El where
  no : Int
  null : Bool
  ba : Option Addr
  bl : Nat
  bc : Nat
  len : Int
def El.zero : El := ⟨0, false, none, 0, 0, 0⟩

/-- The value v is a slice of the fields es in the world w. -/
def Elems (w : World) (v : Value) (es : List El) : Prop :=
  ∃ a cap, v = .slice a es.length cap ∧ (a = none → es = [] ∧ cap = 0) ∧ es.length ≤ cap ∧ cap ≤ maxLen ∧
    (es = [] ∨ ∃ b off, a = some ⟨b, off, none⟩ ∧ b < w.heap.size ∧ ∀ i, i < es.length →
      w.cell? ⟨b, off + i * 4, none⟩ = some (.int .i64 (es.getD i El.zero).no) ∧ w.cell? ⟨b, off + i * 4 + 1, none⟩ = some (.bool (es.getD i El.zero).null) ∧
      w.cell? ⟨b, off + i * 4 + 2, none⟩ = some (.slice (es.getD i El.zero).ba (es.getD i El.zero).bl (es.getD i El.zero).bc) ∧ w.cell? ⟨b, off + i * 4 + 3, none⟩ = some (.int .i64 (es.getD i El.zero).len))

theorem Elems.below {w w' : World} {v : Value} {es : List El} (h : Elems w v es) (hb : Below w.heap.size w w') : Elems w' v es := by
  obtain ⟨a, cap, rfl, hn, h1, h2, h⟩ := h
  refine ⟨a, cap, rfl, hn, h1, h2, ?_⟩
  rcases h with h | ⟨b, off, rfl, hlt, hc⟩
  · exact .inl h
  · refine .inr ⟨b, off, rfl, Nat.lt_of_lt_of_le hlt hb.size, fun i hi => ?_⟩
    obtain ⟨c0, c1, c2, c3⟩ := hc i hi
    exact ⟨(hb.cell (p := ⟨b, _, none⟩) hlt).trans c0, (hb.cell (p := ⟨b, _, none⟩) hlt).trans c1, (hb.cell (p := ⟨b, _, none⟩) hlt).trans c2, (hb.cell (p := ⟨b, _, none⟩) hlt).trans c3⟩

/-- What zzBytes answers: some bool; where it is true the lengths are small. -/
def Counted (es : List El) (w : World) (e : Ending) (w' : World) : Prop :=
  ∃ β : Bool, e = .returned (.bool β) ∧ w = w' ∧ (β = true → ∀ i, i < es.length → (es.getD i El.zero).bl ≤ 1048576)
theorem Counted.no (es : List El) (w : World) : Counted es w (.returned (.bool false)) w := ⟨false, rfl, rfl, fun h => by cases h⟩
theorem Counted.yes (es : List El) (w : World) (h : ∀ i, i < es.length → (es.getD i El.zero).bl ≤ 1048576) : Counted es w (.returned (.bool true)) w := ⟨true, rfl, rfl, fun _ => h⟩

set_option maxHeartbeats 1600000 in
set_option maxRecDepth 100000 in
theorem bytes_any (b0 b1 : Bool) (v : Value) (es : List El) (i3 i4 : Int) (w : World) (hv : Elems w v es) (hb : ∀ i, i < es.length → (es.getD i El.zero).bl ≤ maxLen) :
    Calls Try.prog 4 #[.bool b0, .bool b1, v, .int .i64 i3, .int .i64 i4] w fun e w' => Counted es w e w' := by
  obtain ⟨a, cap, rfl, hn, hl1, hl2, hc⟩ := hv
  unfold maxLen at hl2
  by_cases hk1 : 1048576 < es.length
  · go_enter Try.func4, Try.ntmps4
    go_wp2
    go_ret
    exact Counted.no _ _
  have hd1 : decide ((1048576 : Int) < (es.length : Int)) = false := decide_eq_false (by omega)
  go_enter Try.func4, Try.ntmps4
  go_wp2
  go_loop [11, 12] (fun z i => ∃ (k : Nat) (n : Int), k ≤ es.length ∧ i = .int .i64 k ∧ z = .int .i64 n ∧ 0 ≤ n ∧ n ≤ 1048576 ∧ Hid (∀ j, j < k → (es.getD j El.zero).bl ≤ 1048576)) (fun _ i => es.length - (intOf i).toNat)
  case atStart => exact ⟨0, _, Nat.zero_le _, rfl, rfl, by omega, by omega, fun j hj => absurd hj (by omega)⟩
  case round =>
    obtain ⟨k, n, hk, rfl, rfl, h0, h1, HI⟩ := hrel
    by_cases hlt : k < es.length
    · have hne : es ≠ [] := by intro h; rw [h] at hlt; simp at hlt
      obtain ⟨b, off, rfl, hbl, hcs⟩ := hc.resolve_left hne
      obtain ⟨c0, c1, c2, c3⟩ := hcs k hlt
      have hbk := hb k hlt
      have HJ : Hid ((es.getD k El.zero).bl ≤ 1048576 → ∀ j, j < k + 1 → (es.getD j El.zero).bl ≤ 1048576) := fun h j hj => by
        by_cases e : j = k
        · subst e; exact h
        · exact HI.out j (by omega)
      generalize es.getD k El.zero = el at c0 c1 c2 c3 hbk HJ
      unfold maxLen at hbk
      clear hcs hc hb HI
      by_cases hs1 : 1048576 < el.bl
      · go_wp2
        go_ret
        exact Counted.no _ _
      by_cases hs2 : 1048576 < n + (el.bl : Int)
      · go_wp2
        go_ret
        exact Counted.no _ _
      · go_wp2
        go_round
        case rel => exact ⟨k + 1, _, by omega, by go_num, rfl, by omega, by omega, HJ.out (by omega)⟩
        case measure => simp [intOf]; omega
    · have YES : Hid (Counted es w (.returned (.bool true)) w) := Counted.yes es w (fun i hi => HI.out i (by omega))
      clear HI hc hb
      go_wp2
      go_ret
      exact YES.out

/-- A record in memory: its third cell holds a slice whose elements' first cells are the numbers nos. -/
def Rec (w : World) (rb g off : Nat) (nos : List Int) (S : Value) : Prop :=
  w.cell? ⟨rb, 2, none⟩ = some S ∧ ∃ a cap, S = .slice a nos.length cap ∧ (nos = [] ∨ (a = some ⟨g, off, none⟩ ∧ ∀ i, i < nos.length → w.cell? ⟨g, off + i * 4, none⟩ = some (.int .i64 (nos.getD i 0))))

set_option maxHeartbeats 800000 in
theorem field_none (rb g off : Nat) (nos : List Int) (S : Value) (no : Int) (w : World) (hr : Rec w rb g off nos S) (hl : nos.length ≤ 1048576) (hno : ∀ i, i < nos.length → (nos.getD i 0 == no) = false) :
    Calls Try.prog 5 #[.pointer (some ⟨rb, 0, none⟩), .int .i64 no] w fun e w' => e = .returned (.pointer none) ∧ w = w' := by
  obtain ⟨hS, a, cap, rfl, hc⟩ := hr
  go_enter Try.func5, Try.ntmps5
  go_wp2
  go_loop [11] (fun i => ∃ (k : Nat), k ≤ nos.length ∧ i = .int .i64 k) (fun i => nos.length - (intOf i).toNat)
  case atStart => exact ⟨0, Nat.zero_le _, rfl⟩
  case round =>
    obtain ⟨k, hk, rfl⟩ := hrel
    by_cases hlt : k < nos.length
    · have hne : nos ≠ [] := by intro h; rw [h] at hlt; simp at hlt
      obtain ⟨rfl, hcs⟩ := hc.resolve_left hne
      have hck := hcs k hlt
      have ht := hno k hlt
      generalize nos.getD k 0 = x at hck ht
      clear hcs hc hno
      go_wp2
      go_round
      case rel => exact ⟨k + 1, by omega, by go_num⟩
      case measure => simp [intOf]; omega
    · go_wp2
      go_ret
      exact ⟨rfl, rfl⟩

set_option maxHeartbeats 800000 in
theorem field_some (rb g off m : Nat) (nos : List Int) (S : Value) (no : Int) (w : World) (hr : Rec w rb g off nos S) (hl : nos.length ≤ 1048576) (hm : m < nos.length) (hyes : (nos.getD m 0 == no) = true) (hno : ∀ i, i < m → (nos.getD i 0 == no) = false) :
    Calls Try.prog 5 #[.pointer (some ⟨rb, 0, none⟩), .int .i64 no] w fun e w' => e = .returned (.pointer (some ⟨g, off + m * 4, none⟩)) ∧ w = w' := by
  obtain ⟨hS, a, cap, rfl, hc⟩ := hr
  go_enter Try.func5, Try.ntmps5
  go_wp2
  go_loop [11] (fun i => ∃ (k : Nat), k ≤ m ∧ i = .int .i64 k) (fun i => nos.length - (intOf i).toNat)
  case atStart => exact ⟨0, Nat.zero_le _, rfl⟩
  case round =>
    obtain ⟨k, hk, rfl⟩ := hrel
    have hlt : k < nos.length := by omega
    have hne : nos ≠ [] := by intro h; rw [h] at hlt; simp at hlt
    obtain ⟨rfl, hcs⟩ := hc.resolve_left hne
    have hck := hcs k hlt
    by_cases hkm : k = m
    · subst hkm
      generalize nos.getD k 0 = x at hck hyes
      clear hcs hc hno
      go_wp2
      go_ret
      exact ⟨rfl, rfl⟩
    · have ht := hno k (by omega)
      generalize nos.getD k 0 = x at hck ht
      clear hcs hc hno hyes
      go_wp2
      go_round
      case rel => exact ⟨k + 1, by omega, by go_num⟩
      case measure => simp [intOf]; omega
end Go.Proofs.Qxb6617614a
