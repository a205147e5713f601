/-
  seat b6616381a: the script of messages; zzBytes; what is handed out of a keeper.
-/
import Derived.Test.Qxb6616381aKeepA
import Derived.Test.Qxb6616381aModel2
namespace Go.Proofs.Qxb6616381a
open Go.RowKit Go.Maps Go.WideMaps
set_option linter.unusedVariables false

/-- The three cells of message i. -/
def CellsAt (w : World) (b off i : Nat) (m : Msg) : Prop :=
  w.cell? ⟨b, off + i * 3, none⟩ = some (.int .i64 m.id) ∧ w.cell? ⟨b, off + i * 3 + 1, none⟩ = some (.int .i64 m.ph) ∧ w.cell? ⟨b, off + i * 3 + 2, none⟩ = some (.string m.val)

/-- The value v is a slice of the messages ms in the world w. -/
def Script (w : World) (a : Option Addr) (ms : List Msg) : Prop :=
  (∀ i, (ms.getD i zeroM).val.size ≤ maxLen) ∧ (ms = [] ∨ ∃ b off, a = some ⟨b, off, none⟩ ∧ b < w.heap.size ∧ ∀ i, i < ms.length → CellsAt w b off i (ms.getD i zeroM))

theorem Script.below {w w' : World} {a : Option Addr} {ms : List Msg} (h : Script w a ms) (hb : Below w.heap.size w w') : Script w' a ms := by
  refine ⟨h.1, ?_⟩
  rcases h.2 with h | ⟨b, off, rfl, hlt, hc⟩
  · exact .inl h
  · refine .inr ⟨b, off, rfl, Nat.lt_of_lt_of_le hlt hb.size, fun i hi => ?_⟩
    obtain ⟨c0, c1, c2⟩ := hc i hi
    exact ⟨(hb.cell (p := ⟨b, _, none⟩) hlt).trans c0, (hb.cell (p := ⟨b, _, none⟩) hlt).trans c1, (hb.cell (p := ⟨b, _, none⟩) hlt).trans c2⟩

def Counted (ms : List Msg) (w : World) (e : Ending) (w' : World) : Prop :=
  ∃ β : Bool, e = .returned (.bool β) ∧ w = w' ∧ (β = true → ∀ i, i < ms.length → (ms.getD i zeroM).val.size ≤ 1048576)
theorem Counted.no (ms : List Msg) (w : World) : Counted ms w (.returned (.bool false)) w := ⟨false, rfl, rfl, fun h => by cases h⟩
theorem Counted.yes (ms : List Msg) (w : World) (h : ∀ i, i < ms.length → (ms.getD i zeroM).val.size ≤ 1048576) : Counted ms w (.returned (.bool true)) w := ⟨true, rfl, rfl, fun _ => h⟩

set_option maxHeartbeats 1600000 in
set_option maxRecDepth 100000 in
theorem bytes4_any (n : Int) (a : Option Addr) (cap : Nat) (ms : List Msg) (w : World) (hv : Script w a ms) (hl : ms.length ≤ maxLen) :
    Calls Try.prog 9 #[.int .i64 n, .slice a ms.length cap] w fun e w' => Counted ms w e w' := by
  obtain ⟨hsz, hc⟩ := hv
  unfold maxLen at hl
  by_cases hk1 : 1048576 < ms.length
  · go_enter Try.func9, Try.ntmps9
    go_wp2
    go_ret
    exact Counted.no _ _
  have hd1 : decide ((1048576 : Int) < (ms.length : Int)) = false := decide_eq_false (by omega)
  go_enter Try.func9, Try.ntmps9
  go_wp2
  go_loop [5, 6] (fun z i => ∃ (k : Nat) (n : Int), k ≤ ms.length ∧ i = .int .i64 k ∧ z = .int .i64 n ∧ 0 ≤ n ∧ n ≤ 1048576 ∧ Hid (∀ j, j < k → (ms.getD j zeroM).val.size ≤ 1048576)) (fun _ i => ms.length - (intOf i).toNat)
  case atStart => exact ⟨0, _, Nat.zero_le _, rfl, rfl, by omega, by omega, fun j hj => absurd hj (by omega)⟩
  case round =>
    obtain ⟨k, n, hk, rfl, rfl, h0, h1, HI⟩ := hrel
    by_cases hlt : k < ms.length
    · have hne : ms ≠ [] := by intro h; rw [h] at hlt; simp at hlt
      obtain ⟨b, off, rfl, hbl, hcs⟩ := hc.resolve_left hne
      obtain ⟨c0, c1, c2⟩ := hcs k hlt
      have hbk := hsz k
      have HJ : Hid ((ms.getD k zeroM).val.size ≤ 1048576 → ∀ j, j < k + 1 → (ms.getD j zeroM).val.size ≤ 1048576) := fun h j hj => by
        by_cases e : j = k
        · subst e; exact h
        · exact HI.out j (by omega)
      generalize ms.getD k zeroM = el at c0 c1 c2 hbk HJ
      unfold maxLen at hbk
      clear hcs hc hsz HI
      by_cases hs1 : 1048576 < el.val.size
      · go_wp2
        go_ret
        exact Counted.no _ _
      by_cases hs2 : 1048576 < n + (el.val.size : Int)
      · go_wp2
        go_ret
        exact Counted.no _ _
      · go_wp2
        go_round
        case rel => exact ⟨k + 1, _, by omega, by go_num, rfl, by omega, by omega, HJ.out (by omega)⟩
        case measure => simp [intOf]; omega
    · have YES : Hid (Counted ms w (.returned (.bool true)) w) := Counted.yes ms w (fun i hi => HI.out i (by omega))
      clear HI hc hsz
      go_wp2
      go_ret
      exact YES.out

set_option maxHeartbeats 1600000 in
set_option maxRecDepth 100000 in
theorem bytes3_any (n : Int) (a : Option Addr) (cap : Nat) (ms : List Msg) (w : World) (hv : Script w a ms) (hl : ms.length ≤ maxLen) :
    Calls Try.prog 5 #[.int .i64 n, .slice a ms.length cap] w fun e w' => Counted ms w e w' := by
  obtain ⟨hsz, hc⟩ := hv
  unfold maxLen at hl
  by_cases hk1 : 1048576 < ms.length
  · go_enter Try.func5, Try.ntmps5
    go_wp2
    go_ret
    exact Counted.no _ _
  have hd1 : decide ((1048576 : Int) < (ms.length : Int)) = false := decide_eq_false (by omega)
  go_enter Try.func5, Try.ntmps5
  go_wp2
  go_loop [5, 6] (fun z i => ∃ (k : Nat) (n : Int), k ≤ ms.length ∧ i = .int .i64 k ∧ z = .int .i64 n ∧ 0 ≤ n ∧ n ≤ 1048576 ∧ Hid (∀ j, j < k → (ms.getD j zeroM).val.size ≤ 1048576)) (fun _ i => ms.length - (intOf i).toNat)
  case atStart => exact ⟨0, _, Nat.zero_le _, rfl, rfl, by omega, by omega, fun j hj => absurd hj (by omega)⟩
  case round =>
    obtain ⟨k, n, hk, rfl, rfl, h0, h1, HI⟩ := hrel
    by_cases hlt : k < ms.length
    · have hne : ms ≠ [] := by intro h; rw [h] at hlt; simp at hlt
      obtain ⟨b, off, rfl, hbl, hcs⟩ := hc.resolve_left hne
      obtain ⟨c0, c1, c2⟩ := hcs k hlt
      have hbk := hsz k
      have HJ : Hid ((ms.getD k zeroM).val.size ≤ 1048576 → ∀ j, j < k + 1 → (ms.getD j zeroM).val.size ≤ 1048576) := fun h j hj => by
        by_cases e : j = k
        · subst e; exact h
        · exact HI.out j (by omega)
      generalize ms.getD k zeroM = el at c0 c1 c2 hbk HJ
      unfold maxLen at hbk
      clear hcs hc hsz HI
      by_cases hs1 : 1048576 < el.val.size
      · go_wp2
        go_ret
        exact Counted.no _ _
      by_cases hs2 : 1048576 < n + (el.val.size : Int)
      · go_wp2
        go_ret
        exact Counted.no _ _
      · go_wp2
        go_round
        case rel => exact ⟨k + 1, _, by omega, by go_num, rfl, by omega, by omega, HJ.out (by omega)⟩
        case measure => simp [intOf]; omega
    · have YES : Hid (Counted ms w (.returned (.bool true)) w) := Counted.yes ms w (fun i hi => HI.out i (by omega))
      clear HI hc hsz
      go_wp2
      go_ret
      exact YES.out

theorem senders0 (w : World) (base n : Nat) (k : Blks) (s0 s1 : Hold) (K : Keeper w base n k s0 s1) :
    Calls Try.prog 10 #[.pointer (some ⟨k.p, 0, none⟩), .int .i64 0] w fun e w' => e = .returned (.int .i64 (cnt s0 n)) ∧ w = w' := by
  have p7 : w.cell? ⟨k.p, 7, none⟩ = some (.pointer (some ⟨k.h0, 0, none⟩)) := cell_at K.hp rfl
  have c0 : w.cell? ⟨k.h0, 0, none⟩ = some (.slice (some ⟨k.b0, 0, none⟩) n n) := cell_at K.H0.hh rfl
  have c1 : w.cell? ⟨k.h0, 1, none⟩ = some (.slice (some ⟨k.f0, 0, none⟩) (words n) (words n)) := cell_at K.H0.hh rfl
  have c2 : w.cell? ⟨k.h0, 2, none⟩ = some (.int .i64 (cnt s0 n)) := cell_at K.H0.hh rfl
  have c4 : w.cell? ⟨k.h0, 4, none⟩ = some (.pointer none) := cell_at K.H0.hh rfl
  clear K
  go_enter Try.func10, Try.ntmps10
  go_wp2
  go_ret
  exact ⟨rfl, rfl⟩

theorem from0 (w : World) (base n : Nat) (k : Blks) (s0 s1 : Hold) (K : Keeper w base n k s0 s1) :
    Calls Try.prog 11 #[.pointer (some ⟨k.p, 0, none⟩), .int .i64 0] w fun e w' => e = .returned (.slice (some ⟨k.f0, 0, none⟩) (words n) (words n)) ∧ w = w' := by
  have p7 : w.cell? ⟨k.p, 7, none⟩ = some (.pointer (some ⟨k.h0, 0, none⟩)) := cell_at K.hp rfl
  have c0 : w.cell? ⟨k.h0, 0, none⟩ = some (.slice (some ⟨k.b0, 0, none⟩) n n) := cell_at K.H0.hh rfl
  have c1 : w.cell? ⟨k.h0, 1, none⟩ = some (.slice (some ⟨k.f0, 0, none⟩) (words n) (words n)) := cell_at K.H0.hh rfl
  have c2 : w.cell? ⟨k.h0, 2, none⟩ = some (.int .i64 (cnt s0 n)) := cell_at K.H0.hh rfl
  have c4 : w.cell? ⟨k.h0, 4, none⟩ = some (.pointer none) := cell_at K.H0.hh rfl
  clear K
  go_enter Try.func11, Try.ntmps11
  go_wp2
  go_ret
  exact ⟨rfl, rfl⟩

theorem by0 (w : World) (base n : Nat) (k : Blks) (s0 s1 : Hold) (K : Keeper w base n k s0 s1) :
    Calls Try.prog 12 #[.pointer (some ⟨k.p, 0, none⟩), .int .i64 0] w fun e w' => e = .returned (.slice (some ⟨k.b0, 0, none⟩) n n) ∧ w = w' := by
  have p7 : w.cell? ⟨k.p, 7, none⟩ = some (.pointer (some ⟨k.h0, 0, none⟩)) := cell_at K.hp rfl
  have c0 : w.cell? ⟨k.h0, 0, none⟩ = some (.slice (some ⟨k.b0, 0, none⟩) n n) := cell_at K.H0.hh rfl
  have c1 : w.cell? ⟨k.h0, 1, none⟩ = some (.slice (some ⟨k.f0, 0, none⟩) (words n) (words n)) := cell_at K.H0.hh rfl
  have c2 : w.cell? ⟨k.h0, 2, none⟩ = some (.int .i64 (cnt s0 n)) := cell_at K.H0.hh rfl
  have c4 : w.cell? ⟨k.h0, 4, none⟩ = some (.pointer none) := cell_at K.H0.hh rfl
  clear K
  go_enter Try.func12, Try.ntmps12
  go_wp2
  go_ret
  exact ⟨rfl, rfl⟩

theorem carried0 (w : World) (base n : Nat) (k : Blks) (s0 s1 : Hold) (K : Keeper w base n k s0 s1) :
    Calls Try.prog 15 #[.pointer (some ⟨k.p, 0, none⟩), .int .i64 0] w fun e w' => e = .returned (.bool true) ∧ w = w' := by
  have p7 : w.cell? ⟨k.p, 7, none⟩ = some (.pointer (some ⟨k.h0, 0, none⟩)) := cell_at K.hp rfl
  have c0 : w.cell? ⟨k.h0, 0, none⟩ = some (.slice (some ⟨k.b0, 0, none⟩) n n) := cell_at K.H0.hh rfl
  have c1 : w.cell? ⟨k.h0, 1, none⟩ = some (.slice (some ⟨k.f0, 0, none⟩) (words n) (words n)) := cell_at K.H0.hh rfl
  have c2 : w.cell? ⟨k.h0, 2, none⟩ = some (.int .i64 (cnt s0 n)) := cell_at K.H0.hh rfl
  have c4 : w.cell? ⟨k.h0, 4, none⟩ = some (.pointer none) := cell_at K.H0.hh rfl
  clear K
  go_enter Try.func15, Try.ntmps15
  go_wp2
  go_ret
  exact ⟨rfl, rfl⟩

theorem senders1 (w : World) (base n : Nat) (k : Blks) (s0 s1 : Hold) (K : Keeper w base n k s0 s1) :
    Calls Try.prog 10 #[.pointer (some ⟨k.p, 0, none⟩), .int .i64 1] w fun e w' => e = .returned (.int .i64 (cnt s1 n)) ∧ w = w' := by
  have p7 : w.cell? ⟨k.p, 8, none⟩ = some (.pointer (some ⟨k.h1, 0, none⟩)) := cell_at K.hp rfl
  have c0 : w.cell? ⟨k.h1, 0, none⟩ = some (.slice (some ⟨k.b1, 0, none⟩) n n) := cell_at K.H1.hh rfl
  have c1 : w.cell? ⟨k.h1, 1, none⟩ = some (.slice (some ⟨k.f1, 0, none⟩) (words n) (words n)) := cell_at K.H1.hh rfl
  have c2 : w.cell? ⟨k.h1, 2, none⟩ = some (.int .i64 (cnt s1 n)) := cell_at K.H1.hh rfl
  have c4 : w.cell? ⟨k.h1, 4, none⟩ = some (.pointer none) := cell_at K.H1.hh rfl
  clear K
  go_enter Try.func10, Try.ntmps10
  go_wp2
  go_ret
  exact ⟨rfl, rfl⟩

theorem from1 (w : World) (base n : Nat) (k : Blks) (s0 s1 : Hold) (K : Keeper w base n k s0 s1) :
    Calls Try.prog 11 #[.pointer (some ⟨k.p, 0, none⟩), .int .i64 1] w fun e w' => e = .returned (.slice (some ⟨k.f1, 0, none⟩) (words n) (words n)) ∧ w = w' := by
  have p7 : w.cell? ⟨k.p, 8, none⟩ = some (.pointer (some ⟨k.h1, 0, none⟩)) := cell_at K.hp rfl
  have c0 : w.cell? ⟨k.h1, 0, none⟩ = some (.slice (some ⟨k.b1, 0, none⟩) n n) := cell_at K.H1.hh rfl
  have c1 : w.cell? ⟨k.h1, 1, none⟩ = some (.slice (some ⟨k.f1, 0, none⟩) (words n) (words n)) := cell_at K.H1.hh rfl
  have c2 : w.cell? ⟨k.h1, 2, none⟩ = some (.int .i64 (cnt s1 n)) := cell_at K.H1.hh rfl
  have c4 : w.cell? ⟨k.h1, 4, none⟩ = some (.pointer none) := cell_at K.H1.hh rfl
  clear K
  go_enter Try.func11, Try.ntmps11
  go_wp2
  go_ret
  exact ⟨rfl, rfl⟩

theorem by1 (w : World) (base n : Nat) (k : Blks) (s0 s1 : Hold) (K : Keeper w base n k s0 s1) :
    Calls Try.prog 12 #[.pointer (some ⟨k.p, 0, none⟩), .int .i64 1] w fun e w' => e = .returned (.slice (some ⟨k.b1, 0, none⟩) n n) ∧ w = w' := by
  have p7 : w.cell? ⟨k.p, 8, none⟩ = some (.pointer (some ⟨k.h1, 0, none⟩)) := cell_at K.hp rfl
  have c0 : w.cell? ⟨k.h1, 0, none⟩ = some (.slice (some ⟨k.b1, 0, none⟩) n n) := cell_at K.H1.hh rfl
  have c1 : w.cell? ⟨k.h1, 1, none⟩ = some (.slice (some ⟨k.f1, 0, none⟩) (words n) (words n)) := cell_at K.H1.hh rfl
  have c2 : w.cell? ⟨k.h1, 2, none⟩ = some (.int .i64 (cnt s1 n)) := cell_at K.H1.hh rfl
  have c4 : w.cell? ⟨k.h1, 4, none⟩ = some (.pointer none) := cell_at K.H1.hh rfl
  clear K
  go_enter Try.func12, Try.ntmps12
  go_wp2
  go_ret
  exact ⟨rfl, rfl⟩

theorem carried1 (w : World) (base n : Nat) (k : Blks) (s0 s1 : Hold) (K : Keeper w base n k s0 s1) :
    Calls Try.prog 15 #[.pointer (some ⟨k.p, 0, none⟩), .int .i64 1] w fun e w' => e = .returned (.bool true) ∧ w = w' := by
  have p7 : w.cell? ⟨k.p, 8, none⟩ = some (.pointer (some ⟨k.h1, 0, none⟩)) := cell_at K.hp rfl
  have c0 : w.cell? ⟨k.h1, 0, none⟩ = some (.slice (some ⟨k.b1, 0, none⟩) n n) := cell_at K.H1.hh rfl
  have c1 : w.cell? ⟨k.h1, 1, none⟩ = some (.slice (some ⟨k.f1, 0, none⟩) (words n) (words n)) := cell_at K.H1.hh rfl
  have c2 : w.cell? ⟨k.h1, 2, none⟩ = some (.int .i64 (cnt s1 n)) := cell_at K.H1.hh rfl
  have c4 : w.cell? ⟨k.h1, 4, none⟩ = some (.pointer none) := cell_at K.H1.hh rfl
  clear K
  go_enter Try.func15, Try.ntmps15
  go_wp2
  go_ret
  exact ⟨rfl, rfl⟩
end Go.Proofs.Qxb6616381a
