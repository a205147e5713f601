/-
  seat b6616356a: shared parts of the two laws over (*ForParts).each: what the walks say of slices of integers, and the leaf functions' contracts.
-/
import Derived.Test.Qxb6616356aRows
import Derived.WalkKit
import Derived.WalkLawsBesides
import Derived.WalkSpells
import Derived.Deep.QuietTactic
import Derived.BigQuiet
import Derived.Deep.RegionWith
import Derived.Deep.AppendLies
import Derived.Deep.RegionHeld3
namespace Go.Proofs.Qxb6616356a
open Go.RowKit

/-- The value v is a slice of the integers xs in the world w. -/
def Reads (w : World) (v : Value) (xs : List Int) : Prop :=
  ∃ a cap, v = .slice a xs.length cap ∧ (xs = [] ∨ ∃ b off, a = some ⟨b, off, none⟩ ∧ b < w.heap.size ∧ ∀ i, i < xs.length → w.cell? ⟨b, off + i, none⟩ = some (.int .i64 (xs.getD i 0)))

theorem Reads.below {w w' : World} {v : Value} {xs : List Int} (h : Reads w v xs) (hb : Below w.heap.size w w') : Reads w' v xs := by
  obtain ⟨a, cap, rfl, h⟩ := h
  refine ⟨a, cap, rfl, ?_⟩
  rcases h with h | ⟨b, off, rfl, hlt, hc⟩
  · exact .inl h
  · exact .inr ⟨b, off, rfl, Nat.lt_of_lt_of_le hlt hb.size, fun i hi => (hb.cell (p := ⟨b, off + i, none⟩) hlt).trans (hc i hi)⟩

theorem World.addr_add (g i : Nat) : (⟨g, 0, none⟩ : Addr).add i = ⟨g, 0 + i, none⟩ := by
  unfold Addr.add; split <;> simp_all

theorem Reads.own {w : World} {base : Nat} {v : Value} {xs : List Int} (h : w.ownsRow base 3 1 v xs.length (xs.map (Value.int .i64))) : Reads w v xs := by
  have hcells := fun g hg => h.cells (g := g) hg
  rcases h.2 with ⟨rfl, h0⟩ | ⟨g, cap, cur, rfl, hbg, hg, hnc, hcm, hcs, htake⟩
  · refine ⟨none, 0, by rw [h0], .inl ?_⟩
    cases xs with
    | nil => rfl
    | cons x xs => simp at h0
  · refine ⟨some ⟨g, 0, none⟩, cap, rfl, .inr ⟨g, 0, rfl, lt_of_block hg, fun i hi => ?_⟩⟩
    have := hcells g rfl i (.int .i64 (xs.getD i 0)) (by simp [hi])
    rw [World.addr_add] at this
    exact this

theorem ident_pos (b : Nat) (x : Int) (w : World) (hx : w.cell? ⟨b, 0, none⟩ = some (.int .i64 x)) :
    Calls Try.prog 34 #[.pointer (some ⟨b, 0, none⟩)] w fun e w' => e = .returned (.int .i64 x) ∧ w = w' := by
  go_enter Try.func34, Try.ntmps34
  go_wp2
  go_ret
  exact ⟨rfl, rfl⟩

theorem block_pos (b : Nat) (x : Int) (w : World) (hx : w.cell? ⟨b, 0, none⟩ = some (.int .i64 x)) :
    Calls Try.prog 36 #[.pointer (some ⟨b, 0, none⟩)] w fun e w' => e = .returned (.int .i64 x) ∧ w = w' := by
  go_enter Try.func36, Try.ntmps36
  go_wp2
  go_ret
  exact ⟨rfl, rfl⟩

/-- sameAt(a, off, b) is true where a is 'off' elements, then b. -/
theorem sameAt_true (va vb : Value) (pre xs : List Int) (off : Int) (hoff : off = pre.length) (w : World) (hl : pre.length + xs.length ≤ 1000000)
    (ha : Reads w va (pre ++ xs)) (hb : Reads w vb xs) :
    Calls Try.prog 12 #[va, .int .i64 off, vb] w fun e w' => e = .returned (.bool true) ∧ ∃ n, w' = w.drewN n := by
  obtain ⟨a, cap, rfl, ha⟩ := ha
  obtain ⟨b, capb, rfl, hb⟩ := hb
  subst hoff
  rw [List.length_append] at *
  have ht : ((((pre.length + xs.length : Nat) : Int)) != (pre.length : Int) + (xs.length : Int)) = false := by simp
  go_enter Try.func12, Try.ntmps12
  go_wp2
  go_loopw [7] (fun i wr => ∃ k n : Nat, k ≤ xs.length ∧ i = .int .i64 k ∧ wr = w.drewN n) (fun i _ => xs.length - (intOf i).toNat)
  case atStart => exact ⟨0, 0, Nat.zero_le _, rfl, rfl⟩
  case round =>
    obtain ⟨k, n, hk, rfl, rfl⟩ := hrel
    by_cases hlt : k < xs.length
    · have hne : xs ≠ [] := by intro h; rw [h] at hlt; simp at hlt
      obtain ⟨b1, o1, rfl, _, hc1⟩ := ha.resolve_left (by simp [hne])
      obtain ⟨b2, o2, rfl, _, hc2⟩ := hb.resolve_left hne
      have h1 := hc1 (pre.length + k) (by omega)
      have h2 := hc2 k hlt
      have e1 : (pre ++ xs).getD (pre.length + k) 0 = xs.getD k 0 := by simp [List.getD_eq_getElem?_getD, List.getElem?_append_right]
      rw [e1] at h1
      clear hc1 hc2 ha hb e1
      have i1 : (pre.length : Int) + (k : Int) < (pre.length : Int) + (xs.length : Int) := by omega
      have i2 : (k : Int) < (xs.length : Int) := by omega
      go_wp2
      go_quiet (fail)
      go_wp2
      go_roundw
      case rel => exact ⟨k + 1, _, by omega, by go_num, rfl⟩
      case measure => simp [intOf]; omega
    · go_wp2
      go_ret
      exact ⟨rfl, n, rfl⟩
end Go.Proofs.Qxb6616356a
