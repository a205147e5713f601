/-
  seat b6616381a: all that the reversed law has at hand once both keepers are fed.
-/
import Derived.Test.Qxb6616381aBook
namespace Go.Proofs.Qxb6616381a
open Go.RowKit Go.Maps Go.WideMaps
set_option linter.unusedVariables false

theorem held_none {w : World} {n ph h b f mm j : Nat} {s : Hold} (H : Held w n ph h b f mm s) (hj : j < n) (h0 : s j = none) : w.cell? ⟨b, j, none⟩ = some (.pointer none) := by
  obtain ⟨B, hB, hBs, hBv⟩ := H.hb
  have hg : B[j]? = some (B[j]'(by omega)) := Array.getElem?_eq_getElem (by omega)
  rcases hBv j _ hj hg with ⟨_, hv0⟩ | ⟨x, q', hx, _⟩
  · rw [hv0] at hg; exact cell_at hB hg
  · rw [h0] at hx; cases hx
theorem held_some {w : World} {n ph h b f mm j : Nat} {s : Hold} {y : ByteArray} (H : Held w n ph h b f mm s) (hj : j < n) (h0 : s j = some y) : ∃ q, w.cell? ⟨b, j, none⟩ = some (.pointer (some ⟨q, 0, none⟩)) ∧ w.cell? ⟨q, 0, none⟩ = some (.int .i64 j) ∧ w.cell? ⟨q, 1, none⟩ = some (.int .i64 ph) ∧ w.cell? ⟨q, 2, none⟩ = some (.string y) := by
  obtain ⟨B, hB, hBs, hBv⟩ := H.hb
  have hg : B[j]? = some (B[j]'(by omega)) := Array.getElem?_eq_getElem (by omega)
  rcases hBv j _ hj hg with ⟨hz, _⟩ | ⟨x, q, hx, hv, hq⟩
  · rw [h0] at hz; cases hz
  · rw [h0] at hx
    cases hx
    rw [hv] at hg
    exact ⟨q, cell_at hB hg, cell_at hq rfl, cell_at hq rfl, cell_at hq rfl⟩
theorem held_word {w : World} {n ph h b f mm k : Nat} {s : Hold} (H : Held w n ph h b f mm s) (hk : k < words n) : w.cell? ⟨f, k, none⟩ = some (.int .u64 (wd (fun j => (s j).isSome) k : Nat)) := by
  obtain ⟨F, hF, hFs, hFv⟩ := H.hf
  exact cell_at hF (hFv k hk)

structure Fin (w wx : World) (a : Option Addr) (n : Nat) (ms : List Msg) (x : BB) (k1 k2 : Blks) (bA bB : Nat) : Prop where
  B : Book wx w.heap.size n ms ms.length x
  K1 : Keeper wx bA n k1 (holdOf n ms 0) (holdOf n ms 1)
  K2 : Keeper wx bB n k2 (holdOf n ms.reverse 0) (holdOf n ms.reverse 1)
  V : Script wx a ms
  W : Below w.heap.size w wx

theorem Fin.drewN {w wx : World} {a : Option Addr} {n : Nat} {ms : List Msg} {x : BB} {k1 k2 : Blks} {bA bB : Nat} (F : Fin w wx a n ms x k1 k2 bA bB) (m : Nat) : Fin w (wx.drewN m) a n ms x k1 k2 bA bB := by
  have hb : Below wx.heap.size wx (wx.drewN m) := ⟨rfl, rfl, rfl, Nat.le_refl _, fun _ _ => rfl⟩
  exact ⟨F.B.below hb, F.K1.below hb, F.K2.below hb, F.V.below hb, F.W.trans (hb.mono F.W.size)⟩

theorem rev_cnt (n : Nat) (ms : List Msg) (ph : Nat) : cnt (holdOf n ms.reverse ph) n = cnt (holdOf n ms ph) n := cnt_congr fun j _ => hold_rev_some ms ph j
theorem rev_wd (n : Nat) (ms : List Msg) (ph k : Nat) : wd (fun j => (holdOf n ms.reverse ph j).isSome) k = wd (fun j => (holdOf n ms ph j).isSome) k := wd_congr (fun j => hold_rev_some ms ph j) k
theorem none_of {n : Nat} {ms : List Msg} {ph j : Nat} (hj : j < n) (h : occ ms ph j ms.length = 0) : holdOf n ms ph j = none ∧ holdOf n ms.reverse ph j = none := by
  have e1 := hold_not (n := n) (Nat.le_refl _) hj h
  have e2 := hold_rev (n := n) ms ph j hj ms.length (Nat.le_refl _)
  rw [List.take_length] at e1 e2
  rw [e2, if_pos h]
  exact ⟨e1, rfl⟩
theorem some_of {n : Nat} {ms : List Msg} {ph j : Nat} (hj : j < n) (h : occ ms ph j ms.length ≠ 0) : ∃ z, holdOf n ms ph j = some z ∧ holdOf n ms.reverse ph j = some (ms.getD (lastI ms ph j ms.length) zeroM).val ∧ (occ ms ph j ms.length = 1 → z = (ms.getD (lastI ms ph j ms.length) zeroM).val) ∧ lastI ms ph j ms.length < ms.length := by
  have e1 := hold_is (n := n) (Nat.le_refl _) hj h
  have e2 := hold_rev (n := n) ms ph j hj ms.length (Nat.le_refl _)
  have e3 := hold_once (n := n) ms ph j hj ms.length (Nat.le_refl _)
  rw [List.take_length] at e1 e2 e3
  rw [if_neg h] at e2
  obtain ⟨z, hz⟩ := Option.isSome_iff_exists.mp e1
  refine ⟨z, hz, e2, fun h1 => ?_, lastI_lt ms ph j _ (by omega)⟩
  have := e3 h1
  rw [hz, e2] at this
  exact Option.some.inj this
end Go.Proofs.Qxb6616381a
