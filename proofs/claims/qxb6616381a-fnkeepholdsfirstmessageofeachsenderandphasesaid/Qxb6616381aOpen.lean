/-
  seat b6616381a: the script of messages, out of the statement's reading.
-/
import Derived.Test.Qxb6616381aMsgs
import Derived.WalkKit
import Derived.ProofKit
import Derived.OpenShut
import Derived.ShutString
import Derived.ChangeOld
import Derived.Below
import Derived.Deep.Slices
import Derived.Deep.Strs
import Derived.Lib.SmallJoins
namespace Go.Proofs.Qxb6616381a
open Go.ChangeShapes Go.WideShapes Go.ChangeAt Go.RowKit
set_option linter.unusedVariables false

theorem own : ownKnob Try.prog.godebug = none := by kernel_rfl
theorem laidOut : laidOutB Try.prog = true := by kernel_rfl
theorem cells25 : Try.prog.cellsOf 25 = 3 := by kernel_rfl
theorem cells3 : Try.prog.cellsOf 3 = 1 := by kernel_rfl
theorem cells9 : Try.prog.cellsOf 9 = 1 := by kernel_rfl

theorem cell_lt {w : World} {p : Addr} {v : Value} (h : w.cell? p = some v) : p.block < w.heap.size := by
  rcases Nat.lt_or_ge p.block w.heap.size with h' | h'
  · exact h'
  · simp [World.cell?, Array.getElem?_eq_none h'] at h

set_option maxRecDepth 100000 in
/-- One message, out of its reading. -/
theorem msg_of {H : Type} {enc : TypeId × Value → H} {W : World} {base : Nat} {spare : Nat → Bool} {held : Bool} {fuel : Nat} {cs : List Value} {x : DataW H × List MemPlace}
    (h : DataW.trod enc Try.prog W base spare held fuel 25 cs = some x) : ∃ m : Msg, cs = [.int .i64 m.id, .int .i64 m.ph, .string m.val] ∧ m.val.size ≤ maxLen := by
  obtain ⟨y0, y1, y2, n, _, hl, h0, h1, h2⟩ := Deep.trod_struct3 Try.underlying25 h
  rw [cells25] at hl
  match cs, hl with
  | [c0, c1, c2], _ =>
    simp only [cells3, cells9, List.drop_zero, List.drop_succ_cons, List.take_succ_cons, List.take_zero] at h0 h1 h2
    obtain ⟨a, e0, _, _⟩ := DataW.trod_int Try.underlying3 h0
    obtain ⟨b, e1, _, _⟩ := DataW.trod_int Try.underlying3 h1
    obtain ⟨s, e2, _, hs⟩ := DataW.trod_string Try.underlying9 h2
    simp only [List.cons.injEq, and_true] at e0 e1 e2
    subst e0 e1 e2
    exact ⟨⟨a, b, s⟩, rfl, hs⟩

set_option maxRecDepth 100000 in
theorem script_of {H : Type} {enc : TypeId × Value → H} {W : World} {base : Nat} {spare : Nat → Bool} {held : Bool} {fuel : Nat} {v : Value} {x : DataW H × List MemPlace}
    (h : DataW.trod enc Try.prog W base spare held fuel 22 [v] = some x) : ∃ (ms : List Msg) (a : Option Addr) (cap : Nat), v = .slice a ms.length cap ∧ Script W a ms ∧ ms.length ≤ maxLen := by
  rcases Deep.open_slice Try.underlying22 h with ⟨hcs, _⟩ | ⟨a, len, cap, m, n, D, Pl, hcs, _, hl, hm, hmm, _, hx⟩
  · simp only [List.cons.injEq, and_true] at hcs
    subst hcs
    exact ⟨[], none, 0, rfl, ⟨fun i => by simp [zeroM], .inl rfl⟩, Nat.zero_le _⟩
  · simp only [List.cons.injEq, and_true] at hcs
    subst hcs
    have hzl : len ≤ m := by rw [hmm]; split <;> omega
    have : Inhabited Msg := ⟨zeroM⟩
    obtain ⟨f, hf⟩ := Deep.choose_lt (α := Msg) (n := len) (p := fun i el => (∀ j, j < 3 → W.cell? ((a.add (i * 3)).add j) = ([.int .i64 el.id, .int .i64 el.ph, .string el.val] : List Value)[j]?) ∧ el.val.size ≤ maxLen) (fun i hi => by
      obtain ⟨cs', h1, h2⟩ := hx i (by omega)
      obtain ⟨el, rfl, hbl⟩ := msg_of h2
      rw [cells25] at h1
      exact ⟨el, (World.cells?_some h1).2.2, hbl⟩)
    have hlen : ((List.range len).map f).length = len := by simp
    have hget : ∀ i, i < len → ((List.range len).map f).getD i zeroM = f i := fun i hi => by simp [List.getD_eq_getElem?_getD, hi]
    refine ⟨(List.range len).map f, some a, cap, by rw [hlen], ⟨fun i => ?_, ?_⟩, by rw [hlen]; omega⟩
    · by_cases hi : i < len
      · rw [hget i hi]; exact (hf i hi).2
      · rw [List.getD_eq_getElem?_getD, List.getElem?_eq_none (by omega)]; simp [zeroM]
    · by_cases h0 : len = 0
      · subst h0; exact .inl rfl
      · right
        obtain ⟨b, off, spot⟩ := a
        have h00 := (hf 0 (by omega)).1 0 (by omega)
        have hspot : spot = none := by simpa [Addr.add] using World.cell?_spot h00
        subst hspot
        have hcs : ∀ i, i < len → ∀ j, j < 3 → W.cell? ⟨b, off + i * 3 + j, none⟩ = ([.int .i64 (f i).id, .int .i64 (f i).ph, .string (f i).val] : List Value)[j]? := fun i hi j hj => by
          have := (hf i hi).1 j hj
          rw [add_plain, add_plain] at this
          exact this
        have hb : b < W.heap.size := by
          have := hcs 0 (by omega) 0 (by omega)
          exact cell_lt this
        refine ⟨b, off, rfl, hb, fun i hi => ?_⟩
        rw [hlen] at hi
        rw [hget i hi]
        exact ⟨hcs i hi 0 (by omega), hcs i hi 1 (by omega), hcs i hi 2 (by omega)⟩
end Go.Proofs.Qxb6616381a
