/-
  seat b6616376a: 'Rows.FnHasRangeKeyPutInSaid'. The frame is the guide's own way for a law over slices (proof-skeleton's), typed by hand for slices of strings and slices of slices of strings.
-/
import Derived.Test.Qxb6616376aPut
import Derived.WalkKit
import Derived.ProofKit
import Derived.OpenShut
import Derived.ShutString
import Derived.ChangeOld
import Derived.Below
import Derived.SliceStrings
import Derived.Deep.Slices
namespace Go.Proofs.Qxb6616376a.fnHasRangeKeyPutIn
open Go.ChangeShapes Go.WideShapes Go.ChangeAt Go.RowKit
open Go.ChangeMaps (open_string shut_string)
set_option linter.unusedVariables false

theorem own : ownKnob Try.prog.godebug = none := by kernel_rfl
theorem laidOut : laidOutB Try.prog = true := by kernel_rfl

theorem cell_lt {w : World} {p : Addr} {v : Value} (h : w.cell? p = some v) : p.block < w.heap.size := by
  rcases Nat.lt_or_ge p.block w.heap.size with h' | h'
  · exact h'
  · simp [World.cell?, Array.getElem?_eq_none h'] at h

theorem strs_of {H : Type} {enc : TypeId × Value → H} {W : World} {base : Nat} {spare : Nat → Bool} {held : Bool} {fuel : Nat} {v : Value} {x : DataW H × List MemPlace}
    (h : DataW.trod enc Try.prog W base spare held fuel 25 [v] = some x) : ∃ ss, Strs W v ss ∧ ss.length ≤ maxLen := by
  rcases open_strings Try.underlying25 Try.underlying9 (by kernel_rfl) h with ⟨hcs, _⟩ | ⟨a, len, cap, ss, hcs, _, hl, hm, hz, _, hcell, hws⟩
  · simp only [List.cons.injEq, and_true] at hcs
    subst hcs
    exact ⟨[], ⟨fun i => by simp, none, 0, rfl, fun _ => ⟨rfl, rfl⟩, .inl rfl⟩, Nat.zero_le _⟩
  · simp only [List.cons.injEq, and_true] at hcs
    subst hcs
    have hzl : len ≤ ss.length := by rw [hz]; split <;> omega
    have hlen : (ss.take len).length = len := by rw [List.length_take]; omega
    have hszs : ∀ i, ((ss.take len).getD i ByteArray.empty).size ≤ maxLen := by
      intro i
      by_cases hi : i < (ss.take len).length
      · rw [List.getD_eq_getElem?_getD, List.getElem?_eq_getElem hi]
        exact hws _ (List.mem_of_mem_take (List.getElem_mem hi))
      · simp [List.getD_eq_getElem?_getD, List.getElem?_eq_none (Nat.le_of_not_lt hi)]
    refine ⟨ss.take len, ⟨hszs, some a, cap, by rw [hlen], (fun h => by cases h), ?_⟩, by omega⟩
    by_cases h0 : len = 0
    · subst h0; exact .inl rfl
    · right
      obtain ⟨b, off, spot⟩ := a
      have hspot : spot = none := by simpa [Addr.add] using World.cell?_spot (hcell 0 (by omega))
      subst hspot
      have hcs : ∀ i, i < (ss.take len).length → W.cell? ⟨b, off + i, none⟩ = some (.string ((ss.take len).getD i ByteArray.empty)) := fun i hi => by
        have := hcell i (by omega)
        rw [add_plain] at this
        rw [this]
        have hil : i < len := by omega
        simp [List.getD_eq_getElem?_getD, hil]
      exact ⟨b, off, rfl, cell_lt (hcs 0 (by omega)), hcs⟩

theorem vals_of {H : Type} {enc : TypeId × Value → H} {W : World} {base : Nat} {spare : Nat → Bool} {held : Bool} {fuel : Nat} {v : Value} {x : DataW H × List MemPlace}
    (h : DataW.trod enc Try.prog W base spare held fuel 26 [v] = some x) : ∃ us, Vals W v us ∧ us.length ≤ maxLen ∧ ∀ i, (us.getD i []).length ≤ maxLen := by
  rcases Deep.open_slice1 Try.underlying26 (by kernel_rfl) h with ⟨hcs, _⟩ | ⟨a, len, cap, m, n, V, D, Pl, hcs, _, hl, hm, hmm, _, hx⟩
  · simp only [List.cons.injEq, and_true] at hcs
    subst hcs
    exact ⟨[], ⟨none, 0, rfl, fun _ => ⟨rfl, rfl⟩, .inl rfl⟩, Nat.zero_le _, fun i => by simp⟩
  · simp only [List.cons.injEq, and_true] at hcs
    subst hcs
    have hzl : len ≤ m := by rw [hmm]; split <;> omega
    obtain ⟨f, hf⟩ := Deep.choose_lt (α := List ByteArray) (n := len) (p := fun i ss => Strs W (V i) ss ∧ ss.length ≤ maxLen) (fun i hi => strs_of (hx i (by omega)).2)
    have hlen : ((List.range len).map f).length = len := by simp
    have hget : ∀ i, i < len → ((List.range len).map f).getD i [] = f i := fun i hi => by simp [List.getD_eq_getElem?_getD, hi]
    refine ⟨(List.range len).map f, ⟨some a, cap, by rw [hlen], (fun h => by cases h), ?_⟩, by omega, ?_⟩
    · by_cases h0 : len = 0
      · subst h0; exact .inl rfl
      · right
        obtain ⟨b, off, spot⟩ := a
        have hspot : spot = none := by simpa [Addr.add] using World.cell?_spot (hx 0 (by omega)).1
        subst hspot
        have hcs : ∀ i, i < ((List.range len).map f).length → ∃ u, W.cell? ⟨b, off + i, none⟩ = some u ∧ Strs W u (((List.range len).map f).getD i []) := fun i hi => by
          rw [hlen] at hi
          have := (hx i (by omega)).1
          rw [add_plain] at this
          rw [hget i hi]
          exact ⟨V i, this, (hf i hi).1⟩
        have hb : b < W.heap.size := by
          have := (hx 0 (by omega)).1
          rw [add_plain] at this
          exact cell_lt this
        exact ⟨b, off, rfl, hb, hcs⟩
    · intro i
      by_cases hi : i < len
      · rw [hget i hi]; exact (hf i hi).2
      · simp [List.getD_eq_getElem?_getD, hi]

set_option maxRecDepth 100000 in
theorem lifted (os : Os) (started : os.Started) (H : Type) (enc : TypeId × Value → H) :
    ReturnsInHanded {} Try.checked os 5 .any (Rows.fnHasRangeKeyPutInSpec.pre6 enc Try.prog Try.f5 Rows.fnHasRangeKeyPutInRow.domain false) (Rows.fnHasRangeKeyPutInSpec.post enc Try.prog Try.f5 false true false false) := by
  refine returnsInHanded_of_change (C := Try.checked) own started (by kernel_rfl) Try.func5
    (ChangeSpec.witness6 (enc := enc) (C := Try.checked) false ⟨#[], #[.slice none 0 0, .slice none 0 0, .string ByteArray.empty], []⟩ 8 (by kernel_rfl) (by kernel_rfl) (by kernel_rfl) (by kernel_rfl)) ?_
  intro W base args ds gs before hval0 hW hcnd _
  have hval : ∀ (j : Nat) t v, Try.f5.params[j]? = some t → args[j]? = some v → Value.okWide Try.prog W .any base t v := hval0
  have hW' := hW
  obtain ⟨p, q, hA0, hV, rfl, hfz, hnd⟩ := hW
  have hA : DataW.TrodAll enc Try.prog W 0 (fun _ => true) true Try.f5.params.toList args.toList ds p := hA0
  rw [Try.params5] at hA hval
  obtain ⟨v0, vs0, d0, ds0, p0, q0, hargs, rfl, rfl, h0, r0⟩ := trodAll_cons hA
  obtain ⟨v1, vs1, d1, ds1, p1, q1, rfl, rfl, rfl, h1, r1⟩ := trodAll_cons r0
  obtain ⟨v2, vs2, d2, ds2, p2, q2, rfl, rfl, rfl, h2, r2⟩ := trodAll_cons r1
  obtain ⟨rfl, rfl, rfl⟩ := trodAll_nil r2
  obtain rfl : args = #[v0, v1, v2] := by cases args; simp_all
  obtain ⟨rfl, rfl⟩ := trodVars_none hV
  obtain ⟨a0, len0, cap0, rfl⟩ := okWide_slice Try.underlying25 (hval 0 25 v0 rfl rfl)
  obtain ⟨a1, len1, cap1, rfl⟩ := okWide_slice Try.underlying26 (hval 1 26 v1 rfl rfl)
  obtain ⟨a2, rfl, rfl, rfl, w2⟩ := open_string Try.underlying9 (hval 2 9 v2 rfl rfl) h2
  have k0 := h0
  have k1 := h1
  have lt0 : ∀ x ∈ p0, x.block < W.heap.size := by obtain ⟨m, hm⟩ := k0; exact DataW.trod_lt m _ _ _ hm
  have lt1 : ∀ x ∈ p1, x.block < W.heap.size := by obtain ⟨m, hm⟩ := k1; exact DataW.trod_lt m _ _ _ hm
  obtain ⟨ks, hks, hkl⟩ : ∃ ks, Strs W (.slice a0 len0 cap0) ks ∧ ks.length ≤ maxLen := by
    obtain ⟨fuel, hf⟩ := h0
    exact strs_of (by simpa [Value.cells] using hf)
  obtain ⟨us, hus, hul, hui⟩ : ∃ us, Vals W (.slice a1 len1 cap1) us ∧ us.length ≤ maxLen ∧ ∀ i, (us.getD i []).length ≤ maxLen := by
    obtain ⟨fuel, hf⟩ := h1
    exact vals_of (by simpa [Value.cells] using hf)
  clear hA0 hval0
  refine (put_walk _ _ ks us a2 W hks hus w2 hkl hul hui).mono fun e W' ⟨he, bel⟩ => ?_
  subst he
  exact ⟨_, rfl, _, _, _, [], _, [], hW', trodAll_mk1 (shut_bool Try.underlying4 _), (trodAll_cons_mk (Below.trod laidOut (by kernel_rfl) (of_decide_eq_true (by kernel_rfl)) k0 bel lt0) (trodAll_cons_mk (Below.trod laidOut (by kernel_rfl) (of_decide_eq_true (by kernel_rfl)) k1 bel lt1) (trodAll_cons_mk (shut_string Try.underlying9 w2) trodAll_mk0))), rfl, bel.frame _, fun h => by cases h⟩

theorem over : Rows.fnHasRangeKeyPutInRow.holds Try.pinned (OpenSpec.ofChange Rows.fnHasRangeKeyPutInSpec) :=
  OpenClaim.holds_of_wide 5 Try.f5 rfl rfl rfl rfl rfl rfl rfl ⟨rfl, rfl, rfl, rfl, rfl⟩ rfl rfl rfl rfl rfl (by kernel_rfl) Try.func5 (by kernel_rfl)
    (of_decide_eq_true (by kernel_rfl)) (by unfold Func.isWrapper; first | (rw [if_pos (by decide +kernel)]; kernel_rfl) | (rw [if_neg (by decide +kernel)]; exact ⟨rfl, rfl⟩))
    (fun os started H enc _ => lifted os started H enc)

/-- THE STATEMENT -/
theorem proved : Rows.FnHasRangeKeyPutInSaid := over
end Go.Proofs.Qxb6616376a.fnHasRangeKeyPutIn
