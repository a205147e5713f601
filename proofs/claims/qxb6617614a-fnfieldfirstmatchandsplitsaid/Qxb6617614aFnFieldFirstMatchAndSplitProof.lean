/-
  seat b6617614a: 'Rows.FnFieldFirstMatchAndSplitSaid'. The frame is the guide's own way for a law over slices, typed by hand for a slice of structs.
-/
import Derived.Test.Qxb6617614aLaw
import Derived.Test.Qxb6617614aNil
import Derived.WalkKit
import Derived.ProofKit
import Derived.OpenShut
import Derived.ShutString
import Derived.ChangeOld
import Derived.Below
import Derived.Deep.Slices
import Derived.Lib.SmallJoins
namespace Go.Proofs.Qxb6617614a.fnFieldFirstMatchAndSplit
open Go.ChangeShapes Go.WideShapes Go.ChangeAt Go.RowKit
set_option linter.unusedVariables false

theorem own : ownKnob Try.prog.godebug = none := by kernel_rfl
theorem laidOut : laidOutB Try.prog = true := by kernel_rfl
theorem cells26 : Try.prog.cellsOf 26 = 4 := by kernel_rfl
theorem cells3 : Try.prog.cellsOf 3 = 1 := by kernel_rfl
theorem cells4 : Try.prog.cellsOf 4 = 1 := by kernel_rfl
theorem cells24 : Try.prog.cellsOf 24 = 1 := by kernel_rfl

theorem cell_lt {w : World} {p : Addr} {v : Value} (h : w.cell? p = some v) : p.block < w.heap.size := by
  rcases Nat.lt_or_ge p.block w.heap.size with h' | h'
  · exact h'
  · simp [World.cell?, Array.getElem?_eq_none h'] at h

/-- One field, out of its reading. -/
theorem el_of {H : Type} {enc : TypeId × Value → H} {W : World} {base : Nat} {spare : Nat → Bool} {held : Bool} {fuel : Nat} {cs : List Value} {x : DataW H × List MemPlace}
    (h : DataW.trod enc Try.prog W base spare held fuel 26 cs = some x) : ∃ el : El, cs = [.int .i64 el.no, .bool el.null, .slice el.ba el.bl el.bc, .int .i64 el.len] ∧ el.bl ≤ maxLen := by
  obtain ⟨y0, y1, y2, y3, n, _, hl, h0, h1, h2, h3⟩ := Joins.trod_struct4 Try.underlying26 h
  rw [cells26] at hl
  match cs, hl with
  | [c0, c1, c2, c3], _ =>
    simp only [cells3, cells4, cells24, List.drop_zero, List.drop_succ_cons, List.take_succ_cons, List.take_zero] at h0 h1 h2 h3
    obtain ⟨a, e0, _, _⟩ := DataW.trod_int Try.underlying3 h0
    obtain ⟨b, e1, _⟩ := DataW.trod_bool Try.underlying4 h1
    obtain ⟨d, e3, _, _⟩ := DataW.trod_int Try.underlying3 h3
    simp only [List.cons.injEq, and_true] at e0 e1 e3
    subst e0 e1 e3
    rcases DataW.trod_slice Try.underlying24 h2 with ⟨e2, _⟩ | ⟨sa, len, cap, elems, rest, m, _, e2, _, _, hlc, hcm, _⟩
    · simp only [List.cons.injEq, and_true] at e2
      subst e2
      exact ⟨⟨a, b, none, 0, 0, d⟩, rfl, Nat.zero_le _⟩
    · simp only [List.cons.injEq, and_true] at e2
      subst e2
      exact ⟨⟨a, b, some sa, len, cap, d⟩, rfl, Nat.le_trans hlc hcm⟩

theorem elems_of {H : Type} {enc : TypeId × Value → H} {W : World} {base : Nat} {spare : Nat → Bool} {held : Bool} {fuel : Nat} {v : Value} {x : DataW H × List MemPlace}
    (h : DataW.trod enc Try.prog W base spare held fuel 22 [v] = some x) : ∃ es, Elems W v es ∧ ∀ i, i < es.length → (es.getD i El.zero).bl ≤ maxLen := by
  rcases Deep.open_slice Try.underlying22 h with ⟨hcs, _⟩ | ⟨a, len, cap, m, n, D, Pl, hcs, _, hl, hm, hmm, _, hx⟩
  · simp only [List.cons.injEq, and_true] at hcs
    subst hcs
    exact ⟨[], ⟨none, 0, rfl, fun _ => ⟨rfl, rfl⟩, Nat.le_refl _, Nat.zero_le _, .inl rfl⟩, fun i hi => absurd hi (by simp)⟩
  · simp only [List.cons.injEq, and_true] at hcs
    subst hcs
    have hzl : len ≤ m := by rw [hmm]; split <;> omega
    have : Inhabited El := ⟨El.zero⟩
    obtain ⟨f, hf⟩ := Deep.choose_lt (α := El) (n := len) (p := fun i el => (∀ j, j < 4 → W.cell? ((a.add (i * 4)).add j) = ([.int .i64 el.no, .bool el.null, .slice el.ba el.bl el.bc, .int .i64 el.len] : List Value)[j]?) ∧ el.bl ≤ maxLen) (fun i hi => by
      obtain ⟨cs', h1, h2⟩ := hx i (by omega)
      obtain ⟨el, rfl, hbl⟩ := el_of h2
      rw [cells26] at h1
      exact ⟨el, (World.cells?_some h1).2.2, hbl⟩)
    have hlen : ((List.range len).map f).length = len := by simp
    have hget : ∀ i, i < len → ((List.range len).map f).getD i El.zero = f i := fun i hi => by simp [List.getD_eq_getElem?_getD, hi]
    refine ⟨(List.range len).map f, ⟨some a, cap, by rw [hlen], (fun h => by cases h), by rw [hlen]; exact hl, hm, ?_⟩, fun i hi => ?_⟩
    · by_cases h0 : len = 0
      · subst h0; exact .inl rfl
      · right
        obtain ⟨b, off, spot⟩ := a
        have h00 := (hf 0 (by omega)).1 0 (by omega)
        have hspot : spot = none := by simpa [Addr.add] using World.cell?_spot h00
        subst hspot
        have hcs : ∀ i, i < len → ∀ j, j < 4 → W.cell? ⟨b, off + i * 4 + j, none⟩ = ([.int .i64 (f i).no, .bool (f i).null, .slice (f i).ba (f i).bl (f i).bc, .int .i64 (f i).len] : List Value)[j]? := fun i hi j hj => by
          have := (hf i hi).1 j hj
          rw [add_plain, add_plain] at this
          exact this
        have hb : b < W.heap.size := by
          have := hcs 0 (by omega) 0 (by omega)
          exact cell_lt this
        refine ⟨b, off, rfl, hb, fun i hi => ?_⟩
        rw [hlen] at hi
        rw [hget i hi]
        exact ⟨hcs i hi 0 (by omega), hcs i hi 1 (by omega), hcs i hi 2 (by omega), hcs i hi 3 (by omega)⟩
    · rw [hlen] at hi
      rw [hget i hi]
      exact (hf i hi).2

theorem walk (b0 b1 : Bool) (v : Value) (es : List El) (no cut : Int) (w : World) (hv : Elems w v es) (hb : ∀ i, i < es.length → (es.getD i El.zero).bl ≤ maxLen) :
    Calls Try.prog 3 #[.bool b0, .bool b1, v, .int .i64 no, .int .i64 cut] w fun e w' => e = .returned (.bool true) ∧ Below w.heap.size w w' := by
  have hv0 := hv
  obtain ⟨a, cap, rfl, hn, hl1, hl2, hc⟩ := hv
  cases a with
  | none =>
    obtain ⟨rfl, rfl⟩ := hn rfl
    exact law_nil b0 b1 no cut w
  | some ad => exact law_some b0 b1 ad cap es no cut w hv0 hb

set_option maxRecDepth 100000 in
theorem lifted (os : Os) (started : os.Started) (H : Type) (enc : TypeId × Value → H) :
    ReturnsInHanded {} Try.checked os 3 .any (Rows.fnFieldFirstMatchAndSplitSpec.pre6 enc Try.prog Try.f3 Rows.fnFieldFirstMatchAndSplitRow.domain false) (Rows.fnFieldFirstMatchAndSplitSpec.post enc Try.prog Try.f3 false true false false) := by
  refine returnsInHanded_of_change (C := Try.checked) own started (by kernel_rfl) Try.func3
    (ChangeSpec.witness6 (enc := enc) (C := Try.checked) false ⟨#[], #[.bool false, .bool false, .slice none 0 0, .int .i64 0, .int .i64 0], []⟩ 8 (by kernel_rfl) (by kernel_rfl) (by kernel_rfl) (by kernel_rfl)) ?_
  intro W base args ds gs before hval0 hW hcnd _
  have hval : ∀ (j : Nat) t v, Try.f3.params[j]? = some t → args[j]? = some v → Value.okWide Try.prog W .any base t v := hval0
  have hW' := hW
  obtain ⟨p, q, hA0, hV, rfl, hfz, hnd⟩ := hW
  have hA : DataW.TrodAll enc Try.prog W 0 (fun _ => true) true Try.f3.params.toList args.toList ds p := hA0
  rw [Try.params3] at hA hval
  obtain ⟨v0, vs0, d0, ds0, p0, q0, hargs, rfl, rfl, h0, r0⟩ := trodAll_cons hA
  obtain ⟨v1, vs1, d1, ds1, p1, q1, rfl, rfl, rfl, h1, r1⟩ := trodAll_cons r0
  obtain ⟨v2, vs2, d2, ds2, p2, q2, rfl, rfl, rfl, h2, r2⟩ := trodAll_cons r1
  obtain ⟨v3, vs3, d3, ds3, p3, q3, rfl, rfl, rfl, h3, r3⟩ := trodAll_cons r2
  obtain ⟨v4, vs4, d4, ds4, p4, q4, rfl, rfl, rfl, h4, r4⟩ := trodAll_cons r3
  obtain ⟨rfl, rfl, rfl⟩ := trodAll_nil r4
  obtain rfl : args = #[v0, v1, v2, v3, v4] := by cases args; simp_all
  obtain ⟨rfl, rfl⟩ := trodVars_none hV
  obtain ⟨a0, rfl, rfl, rfl⟩ := open_bool Try.underlying4 (hval 0 4 v0 rfl rfl) h0
  obtain ⟨a1, rfl, rfl, rfl⟩ := open_bool Try.underlying4 (hval 1 4 v1 rfl rfl) h1
  obtain ⟨a2, len2, cap2, rfl⟩ := okWide_slice Try.underlying22 (hval 2 22 v2 rfl rfl)
  obtain ⟨a3, rfl, rfl, rfl, w3⟩ := open_int Try.underlying3 (hval 3 3 v3 rfl rfl) h3
  obtain ⟨a4, rfl, rfl, rfl, w4⟩ := open_int Try.underlying3 (hval 4 3 v4 rfl rfl) h4
  have k2 := h2
  have lt2 : ∀ x ∈ p2, x.block < W.heap.size := by obtain ⟨m, hm⟩ := k2; exact DataW.trod_lt m _ _ _ hm
  obtain ⟨es, hes, hbs⟩ : ∃ es, Elems W (.slice a2 len2 cap2) es ∧ ∀ i, i < es.length → (es.getD i El.zero).bl ≤ maxLen := by
    obtain ⟨fuel, hf⟩ := h2
    exact elems_of (by simpa [Value.cells] using hf)
  clear hA0 hval0
  refine (walk a0 a1 _ es a3 a4 W hes hbs).mono fun e W' ⟨he, bel⟩ => ?_
  subst he
  exact ⟨_, rfl, _, _, _, [], _, [], hW', trodAll_mk1 (shut_bool Try.underlying4 _), (trodAll_cons_mk (shut_bool Try.underlying4 _) (trodAll_cons_mk (shut_bool Try.underlying4 _) (trodAll_cons_mk (Below.trod laidOut (by kernel_rfl) (of_decide_eq_true (by kernel_rfl)) k2 bel lt2) (trodAll_cons_mk (shut_int Try.underlying3 w3) (trodAll_cons_mk (shut_int Try.underlying3 w4) trodAll_mk0))))), rfl, bel.frame _, fun h => by cases h⟩

theorem over : Rows.fnFieldFirstMatchAndSplitRow.holds Try.pinned (OpenSpec.ofChange Rows.fnFieldFirstMatchAndSplitSpec) :=
  OpenClaim.holds_of_wide 3 Try.f3 rfl rfl rfl rfl rfl rfl rfl ⟨rfl, rfl, rfl, rfl, rfl⟩ rfl rfl rfl rfl rfl (by kernel_rfl) Try.func3 (by kernel_rfl)
    (of_decide_eq_true (by kernel_rfl)) (by unfold Func.isWrapper; first | (rw [if_pos (by decide +kernel)]; kernel_rfl) | (rw [if_neg (by decide +kernel)]; exact ⟨rfl, rfl⟩))
    (fun os started H enc _ => lifted os started H enc)

/-- THE STATEMENT -/
theorem proved : Rows.FnFieldFirstMatchAndSplitSaid := over
end Go.Proofs.Qxb6617614a.fnFieldFirstMatchAndSplit
