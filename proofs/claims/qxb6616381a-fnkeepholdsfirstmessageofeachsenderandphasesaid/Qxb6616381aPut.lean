/-
  seat b6616381a: (*phaseHeld).put.
-/
import Derived.Test.Qxb6616381aHeld
namespace Go.Proofs.Qxb6616381a
open Go.RowKit Go.Maps Go.WideMaps
set_option linter.unusedVariables false

theorem Hid.mk {p : Prop} (h : p) : Hid p := h

/-- What put leaves. -/
def PutPost (n ph h b f mm : Nat) (s : Hold) (w w' : World) : Prop := Held w' n ph h b f mm s ∧ Touch [h, b, f, mm] w w'

theorem heap_other {w : World} {g k i : Nat} {u : Value} (h : k ≠ g) : (w.setCell ⟨g, i, none⟩ u).heap[k]? = w.heap[k]? := Below.heap_setCell _ _ _ _ h

/-- The memory behind the first two statements of put. -/
structure Mid2 (w w2 : World) (n h b f mm j q y : Nat) (C B F : Array Value) (m : Obj) (es : Array MapEntry) (clock : Nat) : Prop where
  hh : w2.heap[h]? = some (.cells C 49 (0, 0))
  hb : w2.heap[b]? = some (.cells (B.setIfInBounds j (.pointer (some ⟨q, 0, none⟩))) 30 (0, 0))
  hf : w2.heap[f]? = some (.cells (F.setIfInBounds (j / 64) (.int .u64 (y ||| 2 ^ (j % 64) : Nat))) 42 (0, 0))
  hm : w2.heap[mm]? = some (.map es clock)
  hq : w2.heap[q]? = some m
  tc : Touch [h, b, f, mm] w w2

theorem mid2 {w w2 : World} {n h b f mm j q y : Nat} {C B F : Array Value} {m : Obj} {es : Array MapEntry} {clock : Nat} (hh : w.heap[h]? = some (.cells C 49 (0, 0))) (hB : w.heap[b]? = some (.cells B 30 (0, 0))) (hF : w.heap[f]? = some (.cells F 42 (0, 0))) (hM : w.heap[mm]? = some (.map es clock)) (hq : w.heap[q]? = some m)
    (nhb : h ≠ b) (nhf : h ≠ f) (nbf : b ≠ f) (nqb : q ≠ b) (nqf : q ≠ f) (hw2 : AddPost f (j / 64) y (j % 64) (w.setCell ⟨b, j, none⟩ (.pointer (some ⟨q, 0, none⟩))).drew.drew w2) : Mid2 w w2 n h b f mm j q y C B F m es clock := by
  have nmb : mm ≠ b := by rintro rfl; rw [hM] at hB; simp at hB
  have nmf : mm ≠ f := by rintro rfl; rw [hM] at hF; simp at hF
  unfold AddPost at hw2
  subst hw2
  refine ⟨?_, ?_, ?_, ?_, ?_, ?_⟩
  · show ((w.setCell _ _).setCell _ _).heap[h]? = _
    rw [heap_other nhf, heap_other nhb]; exact hh
  · show ((w.setCell _ _).setCell _ _).heap[b]? = _
    rw [heap_other nbf]; exact set_at hB _ _
  · show ((w.setCell _ _).setCell _ _).heap[f]? = _
    exact set_at ((heap_other nbf.symm).trans hF) _ _
  · show ((w.setCell _ _).setCell _ _).heap[mm]? = _
    rw [heap_other nmf, heap_other nmb]; exact hM
  · show ((w.setCell _ _).setCell _ _).heap[q]? = _
    rw [heap_other nqf, heap_other nqb]; exact hq
  · exact ((((Touch.refl _ w).setCell (p := ⟨b, j, none⟩) (by simp) _).drew.drew).setCell (p := ⟨f, _, none⟩) (by simp) _).drew

/-- One value more is counted. -/
theorem counts_put {D : DataW Unit} {s : Hold} {n j : Nat} {v : ByteArray} (hD : Counts D s n) (hmap : Maps.IsMap D) (hj : j < n) (h0 : s j = none) : Counts (D.put (keyL v) (.lit (.int .i64 ((vcount s v n : Int) + 1)))) (s.put j v) n := by
  intro u
  rw [vcount_put u hj h0]
  by_cases e : v = u
  · subst e
    rw [Maps.atKey_put_same (k := keyL v) hmap trivial, Maps.has_put_same (k := keyL v) hmap trivial, if_pos rfl]
    exact ⟨by simp, by simp⟩
  · have hne : keyL u ≠ keyL v := by
      intro he
      simp only [keyL, Lit.string.injEq] at he
      apply e
      have := congrArg List.toArray he
      simp at this
      cases v; cases u; simp_all
    rw [Maps.atKey_put_other hne, Maps.has_put_other hne, if_neg e, Nat.add_zero]
    exact hD u

/-- The holding behind put. -/
theorem held_put {w w4 : World} {n ph h b f mm j q : Nat} {s : Hold} {v : ByteArray} {B F : Array Value} {D : DataW Unit} (hj : j < n) (h0 : s j = none) (hv : v.size ≤ maxLen) (hsz : ∀ j x, s j = some x → x.size ≤ maxLen)
    (hB : B.size = n) (hBv : ∀ i u, i < n → B[i]? = some u → SlotOK w ph i (s i) u) (hFs : F.size = words n) (hFv : ∀ k, k < words n → F[k]? = some (.int .u64 (wd (fun j => (s j).isSome) k : Nat)))
    (hL : ∀ k ∈ [h, b, f, mm], ∀ c, w.heap[k]? ≠ some (.cells c 35 (0, 0))) (tc : Touch [h, b, f, mm] w w4)
    (h1 : w4.heap[h]? = some (.cells (heldCells n b f (cnt s n + 1) mm) 49 (0, 0))) (h2 : w4.heap[b]? = some (.cells (B.setIfInBounds j (.pointer (some ⟨q, 0, none⟩))) 30 (0, 0)))
    (h3 : w4.heap[f]? = some (.cells (F.setIfInBounds (j / 64) (.int .u64 (wd (fun j => (s j).isSome) (j / 64) ||| 2 ^ (j % 64) : Nat))) 42 (0, 0))) (h4 : w4.ownsMap Try.prog 9 (plainElem Try.prog 3) mm (cnt s n + 1) D) (hD : Counts D (s.put j v) n)
    (hq : w4.heap[q]? = some (msgObj j ph v)) : PutPost n ph h b f mm (s.put j v) w w4 := by
  refine ⟨⟨?_, ⟨_, h2, by simpa using hB, fun i u hi hu => ?_⟩, ⟨_, h3, by simpa using hFs, fun k hk => ?_⟩, ⟨D, ?_, hD⟩, fun i x hx => ?_⟩, tc⟩
  · rw [cnt_put v hj h0]; exact h1
  · rw [Array.getElem?_setIfInBounds] at hu
    by_cases e : j = i
    · subst e
      rw [if_pos rfl, if_pos (by omega)] at hu
      simp only [Option.some.injEq] at hu
      exact .inr ⟨v, q, by simp [Hold.put], hu.symm, hq⟩
    · rw [if_neg e] at hu
      have := (hBv i u hi hu).touch tc hL
      unfold Hold.put
      rw [if_neg (fun e' => e e'.symm)]
      exact this
  · have hw := wd_add (P := fun j => (s j).isSome) (Q := fun i => (s.put j v i).isSome) (j := j) (fun i => by
      show ((s.put j v) i).isSome = _
      unfold Hold.put
      by_cases e : i = j
      · subst e; simp
      · simp [e]) k
    rw [hw, Array.getElem?_setIfInBounds]
    by_cases e : k = j / 64
    · subst e
      rw [if_pos rfl, if_pos rfl, if_pos (by omega)]
    · rw [if_neg e, if_neg (fun e' => e e'.symm)]
      exact hFv k hk
  · rw [cnt_put v hj h0]; exact h4
  · unfold Hold.put at hx
    split at hx
    · cases hx; exact hv
    · exact hsz i x hx

set_option maxHeartbeats 1600000 in
theorem put_any (n ph h b f mm j q : Nat) (s : Hold) (v : ByteArray) (w : World) (H : Held w n ph h b f mm s) (hn : n ≤ 65536) (hj : j < n) (h0 : s j = none) (hv : v.size ≤ maxLen) (hq : w.heap[q]? = some (msgObj j ph v)) :
    Calls Try.prog 17 #[.pointer (some ⟨h, 0, none⟩), .pointer (some ⟨q, 0, none⟩)] w fun e w' => e = .returned (.tuple #[]) ∧ PutPost n ph h b f mm (s.put j v) w w' := by
  obtain ⟨B, hB, hBs, hBv⟩ := H.hb
  obtain ⟨F, hF, hFs, hFv⟩ := H.hf
  obtain ⟨D, hmap, hD⟩ := H.hm
  have hmap0 := hmap
  obtain ⟨es, clock, hM, hrest⟩ := hmap
  have hcn := cnt_le s n
  have hh := H.hh
  have nhb : h ≠ b := by rintro rfl; rw [hB] at hh; simp at hh
  have nhf : h ≠ f := by rintro rfl; rw [hF] at hh; simp at hh
  have nbf : b ≠ f := by rintro rfl; rw [hF] at hB; simp at hB
  have nqh : q ≠ h := by rintro rfl; rw [hq] at hh; simp [msgObj] at hh
  have nqb : q ≠ b := by rintro rfl; rw [hq] at hB; simp [msgObj] at hB
  have nqf : q ≠ f := by rintro rfl; rw [hq] at hF; simp [msgObj] at hF
  have nmh : mm ≠ h := by rintro rfl; rw [hM] at hh; simp at hh
  have nmb : mm ≠ b := by rintro rfl; rw [hM] at hB; simp at hB
  have nmf : mm ≠ f := by rintro rfl; rw [hM] at hF; simp at hF
  have nqm : q ≠ mm := by rintro rfl; rw [hq] at hM; simp [msgObj] at hM
  have hL : ∀ k ∈ [h, b, f, mm], ∀ c, w.heap[k]? ≠ some (.cells c 35 (0, 0)) := by
    intro k hk c
    simp only [List.mem_cons, List.not_mem_nil, or_false] at hk
    rcases hk with rfl | rfl | rfl | rfl
    · rw [hh]; simp
    · rw [hB]; simp
    · rw [hF]; simp
    · rw [hM]; simp
  have hkey := keyOf_string_mk (P := Try.prog) Try.underlying9 hv
  have c0 : w.cell? ⟨h, 0, none⟩ = some (.slice (some ⟨b, 0, none⟩) n n) := cell_at hh rfl
  have c1 : w.cell? ⟨h, 1, none⟩ = some (.slice (some ⟨f, 0, none⟩) (words n) (words n)) := cell_at hh rfl
  have c2 : w.cell? ⟨h, 2, none⟩ = some (.int .i64 (cnt s n)) := cell_at hh rfl
  have c3 : w.cell? ⟨h, 3, none⟩ = some (.map (some mm)) := cell_at hh rfl
  have c4 : w.cell? ⟨h, 4, none⟩ = some (.pointer none) := cell_at hh rfl
  have q0 : w.cell? ⟨q, 0, none⟩ = some (.int .i64 j) := cell_at hq rfl
  have q2 : w.cell? ⟨q, 2, none⟩ = some (.string v) := cell_at hq rfl
  have bj : w.cell? ⟨b, j, none⟩ = some (B[j]'(by omega)) := cell_at hB (Array.getElem?_eq_getElem (by omega))
  have bf := free_at hB j
  generalize B[j]'(by omega) = oldb at bj
  have ij : (j : Int) < (n : Int) := by omega
  go_enter Try.func17, Try.ntmps17
  go_wp2
  go_region
  go_wp2
  have hjw : j / 64 < words n := by unfold words; omega
  have fj : w.cell? ⟨f, j / 64, none⟩ = some (.int .u64 (wd (fun j => (s j).isSome) (j / 64) : Nat)) := cell_at hF (hFv _ hjw)
  have ff := free_at hF (j / 64)
  have hyl := Hid.mk (wd_lt (fun j => (s j).isSome) (j / 64))
  generalize hwd : wd (fun j => (s j).isSome) (j / 64) = y at fj hyl
  have HWD : Hid (wd (fun j => (s j).isSome) (j / 64) = y) := hwd
  clear hwd
  have g1 : (w.setCell ⟨b, j, none⟩ (.pointer (some ⟨q, 0, none⟩))).cell? ⟨f, j / 64, none⟩ = some (.int .u64 y) := (World.cell?_setCell_other _ _ _ _ (by intro e; simp only [Addr.mk.injEq] at e; exact nbf e.1)).trans fj
  have g2 : (w.setCell ⟨b, j, none⟩ (.pointer (some ⟨q, 0, none⟩))).frozen? ⟨f, j / 64, none⟩ = false := (World.frozen?_setCell _ _ _ _).trans ff
  go_region_with (go_at_call 18; refine (add_any f (words n) j y _ (by omega) hjw hyl.out ?_ ?_).mono ?_; exact g1; exact g2; rintro e w2 ⟨rfl, hw2⟩)
  all_goals
    have M2 := mid2 (n := n) hh hB hF hM hq nhb nhf nbf nqb nqf hw2
    clear hw2 g1 g2 fj ff bj bf c0 c1 c2 c3 c4 q0 q2
    have c2 : w2.cell? ⟨h, 2, none⟩ = some (.int .i64 (cnt s n)) := cell_at M2.hh rfl
    have f2 := free_at M2.hh 2
    have h3 : (w2.setCell ⟨h, 2, none⟩ (.int .i64 ((cnt s n : Int) + 1))).drew.heap[h]? = some (.cells (heldCells n b f (cnt s n + 1) mm) 49 (0, 0)) := set_at M2.hh 2 _
    have hown3 : (w2.setCell ⟨h, 2, none⟩ (.int .i64 ((cnt s n : Int) + 1))).drew.ownsMap Try.prog 9 (plainElem Try.prog 3) mm (cnt s n) D := ⟨es, clock, (heap_other nmh).trans M2.hm, hrest⟩
    obtain ⟨cc, hlk, hat, hwc⟩ := hown3.lookup_int law9 Try.underlying47 Try.underlying3 (zero3 _) hkey
    have hcc : cc = (vcount s v n : Int) := by
      have h1 := (hD v).1
      unfold keyL at h1
      rw [h1] at hat
      simpa using hat.symm
    subst hcc
    have hvc := vcount_le s v n
    obtain ⟨W4, hup, hown4, hg4⟩ := hown3.update law9 Try.underlying47 (by unfold maxLen; omega) hkey (val := .int .i64 ((vcount s v n : Int) + 1)) (plainElem_int Try.underlying3 (WalkArith.wf_i64 (by omega)))
    have h4 : W4.heap[h]? = some (.cells (heldCells n b f (cnt s n + 1) mm) 49 (0, 0)) := (hg4.block h (lt_of_block h3) (by simp [nmh.symm])).trans h3
    have q3 : (w2.setCell ⟨h, 2, none⟩ (.int .i64 ((cnt s n : Int) + 1))).heap[q]? = some (msgObj j ph v) := (heap_other nqh).trans M2.hq
    have P5 : Hid (PutPost n ph h b f mm (s.put j v) w (W4.setCell ⟨h, 4, none⟩ (.pointer none))) := by
      have e5 : ∀ k, k ≠ h → k ≠ mm → k < w2.heap.size → (W4.setCell ⟨h, 4, none⟩ (.pointer none)).heap[k]? = w2.heap[k]? := fun k h1 h2 hk => by
        rw [heap_other h1, hg4.block k (by simpa [World.setCell] using hk) (by simpa using h2)]
        exact heap_other h1
      have nbh := nhb.symm
      have nfh := nhf.symm
      refine held_put (D := D.put (keyL v) (.lit (.int .i64 ((vcount s v n : Int) + 1)))) (q := q) hj h0 hv H.sz hBs hBv hFs hFv hL ?_ (set_at h4 4 _) ?_ ?_ ?_ (counts_put hD hmap0.isMap hj h0) ?_
      · exact ((M2.tc.setCell (p := ⟨h, 2, none⟩) (by simp) _).drew.grown hg4 (by simp)).setCell (p := ⟨h, 4, none⟩) (by simp) _
      · rw [e5 b nbh nmb.symm (lt_of_block M2.hb)]; exact M2.hb
      · rw [e5 f nfh nmf.symm (lt_of_block M2.hf), HWD.out]; exact M2.hf
      · obtain ⟨es4, clock4, he4, r4⟩ := hown4
        exact ⟨es4, clock4, (heap_other nmh).trans he4, r4⟩
      · rw [e5 q nqh nqm (lt_of_block M2.hq)]; exact M2.hq
    have c3 : (w2.setCell ⟨h, 2, none⟩ (.int .i64 ((cnt s n : Int) + 1))).cell? ⟨h, 3, none⟩ = some (.map (some mm)) := cell_at h3 rfl
    have q2 : (w2.setCell ⟨h, 2, none⟩ (.int .i64 ((cnt s n : Int) + 1))).cell? ⟨q, 2, none⟩ = some (.string v) := cell_at q3 rfl
    have c4 : W4.cell? ⟨h, 4, none⟩ = some (.pointer none) := cell_at h4 rfl
    have f4 := free_at h4 4
    clear h3 h4 q3 hg4 hown4 hown3 hwc hat M2
    go_wp2
    go_region
    all_goals
      go_wp2
      go_end0
      exact ⟨rfl, P5.out⟩
end Go.Proofs.Qxb6616381a
