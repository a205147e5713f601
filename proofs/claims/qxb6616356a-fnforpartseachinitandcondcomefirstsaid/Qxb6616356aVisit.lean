/-
  seat b6616356a: (*ForParts).each, ZZeachPositions.
-/
import Derived.Test.Qxb6616356aEach
namespace Go.Proofs.Qxb6616356a
open Go.RowKit

/-- The visits of a loop head. -/
def vis (hi : Bool) (i0 : Int) (hc : Bool) (c0 : Int) (us : List Int) : List Int :=
  (if hi then [i0] else []) ++ (if hc then [c0] else []) ++ us

/-- A node in an interface field: nil, or a pointer to a node of type T whose first cell holds x. -/
def Node (w : World) (B : Nat) (T : TypeId) (h : Bool) (x : Int) (v : Value) : Prop :=
  (h = false ∧ v = .nilIface) ∨ (h = true ∧ ∃ b, b < B ∧ v = .iface T (.pointer (some ⟨b, 0, none⟩)) ∧ w.cell? ⟨b, 0, none⟩ = some (.int .i64 x))

/-- A loop head in memory, below block B. -/
structure Head (w : World) (B bp : Nat) (hi : Bool) (i0 : Int) (hc : Bool) (c0 : Int) (us : List Int) (I C S : Value) : Prop where
  lt : bp < B
  size : B ≤ w.heap.size
  cI : w.cell? ⟨bp, 0, none⟩ = some I
  cC : w.cell? ⟨bp, 1, none⟩ = some C
  cS : w.cell? ⟨bp, 2, none⟩ = some S
  nI : Node w B 54 hi i0 I
  nC : Node w B 35 hc c0 C
  nS : ∃ a cap, S = .slice a us.length cap ∧ (us = [] ∨ ∃ g, a = some ⟨g, 0, none⟩ ∧ g < B ∧ ∀ i, i < us.length → ∃ q, q < B ∧ w.cell? ⟨g, i, none⟩ = some (.iface 35 (.pointer (some ⟨q, 0, none⟩))) ∧ w.cell? ⟨q, 0, none⟩ = some (.int .i64 (us.getD i 0)))

theorem Node.below {w w' : World} {B : Nat} {T : TypeId} {h : Bool} {x : Int} {v : Value} (n : Node w B T h x v) (hb : Below B w w') : Node w' B T h x v := by
  rcases n with n | ⟨rfl, b, hlt, rfl, hc⟩
  · exact .inl n
  · exact .inr ⟨rfl, b, hlt, rfl, (hb.cell (p := ⟨b, 0, none⟩) hlt).trans hc⟩

theorem Head.below {w w' : World} {B bp : Nat} {hi : Bool} {i0 : Int} {hc : Bool} {c0 : Int} {us : List Int} {I C S : Value} (h : Head w B bp hi i0 hc c0 us I C S) (hb : Below B w w') : Head w' B bp hi i0 hc c0 us I C S := by
  refine ⟨h.lt, Nat.le_trans h.size hb.size, (hb.cell (p := ⟨bp, 0, none⟩) h.lt).trans h.cI, (hb.cell (p := ⟨bp, 1, none⟩) h.lt).trans h.cC, (hb.cell (p := ⟨bp, 2, none⟩) h.lt).trans h.cS, h.nI.below hb, h.nC.below hb, ?_⟩
  obtain ⟨a, cap, rfl, hs⟩ := h.nS
  refine ⟨a, cap, rfl, ?_⟩
  rcases hs with hs | ⟨g, rfl, hg, hs⟩
  · exact .inl hs
  · refine .inr ⟨g, rfl, hg, fun i hi => ?_⟩
    obtain ⟨q, hq, h1, h2⟩ := hs i hi
    exact ⟨q, hq, (hb.cell (p := ⟨g, i, none⟩) hg).trans h1, (hb.cell (p := ⟨q, 0, none⟩) hq).trans h2⟩

theorem take_succ (us : List Int) (k : Nat) (h : k < us.length) : us.take (k + 1) = us.take k ++ [us.getD k 0] := by
  rw [List.take_add_one, List.getElem?_eq_getElem h]; simp [h]

/-- The collector's variable holds a slice of its own, of the integers xs. -/
def Out (w : World) (Bo : Nat) (xs : List Int) : Prop := ∃ v, w.heap[Bo]? = some (.cells #[v] 30 (0, 0)) ∧ w.ownsRow Bo 3 1 v xs.length (xs.map (Value.int .i64))

theorem out_ident' (Bo bi : Nat) (xs : List Int) (x : Int) (w : World) (hbi : bi < Bo) (ho : Out w Bo xs) (hx : w.cell? ⟨bi, 0, none⟩ = some (.int .i64 x)) (hl : xs.length ≤ 1000000) :
    Calls Try.prog 17 #[.iface 35 (.pointer (some ⟨bi, 0, none⟩)), .pointer (some ⟨Bo, 0, none⟩)] w fun e w' => e = .returned (.tuple #[]) ∧ Out w' Bo (xs ++ [x]) ∧ Below Bo w w' := by
  obtain ⟨v, hv, hown⟩ := ho
  exact out_ident Bo bi v xs x w hbi hv hown hx hl
theorem out_block' (Bo bi : Nat) (xs : List Int) (x : Int) (w : World) (hbi : bi < Bo) (ho : Out w Bo xs) (hx : w.cell? ⟨bi, 0, none⟩ = some (.int .i64 x)) (hl : xs.length ≤ 1000000) :
    Calls Try.prog 17 #[.iface 54 (.pointer (some ⟨bi, 0, none⟩)), .pointer (some ⟨Bo, 0, none⟩)] w fun e w' => e = .returned (.tuple #[]) ∧ Out w' Bo (xs ++ [x]) ∧ Below Bo w w' := by
  obtain ⟨v, hv, hown⟩ := ho
  exact out_block Bo bi v xs x w hbi hv hown hx hl

set_option maxHeartbeats 1600000 in
set_option maxRecDepth 100000 in
theorem each_any (Bo bp : Nat) (hi : Bool) (i0 : Int) (hc : Bool) (c0 : Int) (us : List Int) (I C S : Value) (w : World) (hh : Head w Bo bp hi i0 hc c0 us I C S) (ho : Out w Bo []) (hl : us.length ≤ 200000) :
    Calls Try.prog 16 #[.pointer (some ⟨bp, 0, none⟩), .func (.func 17) #[] #[.pointer (some ⟨Bo, 0, none⟩)]] w fun e w' => e = .returned (.tuple #[]) ∧ Out w' Bo (vis hi i0 hc c0 us) ∧ Below Bo w w' := by
  have hI := hh.cI
  have hC := hh.cC
  have hS := hh.cS
  obtain ⟨a, cap, rfl, hs⟩ := hh.nS
  rcases hh.nI with ⟨rfl, rfl⟩ | ⟨rfl, bi, hbi, rfl, hci⟩
  · rcases hh.nC with ⟨rfl, rfl⟩ | ⟨rfl, bc, hbc, rfl, hcc⟩
    · have HH : Hid (Head w Bo bp false i0 false c0 us .nilIface .nilIface (.slice a us.length cap)) := hh
      clear hh
      go_enter Try.func16, Try.ntmps16
      go_wp2_with fail
      go_loopw [33] (fun i wr => ∃ k : Nat, k ≤ us.length ∧ i = .int .i64 k ∧ Out wr Bo ([] ++ us.take k) ∧ Below Bo w wr) (fun i _ => us.length - (intOf i).toNat)
      case atStart => exact ⟨0, Nat.zero_le _, rfl, by simpa using ho, Below.refl _ _⟩
      case round =>
        obtain ⟨k, hk, rfl, hout, hbel⟩ := hrel
        by_cases hlt : k < us.length
        · have hne : us ≠ [] := by intro h; rw [h] at hlt; simp at hlt
          obtain ⟨g, rfl, hg, hcs⟩ := hs.resolve_left hne
          obtain ⟨q, hq, h1, h2⟩ := hcs k hlt
          have h1' := (hbel.cell (p := ⟨g, k, none⟩) hg).trans h1
          have h2' := (hbel.cell (p := ⟨q, 0, none⟩) hq).trans h2
          have hlen : ([] ++ us.take k).length ≤ 1000000 := by simp; omega
          clear hcs h1 h2
          go_wp2_with (go_at_call 17; refine (out_ident' Bo q _ _ wr hq hout h2' hlen).mono ?_; rintro e w2 ⟨rfl, hout2, hbel2⟩)
          go_roundw
          case rel => exact ⟨k + 1, by omega, by go_num, by rw [take_succ us k hlt, ← List.append_assoc]; assumption, hbel.trans (by assumption)⟩
          case measure => simp [intOf]; omega
        · have hkl : us.length = k := by omega
          have hout3 : Out wr Bo ([] ++ us) := by rw [← hkl, List.take_length] at hout; exact hout
          clear hkl hout
          go_wp2
          go_end0
          exact ⟨rfl, by simpa [vis] using hout3, hbel⟩

    · have HH : Hid (Head w Bo bp false i0 true c0 us .nilIface (.iface 35 (.pointer (some ⟨bc, 0, none⟩))) (.slice a us.length cap)) := hh
      clear hh
      go_enter Try.func16, Try.ntmps16
      go_wp2_with fail
      refine (out_ident' Bo bc _ _ _ hbc ho hcc (by simp)).mono ?_
      rintro e w1 ⟨rfl, ho1, hb1⟩
      have hh1 := HH.out.below hb1
      have hS1 := hh1.cS
      clear hh1
      go_wp2_with fail
      go_loopw [33] (fun i wr => ∃ k : Nat, k ≤ us.length ∧ i = .int .i64 k ∧ Out wr Bo ([c0] ++ us.take k) ∧ Below Bo w wr) (fun i _ => us.length - (intOf i).toNat)
      case atStart => exact ⟨0, Nat.zero_le _, rfl, by simpa using ho1, hb1⟩
      case round =>
        obtain ⟨k, hk, rfl, hout, hbel⟩ := hrel
        by_cases hlt : k < us.length
        · have hne : us ≠ [] := by intro h; rw [h] at hlt; simp at hlt
          obtain ⟨g, rfl, hg, hcs⟩ := hs.resolve_left hne
          obtain ⟨q, hq, h1, h2⟩ := hcs k hlt
          have h1' := (hbel.cell (p := ⟨g, k, none⟩) hg).trans h1
          have h2' := (hbel.cell (p := ⟨q, 0, none⟩) hq).trans h2
          have hlen : ([c0] ++ us.take k).length ≤ 1000000 := by simp; omega
          clear hcs h1 h2
          go_wp2_with (go_at_call 17; refine (out_ident' Bo q _ _ wr hq hout h2' hlen).mono ?_; rintro e w2 ⟨rfl, hout2, hbel2⟩)
          go_roundw
          case rel => exact ⟨k + 1, by omega, by go_num, by rw [take_succ us k hlt, ← List.append_assoc]; assumption, hbel.trans (by assumption)⟩
          case measure => simp [intOf]; omega
        · have hkl : us.length = k := by omega
          have hout3 : Out wr Bo ([c0] ++ us) := by rw [← hkl, List.take_length] at hout; exact hout
          clear hkl hout
          go_wp2
          go_end0
          exact ⟨rfl, by simpa [vis] using hout3, hbel⟩

  · rcases hh.nC with ⟨rfl, rfl⟩ | ⟨rfl, bc, hbc, rfl, hcc⟩
    · have HH : Hid (Head w Bo bp true i0 false c0 us (.iface 54 (.pointer (some ⟨bi, 0, none⟩))) .nilIface (.slice a us.length cap)) := hh
      clear hh
      go_enter Try.func16, Try.ntmps16
      go_wp2_with fail
      refine (out_block' Bo bi _ _ _ hbi ho hci (by simp)).mono ?_
      rintro e w1 ⟨rfl, ho1, hb1⟩
      have hh1 := HH.out.below hb1
      have hC1 := hh1.cC
      have hS1 := hh1.cS
      clear hh1
      go_wp2_with fail
      go_loopw [33] (fun i wr => ∃ k : Nat, k ≤ us.length ∧ i = .int .i64 k ∧ Out wr Bo ([i0] ++ us.take k) ∧ Below Bo w wr) (fun i _ => us.length - (intOf i).toNat)
      case atStart => exact ⟨0, Nat.zero_le _, rfl, by simpa using ho1, hb1⟩
      case round =>
        obtain ⟨k, hk, rfl, hout, hbel⟩ := hrel
        by_cases hlt : k < us.length
        · have hne : us ≠ [] := by intro h; rw [h] at hlt; simp at hlt
          obtain ⟨g, rfl, hg, hcs⟩ := hs.resolve_left hne
          obtain ⟨q, hq, h1, h2⟩ := hcs k hlt
          have h1' := (hbel.cell (p := ⟨g, k, none⟩) hg).trans h1
          have h2' := (hbel.cell (p := ⟨q, 0, none⟩) hq).trans h2
          have hlen : ([i0] ++ us.take k).length ≤ 1000000 := by simp; omega
          clear hcs h1 h2
          go_wp2_with (go_at_call 17; refine (out_ident' Bo q _ _ wr hq hout h2' hlen).mono ?_; rintro e w2 ⟨rfl, hout2, hbel2⟩)
          go_roundw
          case rel => exact ⟨k + 1, by omega, by go_num, by rw [take_succ us k hlt, ← List.append_assoc]; assumption, hbel.trans (by assumption)⟩
          case measure => simp [intOf]; omega
        · have hkl : us.length = k := by omega
          have hout3 : Out wr Bo ([i0] ++ us) := by rw [← hkl, List.take_length] at hout; exact hout
          clear hkl hout
          go_wp2
          go_end0
          exact ⟨rfl, by simpa [vis] using hout3, hbel⟩

    · have HH : Hid (Head w Bo bp true i0 true c0 us (.iface 54 (.pointer (some ⟨bi, 0, none⟩))) (.iface 35 (.pointer (some ⟨bc, 0, none⟩))) (.slice a us.length cap)) := hh
      clear hh
      go_enter Try.func16, Try.ntmps16
      go_wp2_with fail
      refine (out_block' Bo bi _ _ _ hbi ho hci (by simp)).mono ?_
      rintro e w1 ⟨rfl, ho1, hb1⟩
      have hh1 := HH.out.below hb1
      have hC1 := hh1.cC
      have hS1 := hh1.cS
      have hcc1 := (hb1.cell (p := ⟨bc, 0, none⟩) hbc).trans hcc
      clear hh1
      go_wp2_with fail
      refine (out_ident' Bo bc _ _ _ hbc ho1 hcc1 (by simp)).mono ?_
      rintro e w2 ⟨rfl, ho2, hb2⟩
      have hb02 := hb1.trans hb2
      have hh2 := HH.out.below hb02
      have hS2 := hh2.cS
      clear hh2
      go_wp2_with fail
      go_loopw [33] (fun i wr => ∃ k : Nat, k ≤ us.length ∧ i = .int .i64 k ∧ Out wr Bo ([i0, c0] ++ us.take k) ∧ Below Bo w wr) (fun i _ => us.length - (intOf i).toNat)
      case atStart => exact ⟨0, Nat.zero_le _, rfl, by simpa using ho2, hb02⟩
      case round =>
        obtain ⟨k, hk, rfl, hout, hbel⟩ := hrel
        by_cases hlt : k < us.length
        · have hne : us ≠ [] := by intro h; rw [h] at hlt; simp at hlt
          obtain ⟨g, rfl, hg, hcs⟩ := hs.resolve_left hne
          obtain ⟨q, hq, h1, h2⟩ := hcs k hlt
          have h1' := (hbel.cell (p := ⟨g, k, none⟩) hg).trans h1
          have h2' := (hbel.cell (p := ⟨q, 0, none⟩) hq).trans h2
          have hlen : ([i0, c0] ++ us.take k).length ≤ 1000000 := by simp; omega
          clear hcs h1 h2
          go_wp2_with (go_at_call 17; refine (out_ident' Bo q _ _ wr hq hout h2' hlen).mono ?_; rintro e w2 ⟨rfl, hout2, hbel2⟩)
          go_roundw
          case rel => exact ⟨k + 1, by omega, by go_num, by rw [take_succ us k hlt, ← List.append_assoc]; assumption, hbel.trans (by assumption)⟩
          case measure => simp [intOf]; omega
        · have hkl : us.length = k := by omega
          have hout3 : Out wr Bo ([i0, c0] ++ us) := by rw [← hkl, List.take_length] at hout; exact hout
          clear hkl hout
          go_wp2
          go_end0
          exact ⟨rfl, by simpa [vis] using hout3, hbel⟩

end Go.Proofs.Qxb6616356a
