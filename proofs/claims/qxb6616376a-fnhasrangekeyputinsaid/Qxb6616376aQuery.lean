/-
  seat b6616376a: zzBuildQuery, hasRange.
-/
import Derived.Test.Qxb6616376aClone
import Derived.Maps.OwnSet
import Derived.Maps.OwnOps
namespace Go.Proofs.Qxb6616376a
open Go.RowKit Go.Maps Go.WideMaps
set_option linter.unusedVariables false

/-- The elements of the query do not matter: each reads as nil. -/
def anyE : Value → Option (DataW Unit × List MemPlace) := fun _ => some (.nil, [])
def keyL (s : ByteArray) : Lit := .string s.data.toList
/-- The keys of a query, as a set. -/
def keySet (ss : List ByteArray) : DataW Unit := setOf .nil (ss.map keyL)

theorem law9 : Keyed Try.prog 9 := string_keyed Try.underlying9

/-- The value r is a query whose keys are ss. -/
def Query (w : World) (r : Value) (ss : List ByteArray) : Prop :=
  (r = .map none ∧ ss = []) ∨ ∃ b n, r = .map (some b) ∧ b < w.heap.size ∧ w.ownsMap Try.prog 9 anyE b n (keySet ss)

theorem Query.below {w w' : World} {r : Value} {ss : List ByteArray} (h : Query w r ss) (hb : Below w.heap.size w w') : Query w' r ss := by
  rcases h with h | ⟨b, n, rfl, hlt, es, clock, hh, F, hs, hD⟩
  · exact .inl h
  · exact .inr ⟨b, n, rfl, Nat.lt_of_lt_of_le hlt hb.size, es, clock, (hb.block b hlt).trans hh, F, hs, hD⟩

theorem has_keySet (ss : List ByteArray) (s : ByteArray) : Maps.has (keySet ss) (keyL s) = ss.any (fun x => x.toList == s.toList) := by
  unfold keySet
  rw [has_setOf _ _ _ (by intro x hx; rw [List.mem_map] at hx; obtain ⟨y, _, rfl⟩ := hx; trivial), List.any_map]
  congr 1
  funext x
  simp [keyL, Lit.sameKey, ByteArray.toList_eq]

theorem keySet_snoc (ss : List ByteArray) (k : Nat) (hk : k < ss.length) : keySet (ss.take (k + 1)) = (keySet (ss.take k)).put (keyL (ss.getD k ByteArray.empty)) .nil := by
  unfold keySet
  rw [List.take_add_one, List.getElem?_eq_getElem hk, List.map_append]
  simp [setOf_snoc, hk]

theorem zero25 (w : World) : (zeroValue 25).run Try.prog w = .ok (.slice none 0 0) w := by kernel_rfl

theorem has_any (r : Value) (ss : List ByteArray) (s : ByteArray) (w : World) (hq : Query w r ss) (hs : s.size ≤ maxLen) :
    Calls Try.prog 21 #[r, .string s] w fun e w' => e = .returned (.bool (ss.any (fun x => x.toList == s.toList))) ∧ w = w' := by
  have hkey := keyOf_string_mk (P := Try.prog) Try.underlying9 hs
  rcases hq with ⟨rfl, rfl⟩ | ⟨b, n, rfl, hlt, hown⟩
  · have hl := Maps.look_nil (w := w) true law9 Try.underlying39 (zero25 _) hkey
    simp only [if_true] at hl
    go_enter Try.func21, Try.ntmps21
    go_wp2
    go_ret
    exact ⟨rfl, rfl⟩
  · obtain ⟨v, ps, hl, _⟩ := hown.look_ok law9 Try.underlying39 (zero25 _) (zd := .nil) (zp := []) rfl hkey
    have e : Maps.has (keySet ss) (Lit.string s.data.toList) = ss.any (fun x => x.toList == s.toList) := has_keySet ss s
    rw [e] at hl
    generalize ss.any (fun x => x.toList == s.toList) = β at *
    clear e hown hkey
    go_enter Try.func21, Try.ntmps21
    go_wp2
    go_ret
    exact ⟨rfl, rfl⟩
theorem begin_toList : (ByteArray.mk #[98, 101, 103, 105, 110]).toList = [98, 101, 103, 105, 110] := by decide +kernel
theorem end_toList : (ByteArray.mk #[101, 110, 100]).toList = [101, 110, 100] := by decide +kernel
theorem any_split (ss : List ByteArray) : ss.any isEnd = (ss.any (fun x => x.toList == [98, 101, 103, 105, 110]) || ss.any (fun x => x.toList == [101, 110, 100])) := by
  induction ss with
  | nil => rfl
  | cons s ss ih =>
    simp only [List.any_cons, ih, isEnd]
    generalize (s.toList == [98, 101, 103, 105, 110]) = a
    generalize (s.toList == [101, 110, 100]) = b
    generalize (ss.any fun x => x.toList == [98, 101, 103, 105, 110]) = c
    generalize (ss.any fun x => x.toList == [101, 110, 100]) = d
    cases a <;> cases b <;> cases c <;> cases d <;> rfl

theorem has_begin (r : Value) (ss : List ByteArray) (w : World) (hq : Query w r ss) (β : Bool) (h : ss.any (fun x => x.toList == [98, 101, 103, 105, 110]) = β) :
    Calls Try.prog 21 #[r, .string { data := #[98, 101, 103, 105, 110] }] w fun e w' => e = .returned (.bool β) ∧ w = w' := by
  have := has_any r ss { data := #[98, 101, 103, 105, 110] } w hq (by decide +kernel)
  rw [begin_toList, h] at this
  exact this
theorem has_end (r : Value) (ss : List ByteArray) (w : World) (hq : Query w r ss) (β : Bool) (h : ss.any (fun x => x.toList == [101, 110, 100]) = β) :
    Calls Try.prog 21 #[r, .string { data := #[101, 110, 100] }] w fun e w' => e = .returned (.bool β) ∧ w = w' := by
  have := has_any r ss { data := #[101, 110, 100] } w hq (by decide +kernel)
  rw [end_toList, h] at this
  exact this

theorem hasRange_any (r : Value) (ss : List ByteArray) (w : World) (hq : Query w r ss) :
    Calls Try.prog 18 #[r] w fun e w' => e = .returned (.bool (ss.any isEnd)) ∧ w = w' := by
  rw [any_split]
  have hb := has_begin r ss w hq
  have he := has_end r ss w hq
  generalize hA : (ss.any fun x => x.toList == [98, 101, 103, 105, 110]) = A at *
  generalize hB : (ss.any fun x => x.toList == [101, 110, 100]) = B at *
  have HB := hb A rfl
  have HE := he B rfl
  clear hb he hA hB hq
  have HB' : Hid (Calls Try.prog 21 #[r, .string { data := #[98, 101, 103, 105, 110] }] w fun e w' => e = .returned (.bool A) ∧ w = w') := HB
  have HE' : Hid (Calls Try.prog 21 #[r, .string { data := #[101, 110, 100] }] w fun e w' => e = .returned (.bool B) ∧ w = w') := HE
  clear HB HE
  cases A
  · go_enter Try.func18, Try.ntmps18
    go_wp2_with (go_at_call 20; go_in)
    refine HB'.out.mono ?_
    rintro e w' ⟨rfl, rfl⟩
    go_wp2_with fail
    refine HE'.out.mono ?_
    rintro e w' ⟨rfl, rfl⟩
    go_wp2
    go_ret
    exact ⟨rfl, rfl⟩
  · go_enter Try.func18, Try.ntmps18
    go_wp2_with (go_at_call 20; go_in)
    refine HB'.out.mono ?_
    rintro e w' ⟨rfl, rfl⟩
    go_wp2
    go_ret
    exact ⟨rfl, rfl⟩

theorem query_made {w w' : World} {bq n : Nat} {ss : List ByteArray} (hown : w'.ownsMap Try.prog 9 anyE bq n (keySet ss)) : Query w' (.map (some bq)) ss := by
  have h := hown
  obtain ⟨es, clock, hh, _⟩ := h
  exact .inr ⟨bq, n, rfl, lt_of_block hh, hown⟩

theorem own_map_below {w w' : World} {b n : Nat} {D : DataW Unit} (h : w.ownsMap Try.prog 9 anyE b n D) (hb : Below w.heap.size w w') : w'.ownsMap Try.prog 9 anyE b n D := by
  obtain ⟨es, clock, hh, r⟩ := h
  exact ⟨es, clock, (hb.block b (lt_of_block hh)).trans hh, r⟩

set_option maxHeartbeats 1600000 in
set_option maxRecDepth 100000 in
theorem build_any (vk vv : Value) (ss : List ByteArray) (us : List (List ByteArray)) (w : World) (hk : Strs w vk ss) (hv : Vals w vv us) (hl : ss.length ≤ 1048577) (hlu : us.length ≤ 1048576) (hli : ∀ i, (us.getD i []).length ≤ 1048576) :
    Calls Try.prog 16 #[vk, vv] w fun e w' => ∃ r, e = .returned r ∧ Query w' r ss ∧ Below w.heap.size w w' := by
  obtain ⟨hsz, a, cap, rfl, hn, hc⟩ := hk
  have hnl := fun (w : World) (a : Option Addr) (n c : Nat) => Lib.run_eql_slice_nil (P := Try.prog) w 25 9 a n c 0 0 Try.underlying25
  obtain ⟨a2, cap2, rfl, hn2, hc2⟩ := hv
  cases a with
  | none =>
    obtain ⟨rfl, rfl⟩ := hn rfl
    go_enter Try.func16, Try.ntmps16
    go_wp2
    go_ret
    exact ⟨_, rfl, .inl ⟨rfl, rfl⟩, Below.refl _ _⟩
  | some ad =>
    have hmm := @run_makeMap Try.prog
    go_enter Try.func16, Try.ntmps16
    go_wp2
    go_loopw [6] (fun i wr => ∃ (k : Nat), k ≤ ss.length ∧ i = .int .i64 k ∧ wr.ownsMap Try.prog 9 anyE w.heap.size k (keySet (ss.take k)) ∧ Below w.heap.size w wr) (fun i _ => ss.length - (intOf i).toNat)
    case atStart => exact ⟨0, Nat.zero_le _, rfl, World.ownsMap_made _ _ _ _, (Below.refl _ _).alloc (Nat.le_refl _) _⟩
    case round =>
      obtain ⟨k, hk, rfl, hown, hbel⟩ := hrel
      by_cases hlt : k < ss.length
      · have hne : ss ≠ [] := by intro h; rw [h] at hlt; simp at hlt
        obtain ⟨b, off, hab, hbl, hcs⟩ := hc.resolve_left hne
        cases hab
        have hck := (hbel.cell (p := ⟨b, off + k, none⟩) hbl).trans (hcs k hlt)
        have hsk := hsz k
        have HS : Hid (keySet (ss.take (k + 1)) = (keySet (ss.take k)).put (keyL (ss.getD k ByteArray.empty)) .nil) := keySet_snoc ss k hlt
        generalize ss.getD k ByteArray.empty = s at hck hsk HS
        have hkey := keyOf_string_mk (P := Try.prog) Try.underlying9 hsk
        clear hcs hc hsz
        by_cases hlt2 : k < us.length
        · have hne2 : us ≠ [] := by intro h; rw [h] at hlt2; simp at hlt2
          obtain ⟨b2, off2, hab2, hbl2, hcs2⟩ := hc2.resolve_left hne2
          subst hab2
          obtain ⟨u, hcu, hsu⟩ := hcs2 k hlt2
          have hck2 := (hbel.cell (p := ⟨b2, off2 + k, none⟩) hbl2).trans hcu
          have hsr := hsu.below hbel
          have hlk := hli k
          clear hcs2 hc2 hcu hsu hli
          go_wp2_with fail
          refine (clone_any u _ wr hsr (by omega)).mono ?_
          rintro e w2 ⟨v2, rfl, hF2, _, hb2⟩
          have hown2 := own_map_below hown hb2
          have hbel2 := hbel.trans (hb2.mono hbel.size)
          have hck3 := (hb2.cell (p := ⟨b, off + k, none⟩) (Nat.lt_of_lt_of_le hbl hbel.size)).trans hck
          clear hown hsr hF2 hb2 hck hck2 hbel
          go_wp2_with (at_mapUpdate; refine wpList_mapUpdate_own _ rfl _ _ _ 34 rfl 9 25 law9 Try.underlying34 anyE w.heap.size k _ rfl hown2 (by unfold maxLen; omega) _ _ _ rfl rfl hkey .nil [] rfl ?_; intro w3 hown3 hgrow3)
          go_roundw
          case rel => exact ⟨k + 1, by omega, by go_num, by rw [HS.out]; exact hown3, hbel2.grown hgrow3 hbel2.size (fun j hj => by cases hj; exact Nat.le_refl _)⟩
          case measure => simp [intOf]; omega
        · go_wp2_with (at_mapUpdate; refine wpList_mapUpdate_own _ rfl _ _ _ 34 rfl 9 25 law9 Try.underlying34 anyE w.heap.size k _ rfl hown (by unfold maxLen; omega) _ _ _ rfl rfl hkey .nil [] rfl ?_; intro w3 hown3 hgrow3)
          go_roundw
          case rel => exact ⟨k + 1, by omega, by go_num, by rw [HS.out]; exact hown3, hbel.grown hgrow3 hbel.size (fun j hj => by cases hj; exact Nat.le_refl _)⟩
          case measure => simp [intOf]; omega
      · have hq : Query wr (.map (some w.heap.size)) ss := by
          rw [List.take_of_length_le (by omega)] at hown
          exact query_made (w := w) hown
        clear hown hc hc2
        go_wp2
        go_ret
        exact ⟨_, rfl, hq, hbel⟩
end Go.Proofs.Qxb6616376a
