/-
  seat b6616376a: the walk of FnIsPlaylistNamesArePrefixesOneEditApart.
-/
import Derived.Test.Qxb6616376aPlay
import Derived.Laws.IdiomStrings
import Derived.OpenShut
namespace Go.Proofs.Qxb6616376a
open Go.RowKit

/-- What '[]byte(s)' does, its world a letter. -/
theorem bytes_made (s : ByteArray) (w : World) : ∃ cap W1, (convert 9 24 (.string s)).run Try.prog w = .ok (.slice (some ⟨w.heap.size, 0, none⟩) s.size cap) W1 ∧
    (∀ j (hj : j < s.toList.length), W1.cell? ⟨w.heap.size, j, none⟩ = some (.int .u8 (s.toList[j].toNat : Int))) ∧ (∀ j, j < s.size → W1.frozen? ⟨w.heap.size, j, none⟩ = false) ∧ Below w.heap.size w W1 := by
  refine ⟨_, _, run_bytes_of_string w 9 24 5 s Try.underlying9 Try.underlying24 Try.underlying5, ?_, ?_, ?_⟩
  · intro j hj
    have hj2 : j < s.data.size := by rw [ByteArray.toList_eq] at hj; simpa using hj
    rw [cell_of_row _ w.heap.size j _ 5 _ (heap_alloc_new w.drew _), bytesRow_at s _ j hj2]
    simp [ByteArray.toList_eq]
  · intro j hj
    have hsz : s.size ≤ (bytesRow s (grownCap w s.size 0 5)).size := by
      have e : s.size = s.data.size := rfl
      simp [bytesRow]
    generalize bytesRow s (grownCap w s.size 0 5) = R at *
    have hb : (w.drew.alloc (.cells R 5 (R.size, R.size + 1))).heap[w.heap.size]? = some (.cells R 5 (R.size, R.size + 1)) := heap_alloc_new w.drew _
    simp only [World.frozen?, hb]
    simp
    omega
  · exact ((Below.refl _ w).drew).alloc (Nat.le_refl _) _

theorem bytes4_ok (s : ByteArray) (i b : Int) (w : World) (h : s.size ≤ 1048576) : Calls Try.prog 8 #[.string s, .int .i64 i, .int .u8 b] w fun e w' => e = .returned (.bool true) ∧ w = w' := by
  go_enter Try.func8, Try.ntmps8
  go_wp2
  go_ret
  exact ⟨rfl, rfl⟩


/-- The string behind one byte changed. -/
def edited (s : ByteArray) (k : Nat) (c : UInt8) : ByteArray := ⟨(s.toList.set k c).toArray⟩

theorem bytes_back (s : ByteArray) (k cap : Nat) (c : UInt8) (b : Int) (hbc : b = (c.toNat : Int)) (w W1 : World)
    (hcell : ∀ j (hj : j < s.toList.length), W1.cell? ⟨w.heap.size, j, none⟩ = some (.int .u8 (s.toList[j].toNat : Int))) :
    (convert 24 9 (.slice (some ⟨w.heap.size, 0, none⟩) s.size cap)).run Try.prog (W1.setCell ⟨w.heap.size, k, none⟩ (.int .u8 b)) = .ok (.string (edited s k c)) (W1.setCell ⟨w.heap.size, k, none⟩ (.int .u8 b)) := by
  have hl : (s.toList.set k c).length = s.size := by rw [List.length_set, ByteArray.toList_eq]; rfl
  have h := run_convert_bytes_back (P := Try.prog) (W1.setCell ⟨w.heap.size, k, none⟩ (.int .u8 b)) 24 9 5 ⟨w.heap.size, 0, none⟩ cap (s.toList.set k c) Try.underlying24 Try.underlying5 Try.underlying9 (fun j hj => by
    have hj' : j < s.toList.length := by rw [List.length_set] at hj; exact hj
    have hadd : (⟨w.heap.size, 0, none⟩ : Addr).add j = ⟨w.heap.size, j, none⟩ := by unfold Addr.add; split <;> simp_all
    rw [hadd]
    by_cases h : j = k
    · subst h
      rw [World.cell?_setCell_same _ _ _ (hcell j hj')]
      simp [hbc]
    · rw [World.cell?_setCell_other _ _ _ _ (by intro e; simp only [Addr.mk.injEq] at e; omega), hcell j hj']
      rw [List.getElem_set_ne (fun e => h e.symm)])
  rw [hl] at h
  exact h

theorem edited_toList (s : ByteArray) (k : Nat) (c : UInt8) : (edited s k c).toList = s.toList.set k c := by
  unfold edited; simp

theorem isPl_cases (s : ByteArray) (h : isPl s = true) : s.toList = nameA ∨ s.toList = nameB := by
  simpa [isPl] using h

theorem edited_not (s : ByteArray) (k : Nat) (c : UInt8) (hk : k < s.size) (hp : isPl s = true) (hne : ((s[k].toNat : Int) == (c.toNat : Int)) = false) : isPl (edited s k c) = false := by
  cases hq : isPl (edited s k c)
  · rfl
  · exfalso
    have h1 := isPl_cases s hp
    have h2 := isPl_cases _ hq
    rw [edited_toList] at h2
    have hkl : k < s.toList.length := by rw [ByteArray.toList_eq]; exact hk
    have hset : s.toList.set k c = s.toList := by
      have hlen : (s.toList.set k c).length = s.toList.length := List.length_set ..
      rcases h1 with h1 | h1 <;> rcases h2 with h2 | h2
      · rw [h2, h1]
      · rw [h2, h1] at hlen; simp [nameA, nameB] at hlen
      · rw [h2, h1] at hlen; simp [nameA, nameB] at hlen
      · rw [h2, h1]
    have he : (s.toList.set k c)[k]'(by rw [List.length_set]; exact hkl) = c := List.getElem_set_self ..
    have he2 : s.toList[k] = c := by rw [← he]; simp only [hset]
    have he3 : s.toList[k] = s[k] := by simp only [ByteArray.toList_eq]; rfl
    rw [he3] at he2
    rw [he2] at hne
    simp at hne

set_option maxHeartbeats 1600000 in
set_option maxRecDepth 100000 in
theorem edit_6t (s : ByteArray) (i : Int) (c : UInt8) (w : World) (hb : s.size ≤ 1048576) (HP : Hid (isPl s = true)) (t6 : ((s.size : Int) == 6) = true) (hsz : (s.size : Int) ≤ 11) (hm : (s.toList == (ByteArray.extract { data := #[115, 116, 114, 101, 97, 109, 46, 109, 51, 117, 56] } 0 s.size).toList) = true) :
    Calls Try.prog 4 #[.string s, .int .i64 i, .int .u8 (c.toNat : Int)] w fun e w' => e = .returned (.bool true) ∧ Below w.heap.size w w' := by
  go_enter Try.func4, Try.ntmps4
  go_wp2_with fail
  refine (bytes4_ok s i _ w hb).mono ?_
  rintro e w' ⟨rfl, rfl⟩
  go_wp2_with fail
  refine (play_any _ _).mono ?_
  rintro e w' ⟨rfl, rfl⟩
  rw [HP.out]
  by_cases hi0 : i < 0
  · go_wp2
    go_ret
    exact ⟨rfl, Below.refl _ _⟩
  by_cases hin : (s.size : Int) ≤ i
  · go_wp2
    go_ret
    exact ⟨rfl, Below.refl _ _⟩
  obtain ⟨k, rfl⟩ := Int.eq_ofNat_of_zero_le (show 0 ≤ i by omega)
  have hk : k < s.size := by omega
  cases heq : ((s[k].toNat : Int) == (c.toNat : Int))
  · obtain ⟨cap, W1, hrun, hcell, hfrz, hbel⟩ := bytes_made s w
    have hback := bytes_back s k cap c _ rfl w W1 hcell
    have hc1 := hcell k (by rw [ByteArray.toList_eq]; exact hk)
    have hf1 := hfrz k hk
    clear hcell hfrz
    go_wp2_with fail
    refine (play_any _ _).mono ?_
    rintro e w' ⟨rfl, rfl⟩
    rw [edited_not s k c hk HP.out heq]
    go_wp2
    go_ret
    exact ⟨rfl, hbel.setCell (p := ⟨w.heap.size, k, none⟩) (by simp) _⟩
  · go_wp2
    go_ret
    exact ⟨rfl, Below.refl _ _⟩

set_option maxHeartbeats 1600000 in
set_option maxRecDepth 100000 in
theorem edit_11t (s : ByteArray) (i : Int) (c : UInt8) (w : World) (hb : s.size ≤ 1048576) (HP : Hid (isPl s = true)) (t6 : ((s.size : Int) == 6) = false) (t11 : ((s.size : Int) == 11) = true) (hsz : (s.size : Int) ≤ 11) (hm : (s.toList == (ByteArray.extract { data := #[115, 116, 114, 101, 97, 109, 46, 109, 51, 117, 56] } 0 s.size).toList) = true) :
    Calls Try.prog 4 #[.string s, .int .i64 i, .int .u8 (c.toNat : Int)] w fun e w' => e = .returned (.bool true) ∧ Below w.heap.size w w' := by
  go_enter Try.func4, Try.ntmps4
  go_wp2_with fail
  refine (bytes4_ok s i _ w hb).mono ?_
  rintro e w' ⟨rfl, rfl⟩
  go_wp2_with fail
  refine (play_any _ _).mono ?_
  rintro e w' ⟨rfl, rfl⟩
  rw [HP.out]
  by_cases hi0 : i < 0
  · go_wp2
    go_ret
    exact ⟨rfl, Below.refl _ _⟩
  by_cases hin : (s.size : Int) ≤ i
  · go_wp2
    go_ret
    exact ⟨rfl, Below.refl _ _⟩
  obtain ⟨k, rfl⟩ := Int.eq_ofNat_of_zero_le (show 0 ≤ i by omega)
  have hk : k < s.size := by omega
  cases heq : ((s[k].toNat : Int) == (c.toNat : Int))
  · obtain ⟨cap, W1, hrun, hcell, hfrz, hbel⟩ := bytes_made s w
    have hback := bytes_back s k cap c _ rfl w W1 hcell
    have hc1 := hcell k (by rw [ByteArray.toList_eq]; exact hk)
    have hf1 := hfrz k hk
    clear hcell hfrz
    go_wp2_with fail
    refine (play_any _ _).mono ?_
    rintro e w' ⟨rfl, rfl⟩
    rw [edited_not s k c hk HP.out heq]
    go_wp2
    go_ret
    exact ⟨rfl, hbel.setCell (p := ⟨w.heap.size, k, none⟩) (by simp) _⟩
  · go_wp2
    go_ret
    exact ⟨rfl, Below.refl _ _⟩

set_option maxHeartbeats 1600000 in
set_option maxRecDepth 100000 in
theorem edit_6f (s : ByteArray) (i : Int) (c : UInt8) (w : World) (hb : s.size ≤ 1048576) (HP : Hid (isPl s = false)) (t6 : ((s.size : Int) == 6) = true) (hsz : (s.size : Int) ≤ 11) (hm : (s.toList == (ByteArray.extract { data := #[115, 116, 114, 101, 97, 109, 46, 109, 51, 117, 56] } 0 s.size).toList) = false) :
    Calls Try.prog 4 #[.string s, .int .i64 i, .int .u8 (c.toNat : Int)] w fun e w' => e = .returned (.bool true) ∧ Below w.heap.size w w' := by
  go_enter Try.func4, Try.ntmps4
  go_wp2_with fail
  refine (bytes4_ok s i _ w hb).mono ?_
  rintro e w' ⟨rfl, rfl⟩
  go_wp2_with fail
  refine (play_any _ _).mono ?_
  rintro e w' ⟨rfl, rfl⟩
  rw [HP.out]
  by_cases hi0 : i < 0
  · go_wp2
    go_ret
    exact ⟨rfl, Below.refl _ _⟩
  by_cases hin : (s.size : Int) ≤ i
  · go_wp2
    go_ret
    exact ⟨rfl, Below.refl _ _⟩
  obtain ⟨k, rfl⟩ := Int.eq_ofNat_of_zero_le (show 0 ≤ i by omega)
  have hk : k < s.size := by omega
  cases heq : ((s[k].toNat : Int) == (c.toNat : Int))
  · obtain ⟨cap, W1, hrun, hcell, hfrz, hbel⟩ := bytes_made s w
    have hback := bytes_back s k cap c _ rfl w W1 hcell
    have hc1 := hcell k (by rw [ByteArray.toList_eq]; exact hk)
    have hf1 := hfrz k hk
    clear hcell hfrz
    go_wp2
    go_ret
    exact ⟨rfl, hbel.setCell (p := ⟨w.heap.size, k, none⟩) (by simp) _⟩
  · go_wp2
    go_ret
    exact ⟨rfl, Below.refl _ _⟩

set_option maxHeartbeats 1600000 in
set_option maxRecDepth 100000 in
theorem edit_11f (s : ByteArray) (i : Int) (c : UInt8) (w : World) (hb : s.size ≤ 1048576) (HP : Hid (isPl s = false)) (t6 : ((s.size : Int) == 6) = false) (t11 : ((s.size : Int) == 11) = true) (hsz : (s.size : Int) ≤ 11) (hm : (s.toList == (ByteArray.extract { data := #[115, 116, 114, 101, 97, 109, 46, 109, 51, 117, 56] } 0 s.size).toList) = false) :
    Calls Try.prog 4 #[.string s, .int .i64 i, .int .u8 (c.toNat : Int)] w fun e w' => e = .returned (.bool true) ∧ Below w.heap.size w w' := by
  go_enter Try.func4, Try.ntmps4
  go_wp2_with fail
  refine (bytes4_ok s i _ w hb).mono ?_
  rintro e w' ⟨rfl, rfl⟩
  go_wp2_with fail
  refine (play_any _ _).mono ?_
  rintro e w' ⟨rfl, rfl⟩
  rw [HP.out]
  by_cases hi0 : i < 0
  · go_wp2
    go_ret
    exact ⟨rfl, Below.refl _ _⟩
  by_cases hin : (s.size : Int) ≤ i
  · go_wp2
    go_ret
    exact ⟨rfl, Below.refl _ _⟩
  obtain ⟨k, rfl⟩ := Int.eq_ofNat_of_zero_le (show 0 ≤ i by omega)
  have hk : k < s.size := by omega
  cases heq : ((s[k].toNat : Int) == (c.toNat : Int))
  · obtain ⟨cap, W1, hrun, hcell, hfrz, hbel⟩ := bytes_made s w
    have hback := bytes_back s k cap c _ rfl w W1 hcell
    have hc1 := hcell k (by rw [ByteArray.toList_eq]; exact hk)
    have hf1 := hfrz k hk
    clear hcell hfrz
    go_wp2
    go_ret
    exact ⟨rfl, hbel.setCell (p := ⟨w.heap.size, k, none⟩) (by simp) _⟩
  · go_wp2
    go_ret
    exact ⟨rfl, Below.refl _ _⟩

set_option maxHeartbeats 1600000 in
set_option maxRecDepth 100000 in
theorem edit_o (s : ByteArray) (i : Int) (c : UInt8) (w : World) (hb : s.size ≤ 1048576) (HP : Hid (isPl s = false)) (t6 : ((s.size : Int) == 6) = false) (t11 : ((s.size : Int) == 11) = false) :
    Calls Try.prog 4 #[.string s, .int .i64 i, .int .u8 (c.toNat : Int)] w fun e w' => e = .returned (.bool true) ∧ Below w.heap.size w w' := by
  go_enter Try.func4, Try.ntmps4
  go_wp2_with fail
  refine (bytes4_ok s i _ w hb).mono ?_
  rintro e w' ⟨rfl, rfl⟩
  go_wp2_with fail
  refine (play_any _ _).mono ?_
  rintro e w' ⟨rfl, rfl⟩
  rw [HP.out]
  by_cases hi0 : i < 0
  · go_wp2
    go_ret
    exact ⟨rfl, Below.refl _ _⟩
  by_cases hin : (s.size : Int) ≤ i
  · go_wp2
    go_ret
    exact ⟨rfl, Below.refl _ _⟩
  obtain ⟨k, rfl⟩ := Int.eq_ofNat_of_zero_le (show 0 ≤ i by omega)
  have hk : k < s.size := by omega
  cases heq : ((s[k].toNat : Int) == (c.toNat : Int))
  · obtain ⟨cap, W1, hrun, hcell, hfrz, hbel⟩ := bytes_made s w
    have hback := bytes_back s k cap c _ rfl w W1 hcell
    have hc1 := hcell k (by rw [ByteArray.toList_eq]; exact hk)
    have hf1 := hfrz k hk
    clear hcell hfrz
    go_wp2
    go_ret
    exact ⟨rfl, hbel.setCell (p := ⟨w.heap.size, k, none⟩) (by simp) _⟩
  · go_wp2
    go_ret
    exact ⟨rfl, Below.refl _ _⟩

theorem extract_take (f : ByteArray) (n : Nat) : (f.extract 0 n).toList = f.toList.take n := by
  rw [ByteArray.toList_eq, ByteArray.toList_eq]
  simp

theorem full_toList : (ByteArray.mk #[115, 116, 114, 101, 97, 109, 46, 109, 51, 117, 56]).toList = nameB := by decide +kernel

theorem edit_out (s : ByteArray) (hs : s.size ≤ maxLen) (i b : Int) (w : World) (hb : ¬ s.size ≤ 1048576) :
    Calls Try.prog 4 #[.string s, .int .i64 i, .int .u8 b] w fun e w' => e = .returned (.bool true) ∧ Below w.heap.size w w' := by
  unfold maxLen at hs
  go_enter Try.func4, Try.ntmps4
  go_wp2
  go_ret
  exact ⟨rfl, Below.refl _ _⟩

theorem edit_walk (s : ByteArray) (hs : s.size ≤ maxLen) (i b : Int) (wb : (Lit.int .u8 b).wf = true) (w : World) :
    Calls Try.prog 4 #[.string s, .int .i64 i, .int .u8 b] w fun e w' => e = .returned (.bool true) ∧ Below w.heap.size w w' := by
  by_cases hb : s.size ≤ 1048576
  · have hbd := bounds_u8 wb
    obtain ⟨c, rfl⟩ : ∃ c : UInt8, b = (c.toNat : Int) := ⟨UInt8.ofNat b.toNat, by
      rw [UInt8.toNat_ofNat']; omega⟩
    have hlen : s.toList.length = s.size := by rw [ByteArray.toList_eq]; rfl
    by_cases h6 : s.size = 6
    · have hB : (s.toList == nameB) = false := by
        rw [beq_eq_false_iff_ne]; intro h; rw [h] at hlen; rw [h6] at hlen; simp [nameB] at hlen
      have hp : isPl s = (s.toList == nameA) := by rw [isPl, hB, Bool.or_false]
      have hx : (s.toList == (ByteArray.extract { data := #[115, 116, 114, 101, 97, 109, 46, 109, 51, 117, 56] } 0 s.size).toList) = (s.toList == nameA) := by
        rw [extract_take, full_toList, h6]; rfl
      cases hA : s.toList == nameA
      · rw [hA] at hp hx
        exact edit_6f s i c w hb hp (by simp [h6]) (by omega) hx
      · rw [hA] at hp hx
        exact edit_6t s i c w hb hp (by simp [h6]) (by omega) hx
    · have hA : (s.toList == nameA) = false := by
        rw [beq_eq_false_iff_ne]; intro h; rw [h] at hlen; simp [nameA] at hlen; omega
      have hp : isPl s = (s.toList == nameB) := by rw [isPl, hA, Bool.false_or]
      by_cases h11 : s.size = 11
      · have hx : (s.toList == (ByteArray.extract { data := #[115, 116, 114, 101, 97, 109, 46, 109, 51, 117, 56] } 0 s.size).toList) = (s.toList == nameB) := by
          rw [extract_take, full_toList, h11]; rfl
        cases hB : s.toList == nameB
        · rw [hB] at hp hx
          exact edit_11f s i c w hb hp (beq_eq_false_iff_ne.2 (by omega)) (by simp [h11]) (by omega) hx
        · rw [hB] at hp hx
          exact edit_11t s i c w hb hp (beq_eq_false_iff_ne.2 (by omega)) (by simp [h11]) (by omega) hx
      · have hB : (s.toList == nameB) = false := by
          rw [beq_eq_false_iff_ne]; intro h; rw [h] at hlen; simp [nameB] at hlen; omega
        rw [hB] at hp
        exact edit_o s i c w hb hp (beq_eq_false_iff_ne.2 (by omega)) (beq_eq_false_iff_ne.2 (by omega))
  · exact edit_out s hs i b w hb
end Go.Proofs.Qxb6616376a
