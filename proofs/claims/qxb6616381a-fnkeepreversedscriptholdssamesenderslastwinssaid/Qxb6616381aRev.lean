/-
  seat b6616381a: the reversed law's walk.
-/
import Derived.Test.Qxb6616381aFin
import Derived.Deep.CutBlock
namespace Go.Proofs.Qxb6616381a
open Go.RowKit Go.Maps Go.WideMaps
set_option linter.unusedVariables false

theorem touch_box (w : World) (o : Obj) : Touch [] w (w.alloc o).drew := ((Touch.refl [] w).alloc o).drew
theorem box_at (w : World) (o : Obj) : (w.alloc o).drew.heap[w.heap.size]? = some o := heap_alloc_new w o

set_option maxHeartbeats 6400000 in
set_option maxRecDepth 100000 in
theorem rev_walk (n : Nat) (a : Option Addr) (cap : Nat) (ms : List Msg) (w : World) (hn : n ≤ 65536) (hv : Script w a ms) (hl : ms.length ≤ 65536) :
    Calls Try.prog 4 #[.int .i64 n, .slice a ms.length cap] w fun e w' => e = .returned (.bool true) ∧ Below w.heap.size w w' := by
  have hmk := make_ints n hn
  have hlm : ms.length ≤ maxLen := by unfold maxLen; omega
  have hd0 : decide ((n : Int) < 0) = false := decide_eq_false (by omega)
  have hd1 : decide ((65536 : Int) < (n : Int)) = false := decide_eq_false (by omega)
  have hd2 : decide ((65536 : Int) < (ms.length : Int)) = false := decide_eq_false (by omega)
  go_enter Try.func4, Try.ntmps4
  go_wp2_with fail
  refine (bytes4_any n a cap ms w hv hlm).mono ?_
  rintro e w' ⟨β, rfl, rfl, hβ⟩
  cases β
  · clear hβ
    go_wp2
    go_ret
    exact ⟨rfl, Below.refl _ _⟩
  have HB : Hid (∀ i, i < ms.length → (ms.getD i zeroM).val.size ≤ 1048576) := hβ rfl
  clear hβ
  have HV : Hid (Script w a ms) := hv
  clear hv
  go_upto_block 0 with fail
  go_cut [5, 6] from 37 to 53 (fun _ _ wx => w = wx)
  case first =>
    go_wp2_with fail
    go_loop [5, 6] (fun z i => ∃ (k : Nat) (t : Int), k ≤ ms.length ∧ i = .int .i64 k ∧ z = .int .i64 t ∧ 0 ≤ t ∧ t ≤ 1048576) (fun _ i => ms.length - (intOf i).toNat)
    case atStart => exact ⟨0, _, Nat.zero_le _, rfl, rfl, by omega, by omega⟩
    case round =>
      obtain ⟨k, t, hk, rfl, rfl, h0, h1⟩ := hrel
      by_cases hlt : k < ms.length
      · have hne : ms ≠ [] := by intro h; rw [h] at hlt; simp at hlt
        obtain ⟨b, off, rfl, hbl, hcs⟩ := HV.out.2.resolve_left hne
        obtain ⟨c0, c1, c2⟩ := hcs k hlt
        have hbk := HB.out k hlt
        generalize ms.getD k zeroM = el at c0 c1 c2 hbk
        clear hcs HV HB
        by_cases hs2 : 1048576 < t + (24 + (el.val.size : Int))
        · go_wp2
          go_ret
          exact ⟨rfl, Below.refl _ _⟩
        · go_wp2
          go_round
          case rel => exact ⟨k + 1, _, by omega, by go_num, rfl, by omega, by omega⟩
          case measure => simp [intOf]; omega
      · go_wp2
        go_meet
        rfl
  case rest =>
   subst hcut
   go_wp2_with fail
   go_cut [7] from 54 to 58 (fun t7 w1 => Pair w w1 n t7)
   case first =>
        go_region
        all_goals (go_wp2; go_meet)
        all_goals (first | exact pair_mk (by omega) (by omega) (by omega) (by omega) (three w _ _ _).2.2.2 (three w _ _ _).1 (three w _ _ _).2.1 (three w _ _ _).2.2.1 | exact pair_mk (by omega) (by omega) (by omega) (by omega) (three w _ _ _).2.2.2 (three w _ _ _).1 (three w _ _ _).2.2.1 (three w _ _ _).2.1 | exact pair_mk (by omega) (by omega) (by omega) (by omega) (three w _ _ _).2.2.2 (three w _ _ _).2.1 (three w _ _ _).1 (three w _ _ _).2.2.1 | exact pair_mk (by omega) (by omega) (by omega) (by omega) (three w _ _ _).2.2.2 (three w _ _ _).2.1 (three w _ _ _).2.2.1 (three w _ _ _).1 | exact pair_mk (by omega) (by omega) (by omega) (by omega) (three w _ _ _).2.2.2 (three w _ _ _).2.2.1 (three w _ _ _).1 (three w _ _ _).2.1 | exact pair_mk (by omega) (by omega) (by omega) (by omega) (three w _ _ _).2.2.2 (three w _ _ _).2.2.1 (three w _ _ _).2.1 (three w _ _ _).1)
   case rest =>
    have HP : Hid (Pair w wc n u7) := hcut
    clear hcut
    go_wp2_with fail
    go_cut [8] from 59 to 63 (fun t8 wd => Pair wc wd n t8)
    case first =>
      go_region
      all_goals (go_wp2; go_meet)
      all_goals (first | exact pair_mk (by omega) (by omega) (by omega) (by omega) (three wc _ _ _).2.2.2 (three wc _ _ _).1 (three wc _ _ _).2.1 (three wc _ _ _).2.2.1 | exact pair_mk (by omega) (by omega) (by omega) (by omega) (three wc _ _ _).2.2.2 (three wc _ _ _).1 (three wc _ _ _).2.2.1 (three wc _ _ _).2.1 | exact pair_mk (by omega) (by omega) (by omega) (by omega) (three wc _ _ _).2.2.2 (three wc _ _ _).2.1 (three wc _ _ _).1 (three wc _ _ _).2.2.1 | exact pair_mk (by omega) (by omega) (by omega) (by omega) (three wc _ _ _).2.2.2 (three wc _ _ _).2.1 (three wc _ _ _).2.2.1 (three wc _ _ _).1 | exact pair_mk (by omega) (by omega) (by omega) (by omega) (three wc _ _ _).2.2.2 (three wc _ _ _).2.2.1 (three wc _ _ _).1 (three wc _ _ _).2.1 | exact pair_mk (by omega) (by omega) (by omega) (by omega) (three wc _ _ _).2.2.2 (three wc _ _ _).2.2.1 (three wc _ _ _).2.1 (three wc _ _ _).1)
    case rest =>
     obtain ⟨x, rfl, rfl, hx, B, hb⟩ := book_new (ms := ms) HP.out hcut
     have HK : Hid (Book _ w.heap.size n ms 0 x) := B
     have HW : Hid (Below w.heap.size w _) := hb
     clear HP hcut B hb hmk hd0 hd1 hd2
     go_upto_block 2 with fail
     rw [← hx]
     clear hx
     go_cut [10, 11, 12] from 65 to 121 (fun _ _ _ wx => Book wx w.heap.size n ms ms.length x ∧ Below w.heap.size w wx)
     case first =>
       go_wp2_with fail
       go_loopw [10] (fun i wr => ∃ k : Nat, k ≤ ms.length ∧ i = .int .i64 k ∧ Hid (Book wr w.heap.size n ms k x) ∧ Hid (Below w.heap.size w wr)) (fun i _ => ms.length - (intOf i).toNat)
       case atStart => exact ⟨0, Nat.zero_le _, rfl, HK, HW⟩
       case round =>
         clear HK HW
         obtain ⟨k, hk, rfl, HB2, HW2⟩ := hrel
         by_cases hlt : k < ms.length
         · have hne : ms ≠ [] := by intro h; rw [h] at hlt; simp at hlt
           obtain ⟨b, off, rfl, hbl, hcs⟩ := (HV.out.below HW2.out).2.resolve_left hne
           obtain ⟨c0, c1, c2⟩ := hcs k hlt
           clear hcs HV HB hbl c2
           have MISS : Hid ((∀ ph j, ph < 2 → j < n → (ms.getD k zeroM).hits ph j = false) → Book wr w.heap.size n ms (k + 1) x) := fun h => HB2.out.miss hlt h
           generalize hel : ms.getD k zeroM = el at c0 c1 MISS
           by_cases hr : 0 ≤ el.id ∧ el.id < n
           · obtain ⟨j, hid⟩ : ∃ j : Nat, el.id = j := ⟨el.id.toNat, by omega⟩
             have hjn : j < n := by omega
             by_cases e0 : el.ph = 0
             · as_aux_lemma =>
                 have a1 : wr.cell? ⟨x.xo, 0, none⟩ = some (.slice (some ⟨x.o0, 0, none⟩) n n) := cell_at HB2.out.ho rfl
                 have a2 : wr.cell? ⟨x.xl, 0, none⟩ = some (.slice (some ⟨x.l0, 0, none⟩) n n) := cell_at HB2.out.hl rfl
                 have a3 : wr.cell? ⟨x.xd, 0, none⟩ = some (.int .i64 (cnt (holdOf n (ms.take k) 0) n : Nat)) := cell_at HB2.out.hd rfl
                 have a4 := HB2.out.O0.cell hjn
                 have a5 := HB2.out.L0.cell hjn
                 have a6 := free_at HB2.out.hd 0
                 have a7 := HB2.out.O0.free j
                 have a8 := HB2.out.L0.free j
                 have a9 := cnt_le (holdOf n (ms.take k) 0) n
                 have a10 := occ_le ms 0 j k
                 have d1 : x.xd ≠ x.o0 := by have := HB2.out.nx; omega
                 have d2 : x.xd ≠ x.xo := by have := HB2.out.nx; omega
                 have d3 : x.xd ≠ x.xl := by have := HB2.out.nx; omega
                 have d4 : x.xd ≠ x.l0 := by have := HB2.out.nx; omega
                 have d5 : x.xo ≠ x.o0 := by have := HB2.out.no; omega
                 have d6 : x.xo ≠ x.l0 := by have := HB2.out.no; omega
                 have d7 : x.xl ≠ x.o0 := by have := HB2.out.nl; omega
                 have d8 : x.xl ≠ x.l0 := by have := HB2.out.nl; omega
                 have d9 : x.o0 ≠ x.l0 := by have := HB2.out.nd; omega
                 have HH : Hid ((ms.getD k zeroM).hits 0 j = true) := by rw [hel]; simp [Hid, Msg.hits, e0, hid]
                 clear hel
                 rw [e0] at c1
                 rw [hid] at c0
                 clear hr hid e0 MISS el
                 by_cases ho : occ ms 0 j k = 0
                 · have AF1 : Hid (∀ u v z : Int, u = (cnt (holdOf n (ms.take k) 0) n : Nat) + 1 → v = (occ ms 0 j k : Nat) + 1 → z = (k : Nat) → Book _ w.heap.size n ms (k + 1) x ∧ Below w.heap.size wr _) := fun u v z hu hv hz => HB2.out.new0 hlt hjn HH.out ho hu hv hz HW2.out.size
                   rw [ho] at a4 AF1
                   go_wp2
                   go_roundw
                   case measure => simp [intOf]; omega
                   case rel => exact ⟨k + 1, by omega, by go_num, (AF1.out _ _ _ (by simp) (by simp) rfl).1, HW2.out.trans (AF1.out _ _ _ (by simp) (by simp) rfl).2⟩
                 · have AF2 : Hid (∀ v z : Int, v = (occ ms 0 j k : Nat) + 1 → z = (k : Nat) → Book _ w.heap.size n ms (k + 1) x ∧ Below w.heap.size wr _) := fun v z hv hz => HB2.out.more0 hlt hjn HH.out ho hv hz HW2.out.size
                   have ho2 : ((occ ms 0 j k : Int) == 0) = false := by simp; omega
                   go_wp2
                   go_roundw
                   case measure => simp [intOf]; omega
                   case rel => exact ⟨k + 1, by omega, by go_num, (AF2.out _ _ rfl rfl).1, HW2.out.trans (AF2.out _ _ rfl rfl).2⟩
             · by_cases e1 : el.ph = 1
               · as_aux_lemma =>
                   have a1 : wr.cell? ⟨x.xo, 1, none⟩ = some (.slice (some ⟨x.o1, 0, none⟩) n n) := cell_at HB2.out.ho rfl
                   have a2 : wr.cell? ⟨x.xl, 1, none⟩ = some (.slice (some ⟨x.l1, 0, none⟩) n n) := cell_at HB2.out.hl rfl
                   have a3 : wr.cell? ⟨x.xd, 1, none⟩ = some (.int .i64 (cnt (holdOf n (ms.take k) 1) n : Nat)) := cell_at HB2.out.hd rfl
                   have a4 := HB2.out.O1.cell hjn
                   have a5 := HB2.out.L1.cell hjn
                   have a6 := free_at HB2.out.hd 1
                   have a7 := HB2.out.O1.free j
                   have a8 := HB2.out.L1.free j
                   have a9 := cnt_le (holdOf n (ms.take k) 1) n
                   have a10 := occ_le ms 1 j k
                   have d1 : x.xd ≠ x.o1 := by have := HB2.out.nx; omega
                   have d2 : x.xd ≠ x.xo := by have := HB2.out.nx; omega
                   have d3 : x.xd ≠ x.xl := by have := HB2.out.nx; omega
                   have d4 : x.xd ≠ x.l1 := by have := HB2.out.nx; omega
                   have d5 : x.xo ≠ x.o1 := by have := HB2.out.no; omega
                   have d6 : x.xo ≠ x.l1 := by have := HB2.out.no; omega
                   have d7 : x.xl ≠ x.o1 := by have := HB2.out.nl; omega
                   have d8 : x.xl ≠ x.l1 := by have := HB2.out.nl; omega
                   have d9 : x.o1 ≠ x.l1 := by have := HB2.out.nd; omega
                   have HH : Hid ((ms.getD k zeroM).hits 1 j = true) := by rw [hel]; simp [Hid, Msg.hits, e1, hid]
                   clear hel
                   rw [e1] at c1
                   rw [hid] at c0
                   clear hr hid e0 e1 MISS el
                   by_cases ho : occ ms 1 j k = 0
                   · have AF1 : Hid (∀ u v z : Int, u = (cnt (holdOf n (ms.take k) 1) n : Nat) + 1 → v = (occ ms 1 j k : Nat) + 1 → z = (k : Nat) → Book _ w.heap.size n ms (k + 1) x ∧ Below w.heap.size wr _) := fun u v z hu hv hz => HB2.out.new1 hlt hjn HH.out ho hu hv hz HW2.out.size
                     rw [ho] at a4 AF1
                     go_wp2
                     go_roundw
                     case measure => simp [intOf]; omega
                     case rel => exact ⟨k + 1, by omega, by go_num, (AF1.out _ _ _ (by simp) (by simp) rfl).1, HW2.out.trans (AF1.out _ _ _ (by simp) (by simp) rfl).2⟩
                   · have AF2 : Hid (∀ v z : Int, v = (occ ms 1 j k : Nat) + 1 → z = (k : Nat) → Book _ w.heap.size n ms (k + 1) x ∧ Below w.heap.size wr _) := fun v z hv hz => HB2.out.more1 hlt hjn HH.out ho hv hz HW2.out.size
                     have ho2 : ((occ ms 1 j k : Int) == 0) = false := by simp; omega
                     go_wp2
                     go_roundw
                     case measure => simp [intOf]; omega
                     case rel => exact ⟨k + 1, by omega, by go_num, (AF2.out _ _ rfl rfl).1, HW2.out.trans (AF2.out _ _ rfl rfl).2⟩
               · as_aux_lemma =>
                   have HM : Hid (Book wr w.heap.size n ms (k + 1) x) := MISS.out fun ph j' hp hj' => by
                     unfold Msg.hits
                     have : ¬ el.ph = (ph : Int) := by omega
                     simp [this]
                   have e0b : (el.ph == 0) = false := by simp [e0]
                   have e1b : (el.ph == 1) = false := by simp [e1]
                   clear MISS hel
                   generalize el.ph = ep at *
                   generalize el.id = ei at *
                   go_wp2
                   go_roundw
                   case measure => simp [intOf]; omega
                   case rel => exact ⟨k + 1, by omega, by go_num, HM.out, HW2⟩
           · as_aux_lemma =>
               have HM : Hid (Book wr w.heap.size n ms (k + 1) x) := MISS.out fun ph j' hp hj' => by
                 unfold Msg.hits
                 have : ¬ el.id = (j' : Int) := by omega
                 simp [this]
               clear MISS hel
               generalize el.ph = ep at *
               generalize el.id = ei at *
               by_cases e0 : ep = 0
               · subst e0
                 by_cases g : 0 ≤ ei
                 · have g2 : decide (ei < (n : Int)) = false := decide_eq_false (by omega)
                   go_wp2
                   go_roundw
                   case measure => simp [intOf]; omega
                   case rel => exact ⟨k + 1, by omega, by go_num, HM.out, HW2⟩
                 · go_wp2
                   go_roundw
                   case measure => simp [intOf]; omega
                   case rel => exact ⟨k + 1, by omega, by go_num, HM.out, HW2⟩
               · have e0b : (ep == 0) = false := by simp [e0]
                 by_cases e1 : ep = 1
                 · subst e1
                   by_cases g : 0 ≤ ei
                   · have g2 : decide (ei < (n : Int)) = false := decide_eq_false (by omega)
                     go_wp2
                     go_roundw
                     case measure => simp [intOf]; omega
                     case rel => exact ⟨k + 1, by omega, by go_num, HM.out, HW2⟩
                   · go_wp2
                     go_roundw
                     case measure => simp [intOf]; omega
                     case rel => exact ⟨k + 1, by omega, by go_num, HM.out, HW2⟩
                 · have e1b : (ep == 1) = false := by simp [e1]
                   go_wp2
                   go_roundw
                   case measure => simp [intOf]; omega
                   case rel => exact ⟨k + 1, by omega, by go_num, HM.out, HW2⟩
         · have hkk : k = ms.length := by omega
           subst hkk
           go_wp2
           go_meet
           exact ⟨HB2.out, HW2.out⟩
     case rest =>
       obtain ⟨wA, rfl⟩ : ∃ y, y = wc := ⟨wc, rfl⟩
       obtain ⟨B1, W1⟩ := hcut
       have HK : Hid (Book _ w.heap.size n ms ms.length x) := B1
       have HW : Hid (Below w.heap.size w _) := W1
       clear B1 W1
       go_wp2_with fail
       refine (newKeeper_any n hn _).mono ?_
       rintro e w3 ⟨v, rfl, hNK, hb3⟩
       obtain ⟨k1, rfl, K1⟩ := keeper_new hNK
       clear hNK
       have HK1 : Hid (Keeper w3 wA.heap.size n k1 (holdOf n [] 0) (holdOf n [] 1)) := K1
       have HB3 : Hid (Below wA.heap.size wA w3) := hb3
       clear K1 hb3
       go_upto_block 4 with fail
       go_cut [14] from 124 to 148 (fun _ wx => Keeper wx wA.heap.size n k1 (holdOf n ms 0) (holdOf n ms 1) ∧ Below wA.heap.size wA wx)
       case first =>
         go_wp2_with fail
         go_loopw [14] (fun i wr => ∃ k : Nat, k ≤ ms.length ∧ i = .int .i64 k ∧ Hid (Keeper wr wA.heap.size n k1 (holdOf n (ms.take k) 0) (holdOf n (ms.take k) 1)) ∧ Hid (Below wA.heap.size wA wr)) (fun i _ => ms.length - (intOf i).toNat)
         case atStart => exact ⟨0, Nat.zero_le _, rfl, HK1, HB3⟩
         case round =>
           clear HK1 HB3
           obtain ⟨k, hk, rfl, HR1, HR2⟩ := hrel
           by_cases hlt : k < ms.length
           · have hne : ms ≠ [] := by intro h; rw [h] at hlt; simp at hlt
             obtain ⟨b, off, rfl, hbl0, hcs0⟩ := HV.out.2.resolve_left hne
             have hbw := HW.out.size
             obtain ⟨b', off', hab, hbl, hcs⟩ := ((HV.out.below HW.out).below HR2.out).2.resolve_left hne
             obtain ⟨rfl, rfl⟩ : b' = b ∧ off' = off := by simp at hab; exact ⟨hab.1.symm, hab.2.symm⟩
             obtain ⟨c0, c1, c2⟩ := hcs k hlt
             have hvs := HV.out.1 k
             have hbc : b' < wA.heap.size := by omega
             clear hcs hcs0 HB hbl hbl0 hab HK HW
             have AFT : Hid (∀ (o : Obj) (w2 : World), KeepPost wA.heap.size n k1 (ms.take k ++ [ms.getD k zeroM]) (wr.alloc o).drew w2 → CellsAt w2 b' off' k (ms.getD k zeroM)) := fun o w2 hP => by
               have hb := ((touch_box wr o).below HR2.out.size (by simp)).trans hP.2.1
               exact ⟨(hb.cell (p := ⟨b', _, none⟩) hbc).trans c0, (hb.cell (p := ⟨b', _, none⟩) hbc).trans c1, (hb.cell (p := ⟨b', _, none⟩) hbc).trans c2⟩
             have KEEP : Hid (∀ (o : Obj), Keeper (wr.alloc o).drew wA.heap.size n k1 (holdOf n (ms.take k) 0) (holdOf n (ms.take k) 1) ∧ wA.heap.size ≤ (wr.alloc o).drew.heap.size) := fun o => ⟨HR1.out.below ((touch_box wr o).below (Nat.le_refl _) (by simp)), Nat.le_trans HR2.out.size (touch_box wr o).size⟩
             have DONE : Hid (∀ (o : Obj) (w2 : World), KeepPost wA.heap.size n k1 (ms.take k ++ [ms.getD k zeroM]) (wr.alloc o).drew w2 → Keeper w2 wA.heap.size n k1 (holdOf n (ms.take (k + 1)) 0) (holdOf n (ms.take (k + 1)) 1) ∧ Below wA.heap.size wA w2) := fun o w2 hP => by
               rw [take_snoc ms k hlt]
               exact ⟨hP.1, HR2.out.trans (((touch_box wr o).below HR2.out.size (by simp)).trans hP.2.1)⟩
             generalize hel : ms.getD k zeroM = el at c0 c1 c2 AFT DONE hvs
             have HC : Hid (Calls Try.prog 7 #[.pointer (some ⟨k1.p, 0, none⟩), .pointer (some ⟨wr.heap.size, 0, none⟩)] (wr.alloc (.cells #[.int .i64 el.id, .int .i64 el.ph, .string el.val, .pointer none, .pointer none, .pointer none] 35)).drew fun e w' => e = .returned (.tuple #[]) ∧ KeepPost wA.heap.size n k1 (ms.take k ++ [el]) (wr.alloc (.cells #[.int .i64 el.id, .int .i64 el.ph, .string el.val, .pointer none, .pointer none, .pointer none] 35)).drew w') := zzkeep_any wA.heap.size n wr.heap.size k1 (ms.take k) el _ (KEEP.out _).1 (KEEP.out _).2 hn hvs _ _ _ (box_at _ _)
             clear hel HV HR1 HR2 KEEP hvs
             as_aux_lemma =>
               go_wp2
               go_region_held3 (fun w' => w'.cell? ⟨b', off' + k * 3, none⟩ = some (.int .i64 el.id) ∧ w'.cell? ⟨b', off' + k * 3 + 1, none⟩ = some (.int .i64 el.ph) ∧ w'.cell? ⟨b', off' + k * 3 + 2, none⟩ = some (.string el.val)) (first | go_keep | exact AFT.out _ _ hP2) (first | (go_at_call 7; refine HC.out.mono ?_; rintro e w2 ⟨rfl, hP2⟩))
               go_wp2
               go_roundw
               case measure => simp [intOf]; omega
               case rel => exact ⟨k + 1, by omega, by go_num, (DONE.out _ _ hP2).1, (DONE.out _ _ hP2).2⟩
           · have hkk : k = ms.length := by omega
             subst hkk
             rw [List.take_length] at HR1
             go_wp2
             go_meet
             exact ⟨HR1.out, HR2.out⟩
       case rest =>
         obtain ⟨wB, rfl⟩ : ∃ y, y = wc := ⟨wc, rfl⟩
         obtain ⟨K1, W2⟩ := hcut
         have HG : Hid (Book wB w.heap.size n ms ms.length x ∧ Keeper wB wA.heap.size n k1 (holdOf n ms 0) (holdOf n ms 1)) := ⟨HK.out.below W2, K1⟩
         have HX : Hid (Below w.heap.size w wB) := HW.out.trans (W2.mono HW.out.size)
         clear K1 W2 HK HW HK1 HB3
         go_wp2_with fail
         refine (newKeeper_any n hn _).mono ?_
         rintro e w4 ⟨v, rfl, hNK, hb4⟩
         obtain ⟨k2, rfl, K2⟩ := keeper_new hNK
         clear hNK
         have HK2 : Hid (Keeper w4 wB.heap.size n k2 (holdOf n [] 0) (holdOf n [] 1)) := K2
         have HB4 : Hid (Below wB.heap.size wB w4) := hb4
         clear K2 hb4
         go_upto_block 6 with fail
         go_cut [16] from 154 to 176 (fun _ wx => Keeper wx wB.heap.size n k2 (holdOf n ms.reverse 0) (holdOf n ms.reverse 1) ∧ Below wB.heap.size wB wx)
         case first =>
           go_wp2_with fail
           go_loopw [16] (fun i wr => ∃ k : Nat, k ≤ ms.length ∧ i = .int .i64 ((k : Int) - 1) ∧ Hid (Keeper wr wB.heap.size n k2 (holdOf n (ms.drop k).reverse 0) (holdOf n (ms.drop k).reverse 1)) ∧ Hid (Below wB.heap.size wB wr)) (fun i _ => (intOf i + 1).toNat)
           case atStart =>
             refine ⟨ms.length, Nat.le_refl _, rfl, ?_, HB4⟩
             rw [List.drop_length]
             exact HK2
           case round =>
             clear HK2 HB4
             obtain ⟨k, hk, hs, HR1, HR2⟩ := hrel
             cases k with
             | succ k =>
               have hs' := hs.trans (congrArg (Value.int IntKind.i64) (show ((k + 1 : Nat) : Int) - 1 = (k : Nat) by omega))
               clear hs
               subst hs'
               have hlt : k < ms.length := by omega
               have hne : ms ≠ [] := by intro h; rw [h] at hlt; simp at hlt
               obtain ⟨b, off, rfl, hbl0, hcs0⟩ := HV.out.2.resolve_left hne
               have hbw := HX.out.size
               obtain ⟨b', off', hab, hbl, hcs⟩ := ((HV.out.below HX.out).below HR2.out).2.resolve_left hne
               obtain ⟨rfl, rfl⟩ : b' = b ∧ off' = off := by simp at hab; exact ⟨hab.1.symm, hab.2.symm⟩
               obtain ⟨c0, c1, c2⟩ := hcs k hlt
               have hvs := HV.out.1 k
               have hbc : b' < wB.heap.size := by omega
               clear hcs hcs0 HB hbl hbl0 hab HG HX
               have AFT : Hid (∀ (o : Obj) (w2 : World), KeepPost wB.heap.size n k2 ((ms.drop (k + 1)).reverse ++ [ms.getD k zeroM]) (wr.alloc o).drew w2 → CellsAt w2 b' off' k (ms.getD k zeroM)) := fun o w2 hP => by
                 have hb := ((touch_box wr o).below HR2.out.size (by simp)).trans hP.2.1
                 exact ⟨(hb.cell (p := ⟨b', _, none⟩) hbc).trans c0, (hb.cell (p := ⟨b', _, none⟩) hbc).trans c1, (hb.cell (p := ⟨b', _, none⟩) hbc).trans c2⟩
               have KEEP : Hid (∀ (o : Obj), Keeper (wr.alloc o).drew wB.heap.size n k2 (holdOf n (ms.drop (k + 1)).reverse 0) (holdOf n (ms.drop (k + 1)).reverse 1) ∧ wB.heap.size ≤ (wr.alloc o).drew.heap.size) := fun o => ⟨HR1.out.below ((touch_box wr o).below (Nat.le_refl _) (by simp)), Nat.le_trans HR2.out.size (touch_box wr o).size⟩
               have DONE : Hid (∀ (o : Obj) (w2 : World), KeepPost wB.heap.size n k2 ((ms.drop (k + 1)).reverse ++ [ms.getD k zeroM]) (wr.alloc o).drew w2 → Keeper w2 wB.heap.size n k2 (holdOf n (ms.drop k).reverse 0) (holdOf n (ms.drop k).reverse 1) ∧ Below wB.heap.size wB w2) := fun o w2 hP => by
                 rw [drop_rev ms k hlt]
                 exact ⟨hP.1, HR2.out.trans (((touch_box wr o).below HR2.out.size (by simp)).trans hP.2.1)⟩
               generalize hel : ms.getD k zeroM = el at c0 c1 c2 AFT DONE hvs
               have HC : Hid (Calls Try.prog 7 #[.pointer (some ⟨k2.p, 0, none⟩), .pointer (some ⟨wr.heap.size, 0, none⟩)] (wr.alloc (.cells #[.int .i64 el.id, .int .i64 el.ph, .string el.val, .pointer none, .pointer none, .pointer none] 35)).drew fun e w' => e = .returned (.tuple #[]) ∧ KeepPost wB.heap.size n k2 ((ms.drop (k + 1)).reverse ++ [el]) (wr.alloc (.cells #[.int .i64 el.id, .int .i64 el.ph, .string el.val, .pointer none, .pointer none, .pointer none] 35)).drew w') := zzkeep_any wB.heap.size n wr.heap.size k2 ((ms.drop (k + 1)).reverse) el _ (KEEP.out _).1 (KEEP.out _).2 hn hvs _ _ _ (box_at _ _)
               clear hel HV HR1 HR2 KEEP hvs
               as_aux_lemma =>
                 go_wp2
                 go_region_held3 (fun w' => w'.cell? ⟨b', off' + k * 3, none⟩ = some (.int .i64 el.id) ∧ w'.cell? ⟨b', off' + k * 3 + 1, none⟩ = some (.int .i64 el.ph) ∧ w'.cell? ⟨b', off' + k * 3 + 2, none⟩ = some (.string el.val)) (first | go_keep | exact AFT.out _ _ hP2) (first | (go_at_call 7; refine HC.out.mono ?_; rintro e w2 ⟨rfl, hP2⟩))
                 go_wp2
                 go_roundw
                 case measure => simp [intOf]
                 case rel => exact ⟨k, by omega, by go_num, (DONE.out _ _ hP2).1, (DONE.out _ _ hP2).2⟩
             | zero =>
               have hs' := hs.trans (congrArg (Value.int IntKind.i64) (show ((0 : Nat) : Int) - 1 = -1 by omega))
               clear hs
               subst hs'
               rw [List.drop_zero] at HR1
               go_wp2
               go_meet
               exact ⟨HR1.out, HR2.out⟩
         case rest =>
           obtain ⟨wC, rfl⟩ : ∃ y, y = wc := ⟨wc, rfl⟩
           obtain ⟨K2, W3⟩ := hcut
           have HF0 : Hid (Fin w wC a n ms x k1 k2 wA.heap.size wB.heap.size) := ⟨HG.out.1.below W3, HG.out.2.below W3, K2, (HV.out.below HX.out).below W3, HX.out.trans (W3.mono HX.out.size)⟩
           clear K2 W3 HG HX HK2 HB4 HV HB
           have hwn : words n ≤ 65536 := by unfold words; omega
           go_wp2_with fail
           go_loopw [17] (fun i wr => ∃ p : Nat, p ≤ 2 ∧ i = .int .i64 p ∧ Hid (Fin w wr a n ms x k1 k2 wA.heap.size wB.heap.size)) (fun i _ => 2 - (intOf i).toNat)
           case atStart => exact ⟨0, by omega, rfl, HF0⟩
           case round =>
             clear HF0
             obtain ⟨p, hp, rfl, HF⟩ := hrel
             by_cases p0 : p = 0
             · subst p0
               have SND1 : Hid (∀ m, Calls Try.prog 10 #[.pointer (some ⟨k1.p, 0, none⟩), .int .i64 0] (wr.drewN m) fun e w' => e = .returned (.int .i64 (cnt (holdOf n ms 0) n)) ∧ w' = wr.drewN m) := fun m => (senders0 _ _ n k1 _ _ (HF.out.drewN m).K1).mono fun e w' ⟨h1, h2⟩ => ⟨h1, h2.symm⟩
               have SND2 : Hid (∀ m, Calls Try.prog 10 #[.pointer (some ⟨k2.p, 0, none⟩), .int .i64 0] (wr.drewN m) fun e w' => e = .returned (.int .i64 (cnt (holdOf n ms 0) n)) ∧ w' = wr.drewN m) := fun m => (senders0 _ _ n k2 _ _ (HF.out.drewN m).K2).mono fun e w' ⟨h1, h2⟩ => ⟨by rw [h1, rev_cnt], h2.symm⟩
               have FR1 : Hid (∀ m, Calls Try.prog 11 #[.pointer (some ⟨k1.p, 0, none⟩), .int .i64 0] (wr.drewN m) fun e w' => e = .returned (.slice (some ⟨k1.f0, 0, none⟩) (words n) (words n)) ∧ wr.drewN m = w') := fun m => from0 _ _ n k1 _ _ (HF.out.drewN m).K1
               have FR2 : Hid (∀ m, Calls Try.prog 11 #[.pointer (some ⟨k2.p, 0, none⟩), .int .i64 0] (wr.drewN m) fun e w' => e = .returned (.slice (some ⟨k2.f0, 0, none⟩) (words n) (words n)) ∧ wr.drewN m = w') := fun m => from0 _ _ n k2 _ _ (HF.out.drewN m).K2
               have BY1 : Hid (∀ m, Calls Try.prog 12 #[.pointer (some ⟨k1.p, 0, none⟩), .int .i64 0] (wr.drewN m) fun e w' => e = .returned (.slice (some ⟨k1.b0, 0, none⟩) n n) ∧ wr.drewN m = w') := fun m => by0 _ _ n k1 _ _ (HF.out.drewN m).K1
               have BY2 : Hid (∀ m, Calls Try.prog 12 #[.pointer (some ⟨k2.p, 0, none⟩), .int .i64 0] (wr.drewN m) fun e w' => e = .returned (.slice (some ⟨k2.b0, 0, none⟩) n n) ∧ wr.drewN m = w') := fun m => by0 _ _ n k2 _ _ (HF.out.drewN m).K2
               have d1 : wr.cell? ⟨x.xd, 0, none⟩ = some (.int .i64 (cnt (holdOf n ms 0) n : Nat)) := by
                 have := HF.out.B.hd
                 rw [List.take_length] at this
                 exact cell_at this rfl
               generalize cnt (holdOf n ms 0) n = D at SND1 SND2 d1
               have WDS : Hid (∀ k, k < words n → ∃ V : Int, wr.cell? ⟨k1.f0, k, none⟩ = some (.int .u64 V) ∧ wr.cell? ⟨k2.f0, k, none⟩ = some (.int .u64 V)) := fun k hk => ⟨_, held_word HF.out.K1.H0 hk, by rw [← rev_wd]; exact held_word HF.out.K2.H0 hk⟩
               go_wp2
               go_quiet (first | (go_at_call_of 10 k1.p; refine Calls.quiet_of_same (SND1.out _)) | (go_at_call_of 10 k2.p; refine Calls.quiet_of_same (SND2.out _)))
               clear SND1 SND2 d1
               go_wp2_with (first | (go_at_call_of 11 k1.p; refine (FR1.out _).mono ?_; rintro e w' ⟨rfl, rfl⟩) | (go_at_call_of 11 k2.p; refine (FR2.out _).mono ?_; rintro e w' ⟨rfl, rfl⟩))
               clear FR1 FR2
               go_loopw [20] (fun i wy => ∃ k m : Nat, k ≤ words n ∧ i = .int .i64 k ∧ wy = wr.drewN m) (fun i _ => words n - (intOf i).toNat)
               case atStart => exact ⟨0, _, Nat.zero_le _, rfl, rfl⟩
               case round =>
                 obtain ⟨k, m, hk, rfl, rfl⟩ := hrel
                 by_cases hlt : k < words n
                 · obtain ⟨V, v1, v2⟩ := WDS.out k hlt
                   have hli : (k : Int) < (words n : Int) := by omega
                   clear WDS BY1 BY2 HF
                   as_aux_lemma =>
                     go_wp2
                     go_quiet (fail)
                     go_wp2
                     go_roundw
                     case measure => simp [intOf]; omega
                     case rel => exact ⟨k + 1, _, by omega, by go_num, rfl⟩
                 · clear WDS
                   go_wp2_with (first | (go_at_call_of 12 k1.p; refine (BY1.out _).mono ?_; rintro e w' ⟨rfl, rfl⟩) | (go_at_call_of 12 k2.p; refine (BY2.out _).mono ?_; rintro e w' ⟨rfl, rfl⟩))
                   clear BY1 BY2
                   go_loopw [23] (fun i wy => ∃ j m : Nat, j ≤ n ∧ i = .int .i64 j ∧ wy = wr.drewN m) (fun i _ => n - (intOf i).toNat)
                   case atStart => exact ⟨0, _, Nat.zero_le _, rfl, rfl⟩
                   case round =>
                     clear hk hlt
                     obtain ⟨j, m7, hj, rfl, rfl⟩ := hrel
                     by_cases hjn : j < n
                     · have ce1 : wr.cell? ⟨x.xo, 0, none⟩ = some (.slice (some ⟨x.o0, 0, none⟩) n n) := cell_at HF.out.B.ho rfl
                       have ce2 : wr.cell? ⟨x.xl, 0, none⟩ = some (.slice (some ⟨x.l0, 0, none⟩) n n) := cell_at HF.out.B.hl rfl
                       have oc := HF.out.B.O0.cell hjn
                       have la := HF.out.B.L0.cell hjn
                       have hji : (j : Int) < (n : Int) := by omega
                       have hol := occ_le ms 0 j ms.length
                       by_cases ho : occ ms 0 j ms.length = 0
                       · obtain ⟨n1, n2⟩ := none_of (n := n) hjn ho
                         have b1 := held_none HF.out.K1.H0 hjn n1
                         have b2 := held_none HF.out.K2.H0 hjn n2
                         rw [ho] at oc
                         clear HF ho n1 n2 hol
                         as_aux_lemma =>
                           go_wp2
                           go_roundw
                           case measure => simp [intOf]; omega
                           case rel => exact ⟨j + 1, _, by omega, by go_num, rfl⟩
                       · obtain ⟨z, s1, s2, h1, hL⟩ := some_of (n := n) hjn ho
                         obtain ⟨q1, b1, _, _, z1⟩ := held_some HF.out.K1.H0 hjn s1
                         obtain ⟨q2, b2, y0, y1, y2⟩ := held_some HF.out.K2.H0 hjn s2
                         replace y1 : wr.cell? ⟨q2, 1, none⟩ = some (.int .i64 0) := y1
                         have hne : ms ≠ [] := by intro h; rw [h] at hL; simp at hL
                         obtain ⟨b, off, rfl, hbl, hcs⟩ := HF.out.V.2.resolve_left hne
                         obtain ⟨_, _, c2⟩ := hcs _ hL
                         have hys := HF.out.V.1 (lastI ms 0 j ms.length)
                         clear hcs HF hne s1 s2 hbl
                         generalize (ms.getD (lastI ms 0 j ms.length) zeroM).val = Y at h1 y2 c2 hys
                         generalize lastI ms 0 j ms.length = L at la hL c2
                         generalize occ ms 0 j ms.length = O at oc ho h1 hol
                         have hLi : (L : Int) < (ms.length : Int) := by omega
                         have hO0 : ((O : Int) == 0) = false := by simp; omega
                         as_aux_lemma =>
                           go_wp2
                           go_quiet (fail)
                           go_wp2
                           by_cases hO : O = 1
                           · have hz := h1 hO
                             subst hz
                             subst hO
                             go_quiet (fail)
                             go_wp2
                             go_roundw
                             case measure => simp [intOf]; omega
                             case rel => exact ⟨j + 1, _, by omega, by go_num, rfl⟩
                           · have hO1 : ((O : Int) == 1) = false := by simp; omega
                             go_quiet (fail)
                             go_wp2
                             go_roundw
                             case measure => simp [intOf]; omega
                             case rel => exact ⟨j + 1, _, by omega, by go_num, rfl⟩
                     · go_wp2
                       go_roundw
                       case measure => simp [intOf]
                       case rel => exact ⟨0 + 1, by omega, by go_num, HF.out.drewN _⟩
             · by_cases p1 : p = 1
               · subst p1
                 have SND1 : Hid (∀ m, Calls Try.prog 10 #[.pointer (some ⟨k1.p, 0, none⟩), .int .i64 1] (wr.drewN m) fun e w' => e = .returned (.int .i64 (cnt (holdOf n ms 1) n)) ∧ w' = wr.drewN m) := fun m => (senders1 _ _ n k1 _ _ (HF.out.drewN m).K1).mono fun e w' ⟨h1, h2⟩ => ⟨h1, h2.symm⟩
                 have SND2 : Hid (∀ m, Calls Try.prog 10 #[.pointer (some ⟨k2.p, 0, none⟩), .int .i64 1] (wr.drewN m) fun e w' => e = .returned (.int .i64 (cnt (holdOf n ms 1) n)) ∧ w' = wr.drewN m) := fun m => (senders1 _ _ n k2 _ _ (HF.out.drewN m).K2).mono fun e w' ⟨h1, h2⟩ => ⟨by rw [h1, rev_cnt], h2.symm⟩
                 have FR1 : Hid (∀ m, Calls Try.prog 11 #[.pointer (some ⟨k1.p, 0, none⟩), .int .i64 1] (wr.drewN m) fun e w' => e = .returned (.slice (some ⟨k1.f1, 0, none⟩) (words n) (words n)) ∧ wr.drewN m = w') := fun m => from1 _ _ n k1 _ _ (HF.out.drewN m).K1
                 have FR2 : Hid (∀ m, Calls Try.prog 11 #[.pointer (some ⟨k2.p, 0, none⟩), .int .i64 1] (wr.drewN m) fun e w' => e = .returned (.slice (some ⟨k2.f1, 0, none⟩) (words n) (words n)) ∧ wr.drewN m = w') := fun m => from1 _ _ n k2 _ _ (HF.out.drewN m).K2
                 have BY1 : Hid (∀ m, Calls Try.prog 12 #[.pointer (some ⟨k1.p, 0, none⟩), .int .i64 1] (wr.drewN m) fun e w' => e = .returned (.slice (some ⟨k1.b1, 0, none⟩) n n) ∧ wr.drewN m = w') := fun m => by1 _ _ n k1 _ _ (HF.out.drewN m).K1
                 have BY2 : Hid (∀ m, Calls Try.prog 12 #[.pointer (some ⟨k2.p, 0, none⟩), .int .i64 1] (wr.drewN m) fun e w' => e = .returned (.slice (some ⟨k2.b1, 0, none⟩) n n) ∧ wr.drewN m = w') := fun m => by1 _ _ n k2 _ _ (HF.out.drewN m).K2
                 have d1 : wr.cell? ⟨x.xd, 1, none⟩ = some (.int .i64 (cnt (holdOf n ms 1) n : Nat)) := by
                   have := HF.out.B.hd
                   rw [List.take_length] at this
                   exact cell_at this rfl
                 generalize cnt (holdOf n ms 1) n = D at SND1 SND2 d1
                 have WDS : Hid (∀ k, k < words n → ∃ V : Int, wr.cell? ⟨k1.f1, k, none⟩ = some (.int .u64 V) ∧ wr.cell? ⟨k2.f1, k, none⟩ = some (.int .u64 V)) := fun k hk => ⟨_, held_word HF.out.K1.H1 hk, by rw [← rev_wd]; exact held_word HF.out.K2.H1 hk⟩
                 go_wp2
                 go_quiet (first | (go_at_call_of 10 k1.p; refine Calls.quiet_of_same (SND1.out _)) | (go_at_call_of 10 k2.p; refine Calls.quiet_of_same (SND2.out _)))
                 clear SND1 SND2 d1
                 go_wp2_with (first | (go_at_call_of 11 k1.p; refine (FR1.out _).mono ?_; rintro e w' ⟨rfl, rfl⟩) | (go_at_call_of 11 k2.p; refine (FR2.out _).mono ?_; rintro e w' ⟨rfl, rfl⟩))
                 clear FR1 FR2
                 go_loopw [20] (fun i wy => ∃ k m : Nat, k ≤ words n ∧ i = .int .i64 k ∧ wy = wr.drewN m) (fun i _ => words n - (intOf i).toNat)
                 case atStart => exact ⟨0, _, Nat.zero_le _, rfl, rfl⟩
                 case round =>
                   obtain ⟨k, m, hk, rfl, rfl⟩ := hrel
                   by_cases hlt : k < words n
                   · obtain ⟨V, v1, v2⟩ := WDS.out k hlt
                     have hli : (k : Int) < (words n : Int) := by omega
                     clear WDS BY1 BY2 HF
                     as_aux_lemma =>
                       go_wp2
                       go_quiet (fail)
                       go_wp2
                       go_roundw
                       case measure => simp [intOf]; omega
                       case rel => exact ⟨k + 1, _, by omega, by go_num, rfl⟩
                   · clear WDS
                     go_wp2_with (first | (go_at_call_of 12 k1.p; refine (BY1.out _).mono ?_; rintro e w' ⟨rfl, rfl⟩) | (go_at_call_of 12 k2.p; refine (BY2.out _).mono ?_; rintro e w' ⟨rfl, rfl⟩))
                     clear BY1 BY2
                     go_loopw [23] (fun i wy => ∃ j m : Nat, j ≤ n ∧ i = .int .i64 j ∧ wy = wr.drewN m) (fun i _ => n - (intOf i).toNat)
                     case atStart => exact ⟨0, _, Nat.zero_le _, rfl, rfl⟩
                     case round =>
                       clear hk hlt
                       obtain ⟨j, m7, hj, rfl, rfl⟩ := hrel
                       by_cases hjn : j < n
                       · have ce1 : wr.cell? ⟨x.xo, 1, none⟩ = some (.slice (some ⟨x.o1, 0, none⟩) n n) := cell_at HF.out.B.ho rfl
                         have ce2 : wr.cell? ⟨x.xl, 1, none⟩ = some (.slice (some ⟨x.l1, 0, none⟩) n n) := cell_at HF.out.B.hl rfl
                         have oc := HF.out.B.O1.cell hjn
                         have la := HF.out.B.L1.cell hjn
                         have hji : (j : Int) < (n : Int) := by omega
                         have hol := occ_le ms 1 j ms.length
                         by_cases ho : occ ms 1 j ms.length = 0
                         · obtain ⟨n1, n2⟩ := none_of (n := n) hjn ho
                           have b1 := held_none HF.out.K1.H1 hjn n1
                           have b2 := held_none HF.out.K2.H1 hjn n2
                           rw [ho] at oc
                           clear HF ho n1 n2 hol
                           as_aux_lemma =>
                             go_wp2
                             go_roundw
                             case measure => simp [intOf]; omega
                             case rel => exact ⟨j + 1, _, by omega, by go_num, rfl⟩
                         · obtain ⟨z, s1, s2, h1, hL⟩ := some_of (n := n) hjn ho
                           obtain ⟨q1, b1, _, _, z1⟩ := held_some HF.out.K1.H1 hjn s1
                           obtain ⟨q2, b2, y0, y1, y2⟩ := held_some HF.out.K2.H1 hjn s2
                           replace y1 : wr.cell? ⟨q2, 1, none⟩ = some (.int .i64 1) := y1
                           have hne : ms ≠ [] := by intro h; rw [h] at hL; simp at hL
                           obtain ⟨b, off, rfl, hbl, hcs⟩ := HF.out.V.2.resolve_left hne
                           obtain ⟨_, _, c2⟩ := hcs _ hL
                           have hys := HF.out.V.1 (lastI ms 1 j ms.length)
                           clear hcs HF hne s1 s2 hbl
                           generalize (ms.getD (lastI ms 1 j ms.length) zeroM).val = Y at h1 y2 c2 hys
                           generalize lastI ms 1 j ms.length = L at la hL c2
                           generalize occ ms 1 j ms.length = O at oc ho h1 hol
                           have hLi : (L : Int) < (ms.length : Int) := by omega
                           have hO0 : ((O : Int) == 0) = false := by simp; omega
                           as_aux_lemma =>
                             go_wp2
                             go_quiet (fail)
                             go_wp2
                             by_cases hO : O = 1
                             · have hz := h1 hO
                               subst hz
                               subst hO
                               go_quiet (fail)
                               go_wp2
                               go_roundw
                               case measure => simp [intOf]; omega
                               case rel => exact ⟨j + 1, _, by omega, by go_num, rfl⟩
                             · have hO1 : ((O : Int) == 1) = false := by simp; omega
                               go_quiet (fail)
                               go_wp2
                               go_roundw
                               case measure => simp [intOf]; omega
                               case rel => exact ⟨j + 1, _, by omega, by go_num, rfl⟩
                       · go_wp2
                         go_roundw
                         case measure => simp [intOf]
                         case rel => exact ⟨1 + 1, by omega, by go_num, HF.out.drewN _⟩
               · have p2 : p = 2 := by omega
                 subst p2
                 go_wp2
                 go_ret
                 exact ⟨rfl, HF.out.W⟩
end Go.Proofs.Qxb6616381a
