/-
  seat b6616381a: the first law's walk.
-/
import Derived.Test.Qxb6616381aFirstB
import Derived.Test.Qxb6616381aMatchB
import Derived.Deep.CutBlock
namespace Go.Proofs.Qxb6616381a
open Go.RowKit Go.Maps Go.WideMaps
set_option linter.unusedVariables false

theorem hold_out (n : Nat) (ms : List Msg) (ph : Nat) : ∀ j, n ≤ j → holdOf n ms ph j = none := fun j hj => by unfold holdOf; rw [if_neg (by omega)]
theorem touch_one (w : World) (o : Obj) : Touch [] w (w.alloc o).drew := ((Touch.refl [] w).alloc o).drew
theorem box_one (w : World) (o : Obj) : (w.alloc o).drew.heap[w.heap.size]? = some o := heap_alloc_new w o

set_option maxHeartbeats 6400000 in
set_option maxRecDepth 100000 in
theorem first_walk (n : Nat) (a : Option Addr) (cap : Nat) (ms : List Msg) (w : World) (hn : n ≤ 65536) (hv : Script w a ms) (hl : ms.length ≤ 65536) :
    Calls Try.prog 3 #[.int .i64 n, .slice a ms.length cap] w fun e w' => e = .returned (.bool true) ∧ Below w.heap.size w w' := by
  have hmk := make_ints n hn
  have hlm : ms.length ≤ maxLen := by unfold maxLen; omega
  have hd0 : decide ((n : Int) < 0) = false := decide_eq_false (by omega)
  have hd1 : decide ((65536 : Int) < (n : Int)) = false := decide_eq_false (by omega)
  have hd2 : decide ((65536 : Int) < (ms.length : Int)) = false := decide_eq_false (by omega)
  go_enter Try.func3, Try.ntmps3
  go_wp2_with fail
  refine (bytes3_any n a cap ms w hv hlm).mono ?_
  rintro e w' ⟨β, rfl, rfl, hβ⟩
  cases β
  · clear hβ
    go_wp2
    go_ret
    exact ⟨rfl, Below.refl _ _⟩
  have HB : Hid (∀ i, i < ms.length → (ms.getD i zeroM).val.size ≤ 1048576) := hβ rfl
  clear hβ
  have HV : Hid (Script w a ms) := hv
  clear hv
  go_upto_block 0 with fail
  go_cut [5, 6] from 30 to 46 (fun _ _ wx => w = wx)
  case first =>
    go_wp2_with fail
    go_loop [5, 6] (fun z i => ∃ (k : Nat) (t : Int), k ≤ ms.length ∧ i = .int .i64 k ∧ z = .int .i64 t ∧ 0 ≤ t ∧ t ≤ 1048576) (fun _ i => ms.length - (intOf i).toNat)
    case atStart => exact ⟨0, _, Nat.zero_le _, rfl, rfl, by omega, by omega⟩
    case round =>
      obtain ⟨k, t, hk, rfl, rfl, h0, h1⟩ := hrel
      by_cases hlt : k < ms.length
      · have hne : ms ≠ [] := by intro h; rw [h] at hlt; simp at hlt
        obtain ⟨b, off, rfl, hbl, hcs⟩ := HV.out.2.resolve_left hne
        obtain ⟨c0, c1, c2⟩ := hcs k hlt
        have hbk := HB.out k hlt
        generalize ms.getD k zeroM = el at c0 c1 c2 hbk
        clear hcs HV HB
        by_cases hs2 : 1048576 < t + (24 + (el.val.size : Int))
        · go_wp2
          go_ret
          exact ⟨rfl, Below.refl _ _⟩
        · go_wp2
          go_round
          case rel => exact ⟨k + 1, _, by omega, by go_num, rfl, by omega, by omega⟩
          case measure => simp [intOf]; omega
      · go_wp2
        go_meet
        rfl
  case rest =>
   subst hcut
   clear HB
   go_wp2_with fail
   go_cut [7] from 47 to 51 (fun t7 w1 => Pair w w1 n t7)
   case first =>
     go_region
     all_goals (go_wp2; go_meet)
     all_goals (first | exact pair_mk (by omega) (by omega) (by omega) (by omega) (three w _ _ _).2.2.2 (three w _ _ _).1 (three w _ _ _).2.1 (three w _ _ _).2.2.1 | exact pair_mk (by omega) (by omega) (by omega) (by omega) (three w _ _ _).2.2.2 (three w _ _ _).1 (three w _ _ _).2.2.1 (three w _ _ _).2.1 | exact pair_mk (by omega) (by omega) (by omega) (by omega) (three w _ _ _).2.2.2 (three w _ _ _).2.1 (three w _ _ _).1 (three w _ _ _).2.2.1 | exact pair_mk (by omega) (by omega) (by omega) (by omega) (three w _ _ _).2.2.2 (three w _ _ _).2.1 (three w _ _ _).2.2.1 (three w _ _ _).1 | exact pair_mk (by omega) (by omega) (by omega) (by omega) (three w _ _ _).2.2.2 (three w _ _ _).2.2.1 (three w _ _ _).1 (three w _ _ _).2.1 | exact pair_mk (by omega) (by omega) (by omega) (by omega) (three w _ _ _).2.2.2 (three w _ _ _).2.2.1 (three w _ _ _).2.1 (three w _ _ _).1)
   case rest =>
    obtain ⟨x, rfl, B, hb⟩ := ib_new hcut
    have HI0 : Hid (IB wc w.heap.size n x (fun _ => 0) (fun _ => 0)) := B
    have HW : Hid (Below w.heap.size w wc) := hb
    clear hcut B hb hmk hd0 hd1 hd2
    go_upto_block 2 with fail
    go_cut [8, 9] from 52 to 65 (fun _ _ wx => IB wx w.heap.size n x (fun _ => -1) (fun _ => -1) ∧ Below w.heap.size w wx)
    case first =>
      go_wp2_with fail
      go_loopw [8] (fun i wr => ∃ p : Nat, p ≤ 2 ∧ i = .int .i64 p ∧ Hid (IB wr w.heap.size n x (fun _ => if 0 < p then -1 else 0) (fun _ => if 1 < p then -1 else 0)) ∧ Hid (Below w.heap.size w wr)) (fun i _ => 2 - (intOf i).toNat)
      case atStart => exact ⟨0, by omega, rfl, HI0.out.congr (fun j hj => by simp) (fun j hj => by simp), HW⟩
      case round =>
        clear HI0 HW
        obtain ⟨p, hp, rfl, HI, HB⟩ := hrel
        by_cases p0 : p = 0
        · subst p0
          go_wp2_with fail
          go_loopw [9] (fun i wy => ∃ j : Nat, j ≤ n ∧ i = .int .i64 j ∧ Hid (IB wy w.heap.size n x (fun i => if i < j then -1 else 0) (fun _ => 0)) ∧ Hid (Below w.heap.size w wy)) (fun i _ => n - (intOf i).toNat)
          case atStart => exact ⟨0, Nat.zero_le _, rfl, HI.out.congr (fun j hj => by simp) (fun j hj => by simp), HB⟩
          case round =>
            clear HI HB
            obtain ⟨j, hj, rfl, HI, HB⟩ := hrel
            by_cases hjn : j < n
            · have a1 : wr.cell? ⟨x.xf, 0, none⟩ = some (.slice (some ⟨x.r0, 0, none⟩) n n) := cell_at HI.out.hf rfl
              have a2 := HI.out.R0.cell hjn
              have a3 := HI.out.R0.free j
              have hji : (j : Int) < (n : Int) := by omega
              have AF : Hid (IB _ w.heap.size n x (fun i => if i < j + 1 then -1 else 0) (fun _ => 0) ∧ Below w.heap.size wr _) := HI.out.set0 (v := -1) HB.out.size hjn (by simp) (fun i hi hne => by show (if i < j + 1 then (-1 : Int) else 0) = if i < j then -1 else 0; split <;> split <;> first | rfl | omega) (fun i hi => rfl)
              generalize (if j < j then (-1 : Int) else 0) = old at a2
              as_aux_lemma =>
                go_wp2
                go_roundw
                case measure => simp [intOf]; omega
                case rel => exact ⟨j + 1, by omega, by go_num, AF.out.1, HB.out.trans AF.out.2⟩
            · have hjj : j = n := by omega
              subst hjj
              go_wp2
              go_roundw
              case measure => simp [intOf]
              case rel => exact ⟨1, by omega, by go_num, HI.out.congr (fun i hi => by simp [hi]) (fun i hi => by simp), HB⟩
        · by_cases p1 : p = 1
          · subst p1
            go_wp2_with fail
            go_loopw [9] (fun i wy => ∃ j : Nat, j ≤ n ∧ i = .int .i64 j ∧ Hid (IB wy w.heap.size n x (fun _ => -1) (fun i => if i < j then -1 else 0)) ∧ Hid (Below w.heap.size w wy)) (fun i _ => n - (intOf i).toNat)
            case atStart => exact ⟨0, Nat.zero_le _, rfl, HI.out.congr (fun j hj => by simp) (fun j hj => by simp), HB⟩
            case round =>
              clear HI HB
              obtain ⟨j, hj, rfl, HI, HB⟩ := hrel
              by_cases hjn : j < n
              · have a1 : wr.cell? ⟨x.xf, 1, none⟩ = some (.slice (some ⟨x.r1, 0, none⟩) n n) := cell_at HI.out.hf rfl
                have a2 := HI.out.R1.cell hjn
                have a3 := HI.out.R1.free j
                have hji : (j : Int) < (n : Int) := by omega
                have AF : Hid (IB _ w.heap.size n x (fun _ => -1) (fun i => if i < j + 1 then -1 else 0) ∧ Below w.heap.size wr _) := HI.out.set1 (v := -1) HB.out.size hjn (by simp) (fun i hi hne => by show (if i < j + 1 then (-1 : Int) else 0) = if i < j then -1 else 0; split <;> split <;> first | rfl | omega) (fun i hi => rfl)
                generalize (if j < j then (-1 : Int) else 0) = old at a2
                as_aux_lemma =>
                  go_wp2
                  go_roundw
                  case measure => simp [intOf]; omega
                  case rel => exact ⟨j + 1, by omega, by go_num, AF.out.1, HB.out.trans AF.out.2⟩
              · have hjj : j = n := by omega
                subst hjj
                go_wp2
                go_roundw
                case measure => simp [intOf]
                case rel => exact ⟨2, by omega, by go_num, HI.out.congr (fun i hi => by simp) (fun i hi => by simp [hi]), HB⟩
          · have p2 : p = 2 := by omega
            subst p2
            go_wp2
            go_meet
            exact ⟨HI.out.congr (fun i hi => by simp) (fun i hi => by simp), HB.out⟩
    case rest =>
     obtain ⟨B1, W1⟩ := hcut
     have HI1 : Hid (IB wc w.heap.size n x (fun _ => -1) (fun _ => -1)) := B1
     have HW1 : Hid (Below w.heap.size w wc) := W1
     clear B1 W1 HI0 HW
     go_upto_block 6 with fail
     go_cut [10, 11, 12] from 69 to 103 (fun _ _ _ wx => IB wx w.heap.size n x (fun j => fstI ms 0 j ms.length) (fun j => fstI ms 1 j ms.length) ∧ Below w.heap.size w wx)
     case first =>
       go_wp2_with fail
       go_loopw [10] (fun i wr => ∃ k : Nat, k ≤ ms.length ∧ i = .int .i64 ((k : Int) - 1) ∧ Hid (IB wr w.heap.size n x (fun j => fstI ms 0 j (ms.length - k)) (fun j => fstI ms 1 j (ms.length - k))) ∧ Hid (Below w.heap.size w wr)) (fun i _ => (intOf i + 1).toNat)
       case atStart => exact ⟨ms.length, Nat.le_refl _, rfl, HI1.out.congr (fun j hj => by rw [Nat.sub_self]; rfl) (fun j hj => by rw [Nat.sub_self]; rfl), HW1⟩
       case round =>
         clear HI1 HW1
         obtain ⟨k, hk, hs, HI, HB⟩ := hrel
         cases k with
         | succ k =>
           have hs' := hs.trans (congrArg (Value.int IntKind.i64) (show ((k + 1 : Nat) : Int) - 1 = (k : Nat) by omega))
           clear hs
           subst hs'
           have hlt : k < ms.length := by omega
           have hne : ms ≠ [] := by intro h; rw [h] at hlt; simp at hlt
           obtain ⟨b, off, rfl, hbl, hcs⟩ := (HV.out.below HB.out).2.resolve_left hne
           obtain ⟨c0, c1, c2⟩ := hcs k hlt
           clear hcs HV hbl c2
           have MISS : Hid ((∀ ph j, ph < 2 → j < n → (ms.getD k zeroM).hits ph j = false) → IB wr w.heap.size n x (fun j => fstI ms 0 j (ms.length - k)) (fun j => fstI ms 1 j (ms.length - k))) := fun h => HI.out.congr (fun j hj => by rw [fst_step ms 0 j k hlt, h 0 j (by omega) hj]; rfl) (fun j hj => by rw [fst_step ms 1 j k hlt, h 1 j (by omega) hj]; rfl)
           generalize hel : ms.getD k zeroM = el at c0 c1 MISS
           by_cases hr : 0 ≤ el.id ∧ el.id < n
           · obtain ⟨j, hid⟩ : ∃ j : Nat, el.id = j := ⟨el.id.toNat, by omega⟩
             have hjn : j < n := by omega
             by_cases e0 : el.ph = 0
             · have a1 : wr.cell? ⟨x.xf, 0, none⟩ = some (.slice (some ⟨x.r0, 0, none⟩) n n) := cell_at HI.out.hf rfl
               have a2 := HI.out.R0.cell hjn
               have a3 := HI.out.R0.free j
               have hji : (j : Int) < (n : Int) := by omega
               have HH : (ms.getD k zeroM).hits 0 j = true := by rw [hel]; simp [Msg.hits, e0, hid]
               have AF : Hid (IB _ w.heap.size n x (fun j => fstI ms 0 j (ms.length - k)) (fun j => fstI ms 1 j (ms.length - k)) ∧ Below w.heap.size wr _) := HI.out.set0 (v := (k : Nat)) HB.out.size hjn (by rw [fst_step ms 0 j k hlt, if_pos HH]) (fun i hi hne => by rw [fst_step ms 0 i k hlt, hits_only HH (.inr hne)]; rfl) (fun i hi => by rw [fst_step ms 1 i k hlt, hits_only HH (.inl (by omega))]; rfl)
               rw [e0] at c1
               rw [hid] at c0
               clear HH hel hr hid e0 MISS HI el
               generalize fstI ms 0 j (ms.length - (k + 1)) = old at a2
               as_aux_lemma =>
                 go_wp2
                 go_roundw
                 case measure => simp [intOf]
                 case rel => exact ⟨k, by omega, by go_num, AF.out.1, HB.out.trans AF.out.2⟩
             · by_cases e1 : el.ph = 1
               · have a1 : wr.cell? ⟨x.xf, 1, none⟩ = some (.slice (some ⟨x.r1, 0, none⟩) n n) := cell_at HI.out.hf rfl
                 have a2 := HI.out.R1.cell hjn
                 have a3 := HI.out.R1.free j
                 have hji : (j : Int) < (n : Int) := by omega
                 have HH : (ms.getD k zeroM).hits 1 j = true := by rw [hel]; simp [Msg.hits, e1, hid]
                 have AF : Hid (IB _ w.heap.size n x (fun j => fstI ms 0 j (ms.length - k)) (fun j => fstI ms 1 j (ms.length - k)) ∧ Below w.heap.size wr _) := HI.out.set1 (v := (k : Nat)) HB.out.size hjn (by rw [fst_step ms 1 j k hlt, if_pos HH]) (fun i hi hne => by rw [fst_step ms 1 i k hlt, hits_only HH (.inr hne)]; rfl) (fun i hi => by rw [fst_step ms 0 i k hlt, hits_only HH (.inl (by omega))]; rfl)
                 rw [e1] at c1
                 rw [hid] at c0
                 clear HH hel hr hid e0 e1 MISS HI el
                 generalize fstI ms 1 j (ms.length - (k + 1)) = old at a2
                 as_aux_lemma =>
                   go_wp2
                   go_roundw
                   case measure => simp [intOf]
                   case rel => exact ⟨k, by omega, by go_num, AF.out.1, HB.out.trans AF.out.2⟩
               · as_aux_lemma =>
                   have HM : Hid (IB wr w.heap.size n x (fun j => fstI ms 0 j (ms.length - k)) (fun j => fstI ms 1 j (ms.length - k))) := MISS.out fun ph j' hp hj' => by
                     unfold Msg.hits
                     have : ¬ el.ph = (ph : Int) := by omega
                     simp [this]
                   have e0b : (el.ph == 0) = false := by simp [e0]
                   have e1b : (el.ph == 1) = false := by simp [e1]
                   clear MISS hel HI
                   generalize el.ph = ep at *
                   generalize el.id = ei at *
                   go_wp2
                   go_roundw
                   case measure => simp [intOf]
                   case rel => exact ⟨k, by omega, by go_num, HM.out, HB⟩
           · as_aux_lemma =>
               have HM : Hid (IB wr w.heap.size n x (fun j => fstI ms 0 j (ms.length - k)) (fun j => fstI ms 1 j (ms.length - k))) := MISS.out fun ph j' hp hj' => by
                 unfold Msg.hits
                 have : ¬ el.id = (j' : Int) := by omega
                 simp [this]
               clear MISS hel HI
               generalize el.ph = ep at *
               generalize el.id = ei at *
               by_cases e0 : ep = 0
               · subst e0
                 by_cases g : 0 ≤ ei
                 · have g2 : decide (ei < (n : Int)) = false := decide_eq_false (by omega)
                   go_wp2
                   go_roundw
                   case measure => simp [intOf]
                   case rel => exact ⟨k, by omega, by go_num, HM.out, HB⟩
                 · go_wp2
                   go_roundw
                   case measure => simp [intOf]
                   case rel => exact ⟨k, by omega, by go_num, HM.out, HB⟩
               · have e0b : (ep == 0) = false := by simp [e0]
                 by_cases e1 : ep = 1
                 · subst e1
                   by_cases g : 0 ≤ ei
                   · have g2 : decide (ei < (n : Int)) = false := decide_eq_false (by omega)
                     go_wp2
                     go_roundw
                     case measure => simp [intOf]
                     case rel => exact ⟨k, by omega, by go_num, HM.out, HB⟩
                   · go_wp2
                     go_roundw
                     case measure => simp [intOf]
                     case rel => exact ⟨k, by omega, by go_num, HM.out, HB⟩
                 · have e1b : (ep == 1) = false := by simp [e1]
                   go_wp2
                   go_roundw
                   case measure => simp [intOf]
                   case rel => exact ⟨k, by omega, by go_num, HM.out, HB⟩
         | zero =>
           have hs' := hs.trans (congrArg (Value.int IntKind.i64) (show ((0 : Nat) : Int) - 1 = -1 by omega))
           clear hs
           subst hs'
           rw [Nat.sub_zero] at HI
           go_wp2
           go_meet
           exact ⟨HI.out, HB.out⟩
     case rest =>
       obtain ⟨wA, rfl⟩ : ∃ y, y = wc := ⟨wc, rfl⟩
       obtain ⟨B1, W1⟩ := hcut
       have HI2 : Hid (IB wA w.heap.size n x (fun j => fstI ms 0 j ms.length) (fun j => fstI ms 1 j ms.length)) := B1
       have HW : Hid (Below w.heap.size w wA) := W1
       clear B1 W1 HI1 HW1
       go_wp2_with fail
       refine (newKeeper_any n hn _).mono ?_
       rintro e w3 ⟨v, rfl, hNK, hb3⟩
       obtain ⟨k1, rfl, K1⟩ := keeper_new hNK
       clear hNK
       have HK1 : Hid (Keeper w3 wA.heap.size n k1 (holdOf n [] 0) (holdOf n [] 1)) := K1
       have HB3 : Hid (Below wA.heap.size wA w3) := hb3
       clear K1 hb3
       go_upto_block 8 with fail
       go_cut [14, 15] from 106 to 188 (fun _ _ wx => Keeper wx wA.heap.size n k1 (holdOf n ms 0) (holdOf n ms 1) ∧ Below wA.heap.size wA wx)
       case first =>
         go_wp2_with fail
         go_loopw [14] (fun i wr => ∃ k : Nat, k ≤ ms.length ∧ i = .int .i64 k ∧ Hid (Keeper wr wA.heap.size n k1 (holdOf n (ms.take k) 0) (holdOf n (ms.take k) 1)) ∧ Hid (Below wA.heap.size wA wr)) (fun i _ => ms.length - (intOf i).toNat)
         case atStart => exact ⟨0, Nat.zero_le _, rfl, HK1, HB3⟩
         case round =>
           clear HK1 HB3
           obtain ⟨k, hk, rfl, HR1, HR2⟩ := hrel
           by_cases hlt : k < ms.length
           · have hne : ms ≠ [] := by intro h; rw [h] at hlt; simp at hlt
             obtain ⟨b, off, rfl, hbl0, hcs0⟩ := HV.out.2.resolve_left hne
             have hbw := HW.out.size
             obtain ⟨b', off', hab, hbl, hcs⟩ := ((HV.out.below HW.out).below HR2.out).2.resolve_left hne
             obtain ⟨rfl, rfl⟩ : b' = b ∧ off' = off := by simp at hab; exact ⟨hab.1.symm, hab.2.symm⟩
             obtain ⟨c0, c1, c2⟩ := hcs k hlt
             have hvs := HV.out.1 k
             have hbc : b' < wA.heap.size := by omega
             have hki : (k : Int) < (ms.length : Int) := by omega
             clear hcs hcs0 hbl hbl0 hab HI2 HW
             have AFT : Hid (∀ (o : Obj) (w2 : World), KeepPost wA.heap.size n k1 (ms.take k ++ [ms.getD k zeroM]) (wr.alloc o).drew w2 → CellsAt w2 b' off' k (ms.getD k zeroM)) := fun o w2 hP => by
               have hb := ((touch_one wr o).below HR2.out.size (by simp)).trans hP.2.1
               exact ⟨(hb.cell (p := ⟨b', _, none⟩) hbc).trans c0, (hb.cell (p := ⟨b', _, none⟩) hbc).trans c1, (hb.cell (p := ⟨b', _, none⟩) hbc).trans c2⟩
             have KEEP : Hid (∀ (o : Obj), Keeper (wr.alloc o).drew wA.heap.size n k1 (holdOf n (ms.take k) 0) (holdOf n (ms.take k) 1) ∧ wA.heap.size ≤ (wr.alloc o).drew.heap.size) := fun o => ⟨HR1.out.below ((touch_one wr o).below (Nat.le_refl _) (by simp)), Nat.le_trans HR2.out.size (touch_one wr o).size⟩
             have DONE : Hid (∀ (o : Obj) (w2 : World) (m : Nat), KeepPost wA.heap.size n k1 (ms.take k ++ [ms.getD k zeroM]) (wr.alloc o).drew w2 → Keeper (w2.drewN m) wA.heap.size n k1 (holdOf n (ms.take (k + 1)) 0) (holdOf n (ms.take (k + 1)) 1) ∧ Below wA.heap.size wA (w2.drewN m)) := fun o w2 m hP => by
               rw [take_snoc ms k hlt]
               have hb := HR2.out.trans (((touch_one wr o).below HR2.out.size (by simp)).trans hP.2.1)
               exact ⟨hP.1.below ⟨rfl, rfl, rfl, Nat.le_refl _, fun _ _ => rfl⟩, ⟨hb.os, hb.tape, hb.output, hb.size, hb.block⟩⟩
             have MSG : Hid (∀ (c : Array Value) (w2 : World), KeepPost wA.heap.size n k1 (ms.take k ++ [ms.getD k zeroM]) (wr.alloc (.cells c 35)).drew w2 → w2.heap[wr.heap.size]? = some (.cells c 35 (0, 0))) := fun c w2 hP => hP.2.2 _ _ (box_one wr (.cells c 35))
             generalize hel : ms.getD k zeroM = el at c0 c1 c2 AFT DONE hvs MSG
             have HC : Hid (Calls Try.prog 7 #[.pointer (some ⟨k1.p, 0, none⟩), .pointer (some ⟨wr.heap.size, 0, none⟩)] (wr.alloc (.cells #[.int .i64 el.id, .int .i64 el.ph, .string el.val, .pointer none, .pointer none, .pointer none] 35)).drew fun e w' => e = .returned (.tuple #[]) ∧ KeepPost wA.heap.size n k1 (ms.take k ++ [el]) (wr.alloc (.cells #[.int .i64 el.id, .int .i64 el.ph, .string el.val, .pointer none, .pointer none, .pointer none] 35)).drew w') := zzkeep_any wA.heap.size n wr.heap.size k1 (ms.take k) el _ (KEEP.out _).1 (KEEP.out _).2 hn hvs _ _ _ (box_one _ _)
             clear hel HV HR1 HR2 KEEP hvs
             as_aux_lemma =>
               go_wp2
               go_region_held3 (fun w' => w'.cell? ⟨b', off' + k * 3, none⟩ = some (.int .i64 el.id) ∧ w'.cell? ⟨b', off' + k * 3 + 1, none⟩ = some (.int .i64 el.ph) ∧ w'.cell? ⟨b', off' + k * 3 + 2, none⟩ = some (.string el.val)) (go_keep) (fail)
               go_wp2_with (first | (go_at_call 7; refine HC.out.mono ?_; rintro e w2 ⟨rfl, hP2⟩))
               obtain ⟨e0, e1, e2⟩ := AFT.out _ _ hP2
               have hq := MSG.out _ _ hP2
               have q0 : w2.cell? ⟨wr.heap.size, 0, none⟩ = some (.int .i64 el.id) := cell_at hq rfl
               have q1 : w2.cell? ⟨wr.heap.size, 1, none⟩ = some (.int .i64 el.ph) := cell_at hq rfl
               have q2 : w2.cell? ⟨wr.heap.size, 2, none⟩ = some (.string el.val) := cell_at hq rfl
               have q3 : w2.cell? ⟨wr.heap.size, 3, none⟩ = some (.pointer none) := cell_at hq rfl
               have q4 : w2.cell? ⟨wr.heap.size, 4, none⟩ = some (.pointer none) := cell_at hq rfl
               have q5 : w2.cell? ⟨wr.heap.size, 5, none⟩ = some (.pointer none) := cell_at hq rfl
               have DONE2 : Hid (∀ m, Keeper (w2.drewN m) wA.heap.size n k1 (holdOf n (ms.take (k + 1)) 0) (holdOf n (ms.take (k + 1)) 1) ∧ Below wA.heap.size wA (w2.drewN m)) := fun m => DONE.out _ _ m hP2
               clear AFT MSG DONE HC hP2 hq c0 c1 c2
               go_quiet (fail)
               go_wp2
               go_roundw
               case measure => simp [intOf]; omega
               case rel => exact ⟨k + 1, by omega, by go_num, (DONE2.out _).1, (DONE2.out _).2⟩
           · have hkk : k = ms.length := by omega
             subst hkk
             rw [List.take_length] at HR1
             go_wp2
             go_meet
             exact ⟨HR1.out, HR2.out⟩
       case rest =>
         obtain ⟨wB, rfl⟩ : ∃ y, y = wc := ⟨wc, rfl⟩
         obtain ⟨K1, W2⟩ := hcut
         have HI3 : Hid (IB wB w.heap.size n x (fun j => fstI ms 0 j ms.length) (fun j => fstI ms 1 j ms.length)) := HI2.out.below W2
         have HK3 : Hid (Keeper wB wA.heap.size n k1 (holdOf n ms 0) (holdOf n ms 1)) := K1
         have HX : Hid (Below w.heap.size w wB) := HW.out.trans (W2.mono HW.out.size)
         have HV3 : Hid (Script wB a ms) := HV.out.below HX.out
         clear K1 W2 HI2 HW HV HK1 HB3
         go_wp2_with fail
         go_loopw [16] (fun i wr => ∃ p : Nat, p ≤ 2 ∧ i = .int .i64 p ∧ Hid (Below wB.heap.size wB wr)) (fun i _ => 2 - (intOf i).toNat)
         case atStart => exact ⟨0, by omega, rfl, Below.refl _ _⟩
         case round =>
           obtain ⟨p, hp, rfl, HY⟩ := hrel
           by_cases p0 : p = 0
           · subst p0
             have a1 : wr.cell? ⟨x.xf, 0, none⟩ = some (.slice (some ⟨x.r0, 0, none⟩) n n) := cell_at (HI3.out.below HY.out).hf rfl
             have MC : Hid (Calls Try.prog 8 #[.pointer (some ⟨k1.p, 0, none⟩), .int .i64 0, .int .i64 n, .slice a ms.length cap, .slice (some ⟨x.r0, 0, none⟩) n n] wr fun e w' => e = .returned (.bool true) ∧ Below wr.heap.size wr w') := match0 wr _ n k1 _ _ ms a cap x.r0 _ (HK3.out.below HY.out) (HV3.out.below HY.out) (HI3.out.below HY.out).R0 (want_all n ms 0) (hold_out n ms 0) hn hl
             go_wp2_with (first | (go_at_call 8; refine MC.out.mono ?_; rintro e w2 ⟨rfl, hb2⟩))
             go_roundw
             case measure => simp [intOf]
             case rel => exact ⟨1, by omega, by go_num, HY.out.trans (hb2.mono HY.out.size)⟩
           · by_cases p1 : p = 1
             · subst p1
               have a1 : wr.cell? ⟨x.xf, 1, none⟩ = some (.slice (some ⟨x.r1, 0, none⟩) n n) := cell_at (HI3.out.below HY.out).hf rfl
               have MC : Hid (Calls Try.prog 8 #[.pointer (some ⟨k1.p, 0, none⟩), .int .i64 1, .int .i64 n, .slice a ms.length cap, .slice (some ⟨x.r1, 0, none⟩) n n] wr fun e w' => e = .returned (.bool true) ∧ Below wr.heap.size wr w') := match1 wr _ n k1 _ _ ms a cap x.r1 _ (HK3.out.below HY.out) (HV3.out.below HY.out) (HI3.out.below HY.out).R1 (want_all n ms 1) (hold_out n ms 1) hn hl
               go_wp2_with (first | (go_at_call 8; refine MC.out.mono ?_; rintro e w2 ⟨rfl, hb2⟩))
               go_roundw
               case measure => simp [intOf]
               case rel => exact ⟨2, by omega, by go_num, HY.out.trans (hb2.mono HY.out.size)⟩
             · have p2 : p = 2 := by omega
               subst p2
               have FINI : Hid (Below w.heap.size w wr) := HX.out.trans (HY.out.mono HX.out.size)
               go_wp2
               go_ret
               exact ⟨rfl, FINI.out⟩
end Go.Proofs.Qxb6616381a
