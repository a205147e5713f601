/-
  seat b6616381a: keepHeldMatches (function 8).
-/
import Derived.Test.Qxb6616381aFin
import Derived.Test.Qxb6616381aModel3
import Derived.Test.Qxb6616381aSizes
import Derived.Deep.CutBlock
namespace Go.Proofs.Qxb6616381a
open Go.RowKit Go.Maps Go.WideMaps
set_option linter.unusedVariables false

/-- A row of integers. -/
def RowZ (w : World) (b n : Nat) (f : Nat → Int) : Prop := ∃ C : Array Value, w.heap[b]? = some (.cells C 3 (0, 0)) ∧ C.size = n ∧ ∀ j, j < n → C[j]? = some (.int .i64 (f j))
theorem RowZ.cell {w : World} {b n j : Nat} {f : Nat → Int} (h : RowZ w b n f) (hj : j < n) : w.cell? ⟨b, j, none⟩ = some (.int .i64 (f j)) := by
  obtain ⟨C, hC, hs, r⟩ := h
  exact cell_at hC (r j hj)
theorem RowZ.touch {L : List Nat} {w w' : World} {b n : Nat} {f : Nat → Int} (h : RowZ w b n f) (ht : Touch L w w') (hb : b ∉ L) : RowZ w' b n f := by
  obtain ⟨C, hC, r⟩ := h
  exact ⟨C, ht.keep hb hC, r⟩
theorem touch_of_below {w w' : World} (hb : Below w.heap.size w w') : Touch [] w w' := ⟨hb.os, hb.tape, hb.output, hb.size, fun i hi _ => hb.block i hi⟩

theorem held_all {w : World} {n ph h b f mm j : Nat} {s : Hold} {y : ByteArray} (H : Held w n ph h b f mm s) (hj : j < n) (h0 : s j = some y) : ∃ q, w.cell? ⟨b, j, none⟩ = some (.pointer (some ⟨q, 0, none⟩)) ∧ w.cell? ⟨q, 0, none⟩ = some (.int .i64 j) ∧ w.cell? ⟨q, 1, none⟩ = some (.int .i64 ph) ∧ w.cell? ⟨q, 2, none⟩ = some (.string y) ∧ w.cell? ⟨q, 3, none⟩ = some (.pointer none) ∧ w.cell? ⟨q, 4, none⟩ = some (.pointer none) ∧ w.cell? ⟨q, 5, none⟩ = some (.pointer none) := by
  obtain ⟨B, hB, hBs, hBv⟩ := H.hb
  have hg : B[j]? = some (B[j]'(by omega)) := Array.getElem?_eq_getElem (by omega)
  rcases hBv j _ hj hg with ⟨hz, _⟩ | ⟨x, q, hx, hv, hq⟩
  · rw [h0] at hz; cases hz
  · rw [h0] at hx
    cases hx
    rw [hv] at hg
    exact ⟨q, cell_at hB hg, cell_at hq rfl, cell_at hq rfl, cell_at hq rfl, cell_at hq rfl, cell_at hq rfl, cell_at hq rfl⟩
theorem lookup_val {w : World} {b N n : Nat} {D : DataW Unit} {s : Hold} {v : ByteArray} (hm : w.ownsMap Try.prog 9 (plainElem Try.prog 3) b N D) (hD : Counts D s n) (hv : v.size ≤ maxLen) : (Instr.lookup 47 (.map (some b)) (.string v) false).run Try.prog w = .ok (.int .i64 (vcount s v n : Nat)) w := by
  obtain ⟨cc, hlk, hat, hwc⟩ := hm.lookup_int law9 Try.underlying47 Try.underlying3 (zero3 _) (keyOf_string_mk (P := Try.prog) Try.underlying9 hv)
  have h1 := (hD v).1
  unfold keyL at h1
  rw [h1] at hat
  have hcc : cc = (vcount s v n : Int) := by simpa using hat.symm
  rw [hlk, hcc]
theorem bit_at (s : Hold) (j : Nat) : (bits BinOp.and IntKind.u64 ((wd (fun j => (s j).isSome) (j / 64) : Int) / 2 ^ (j % 64)) 1 == 1) = (s j).isSome := by
  rw [bit_word _ _ (wd_lt _ _), wd_bit]
  have : 64 * (j / 64) + j % 64 = j := Nat.div_add_mod j 64
  rw [this]
  have : j % 64 < 64 := Nat.mod_lt _ (by decide)
  simp [this]

theorem distinct0 (w : World) (base n : Nat) (k : Blks) (s0 s1 : Hold) (D : DataW Unit) (K : Keeper w base n k s0 s1) (hm : w.ownsMap Try.prog 9 (plainElem Try.prog 3) k.m0 (cnt s0 n) D) :
    Calls Try.prog 14 #[.pointer (some ⟨k.p, 0, none⟩), .int .i64 0] w fun e w' => e = .returned (.int .i64 (Maps.size D)) ∧ w = w' := by
  have p7 : w.cell? ⟨k.p, 7, none⟩ = some (.pointer (some ⟨k.h0, 0, none⟩)) := cell_at K.hp rfl
  have c3 : w.cell? ⟨k.h0, 3, none⟩ = some (.map (some k.m0)) := cell_at K.H0.hh rfl
  have hlen := fun ty => hm.len Try.underlying47 ty
  clear K hm
  go_enter Try.func14, Try.ntmps14
  go_wp2
  go_ret
  exact ⟨rfl, rfl⟩

theorem count0 (w : World) (base n : Nat) (k : Blks) (s0 s1 : Hold) (v : ByteArray) (K : Keeper w base n k s0 s1) (hv : v.size ≤ maxLen) :
    Calls Try.prog 16 #[.pointer (some ⟨k.p, 0, none⟩), .int .i64 0, .string v] w fun e w' => e = .returned (.int .i64 (vcount s0 v n)) ∧ w = w' := by
  have p7 : w.cell? ⟨k.p, 7, none⟩ = some (.pointer (some ⟨k.h0, 0, none⟩)) := cell_at K.hp rfl
  have c3 : w.cell? ⟨k.h0, 3, none⟩ = some (.map (some k.m0)) := cell_at K.H0.hh rfl
  obtain ⟨D, hm, hD⟩ := K.H0.hm
  have hlk := lookup_val hm hD hv
  clear K hm hD
  go_enter Try.func16, Try.ntmps16
  go_wp2
  go_ret
  exact ⟨rfl, rfl⟩

theorem distinct1 (w : World) (base n : Nat) (k : Blks) (s0 s1 : Hold) (D : DataW Unit) (K : Keeper w base n k s0 s1) (hm : w.ownsMap Try.prog 9 (plainElem Try.prog 3) k.m1 (cnt s1 n) D) :
    Calls Try.prog 14 #[.pointer (some ⟨k.p, 0, none⟩), .int .i64 1] w fun e w' => e = .returned (.int .i64 (Maps.size D)) ∧ w = w' := by
  have p7 : w.cell? ⟨k.p, 8, none⟩ = some (.pointer (some ⟨k.h1, 0, none⟩)) := cell_at K.hp rfl
  have c3 : w.cell? ⟨k.h1, 3, none⟩ = some (.map (some k.m1)) := cell_at K.H1.hh rfl
  have hlen := fun ty => hm.len Try.underlying47 ty
  clear K hm
  go_enter Try.func14, Try.ntmps14
  go_wp2
  go_ret
  exact ⟨rfl, rfl⟩

theorem count1 (w : World) (base n : Nat) (k : Blks) (s0 s1 : Hold) (v : ByteArray) (K : Keeper w base n k s0 s1) (hv : v.size ≤ maxLen) :
    Calls Try.prog 16 #[.pointer (some ⟨k.p, 0, none⟩), .int .i64 1, .string v] w fun e w' => e = .returned (.int .i64 (vcount s1 v n)) ∧ w = w' := by
  have p7 : w.cell? ⟨k.p, 8, none⟩ = some (.pointer (some ⟨k.h1, 0, none⟩)) := cell_at K.hp rfl
  have c3 : w.cell? ⟨k.h1, 3, none⟩ = some (.map (some k.m1)) := cell_at K.H1.hh rfl
  obtain ⟨D, hm, hD⟩ := K.H1.hm
  have hlk := lookup_val hm hD hv
  clear K hm hD
  go_enter Try.func16, Try.ntmps16
  go_wp2
  go_ret
  exact ⟨rfl, rfl⟩

set_option maxHeartbeats 6400000 in
set_option maxRecDepth 100000 in
theorem match0 (w : World) (base n : Nat) (k : Blks) (s0 s1 : Hold) (ms : List Msg) (a : Option Addr) (cap o : Nat) (F : Nat → Int) (K : Keeper w base n k s0 s1) (V : Script w a ms) (R : RowZ w o n F) (hw : Want s0 ms F n) (hout : ∀ j, n ≤ j → s0 j = none) (hn : n ≤ 65536) (hl : ms.length ≤ 65536) :
    Calls Try.prog 8 #[.pointer (some ⟨k.p, 0, none⟩), .int .i64 0, .int .i64 n, .slice a ms.length cap, .slice (some ⟨o, 0, none⟩) n n] w fun e w' => e = .returned (.bool true) ∧ Below w.heap.size w w' := by
  have FR : Hid (Calls Try.prog 11 #[.pointer (some ⟨k.p, 0, none⟩), .int .i64 0] w fun e w' => e = .returned (.slice (some ⟨k.f0, 0, none⟩) (words n) (words n)) ∧ w = w') := from0 _ _ n k _ _ K
  have BY : Hid (Calls Try.prog 12 #[.pointer (some ⟨k.p, 0, none⟩), .int .i64 0] w fun e w' => e = .returned (.slice (some ⟨k.b0, 0, none⟩) n n) ∧ w = w') := by0 _ _ n k _ _ K
  have HK : Hid (Keeper w base n k s0 s1) := K
  have HV : Hid (Script w a ms) := V
  have HR : Hid (RowZ w o n F) := R
  have HW : Hid (Want s0 ms F n) := hw
  have HO : Hid (∀ j, n ≤ j → s0 j = none) := hout
  have hwn : words n ≤ 65536 := by unfold words; omega
  clear K V R hw hout
  have hmm := @run_makeMap Try.prog
  go_enter Try.func8, Try.ntmps8
  go_wp2_with (first | (go_at_call 12; refine BY.out.mono ?_; rintro e w' ⟨rfl, rfl⟩) | (go_at_call 11; refine FR.out.mono ?_; rintro e w' ⟨rfl, rfl⟩))
  clear FR BY hmm
  go_loopw [13, 15] (fun c i wr => ∃ (j : Nat) (D : DataW Unit), j ≤ n ∧ i = .int .i64 j ∧ c = .int .i64 (cnt s0 j : Nat) ∧ Hid (wr.ownsMap Try.prog 9 (plainElem Try.prog 3) w.heap.size (cnt s0 j) D) ∧ Hid (Counts D s0 j) ∧ Hid (Below w.heap.size w wr)) (fun _ i _ => n - (intOf i).toNat)
  case atStart => exact ⟨0, .map [], Nat.zero_le _, rfl, rfl, World.ownsMap_made w _ _ _, counts_start _, (Below.refl _ _).alloc (Nat.le_refl _) _⟩
  case round =>
    obtain ⟨j, D, hj, rfl, rfl, HM, HD, HB⟩ := hrel
    by_cases hjn : j < n
    · have hjw : ((j / 64 : Nat) : Int) < (words n : Int) := by unfold words; omega
      have hcl := cnt_le s0 j
      have KW := HK.out.below HB.out
      have f1 : wr.cell? ⟨k.f0, j / 64, none⟩ = some (.int .u64 (wd (fun j => (s0 j).isSome) (j / 64) : Nat)) := held_word KW.H0 (by omega)
      have hbit := bit_at s0 j
      have f2 : wr.cell? ⟨o, j, none⟩ = some (.int .i64 (F j)) := (HR.out.touch (touch_of_below HB.out) (by simp)).cell hjn
      rcases HW.out j hjn with ⟨hF, hs⟩ | ⟨i, hi, hF, hs⟩
      · have b1 := held_none KW.H0 hjn hs
        rw [hs] at hbit
        rw [hF] at f2
        have AF : Hid (cnt s0 (j + 1) = cnt s0 j ∧ Counts D s0 (j + 1)) := ⟨by rw [cnt_succ, hs]; rfl, counts_none HD.out hs⟩
        simp only [Option.isSome_none] at hbit
        clear HK HV HR HW HO KW hF hs HD
        generalize wd (fun j => (s0 j).isSome) (j / 64) = y at f1 hbit
        as_aux_lemma =>
          go_wp2
          go_roundw
          case measure => simp [intOf]; omega
          case rel => exact ⟨j + 1, D, by omega, by go_num, by rw [AF.out.1], by rw [AF.out.1]; exact HM, AF.out.2, HB⟩
      · obtain ⟨q, b1, q0, q1, q2, q3, q4, q5⟩ := held_all KW.H0 hjn hs
        replace q1 : wr.cell? ⟨q, 1, none⟩ = some (.int .i64 0) := q1
        rw [hs] at hbit
        rw [hF] at f2
        simp only [Option.isSome_some] at hbit
        have hne : ms ≠ [] := by intro h; rw [h] at hi; simp at hi
        obtain ⟨b, off, rfl, hbl, hcs⟩ := (HV.out.below HB.out).2.resolve_left hne
        obtain ⟨_, _, c2⟩ := hcs _ hi
        have hys := HV.out.1 i
        have hii : (i : Int) < (ms.length : Int) := by omega
        generalize (ms.getD i zeroM).val = Y at hs q2 c2 hys
        have hlk : ∀ m, (Instr.lookup 47 (.map (some w.heap.size)) (.string Y) false).run Try.prog (wr.drewN m) = .ok (.int .i64 (vcount s0 Y j : Nat)) (wr.drewN m) := fun m => lookup_val (w := wr.drewN m) HM.out HD.out hys
        have hvc := vcount_le s0 Y j
        obtain ⟨W4, hW4⟩ := Classical.axiomOfChoice (fun m => World.ownsMap.update (w := wr.drewN m) HM.out law9 Try.underlying47 (by unfold maxLen; omega) (keyOf_string_mk (P := Try.prog) Try.underlying9 hys) (val := .int .i64 ((vcount s0 Y j : Int) + 1)) (plainElem_int Try.underlying3 (WalkArith.wf_i64 (by omega))))
        have hup : ∀ m, (Instr.mapUpdate 47 (.map (some w.heap.size)) (.string Y) (.int .i64 ((vcount s0 Y j : Int) + 1))).run Try.prog (wr.drewN m) = .ok () (W4 m) := fun m => (hW4 m).1
        have AF : Hid (cnt s0 (j + 1) = cnt s0 j + 1 ∧ Counts (D.put (keyL Y) (.lit (.int .i64 ((vcount s0 Y j : Int) + 1)))) s0 (j + 1)) := ⟨by rw [cnt_succ, hs]; rfl, counts_some HD.out HM.out.isMap hs⟩
        have AG : Hid (∀ m, (W4 m).ownsMap Try.prog 9 (plainElem Try.prog 3) w.heap.size (cnt s0 j + 1) (D.put (keyL Y) (.lit (.int .i64 ((vcount s0 Y j : Int) + 1)))) ∧ Below w.heap.size w (W4 m)) := fun m => by
          refine ⟨(hW4 m).2.1, ?_⟩
          have hd : Below w.heap.size w (wr.drewN m) := ⟨HB.out.os, HB.out.tape, HB.out.output, HB.out.size, HB.out.block⟩
          exact hd.grown (hW4 m).2.2 hd.size (fun k hk => by cases hk; exact Nat.le_refl _)
        clear HK HV HR HW HO KW hF hs HD hW4 hcs hne hbl HM HB
        generalize wd (fun j => (s0 j).isSome) (j / 64) = y at f1 hbit
        generalize vcount s0 Y j = vc at hlk hup hvc AF AG
        as_aux_lemma =>
          go_wp2
          go_quiet (fail)
          go_wp2
          go_roundw
          case measure => simp [intOf]; omega
          case rel => exact ⟨j + 1, _, by omega, by go_num, by rw [AF.out.1]; go_num, by rw [AF.out.1]; exact (AG.out _).1, AF.out.2, (AG.out _).2⟩
    · have hjj : j = n := by omega
      subst hjj
      have KW : Hid (Keeper wr base j k s0 s1) := HK.out.below HB.out
      have HVW : Hid (Script wr a ms) := HV.out.below HB.out
      have HRW : Hid (RowZ wr o j F) := HR.out.touch (touch_of_below HB.out) (by simp)
      clear HK HV HR hj hjn
      go_wp2_with fail
      go_loop [19] (fun i => ∃ t : Nat, j ≤ t ∧ t ≤ 64 * words j ∧ i = .int .i64 t) (fun i => 64 * words j - (intOf i).toNat)
      case atStart => exact ⟨j, Nat.le_refl _, by unfold words; omega, rfl⟩
      case round =>
        obtain ⟨t, ht1, ht2, rfl⟩ := hrel
        by_cases htl : t < 64 * words j
        · have hjw : ((t / 64 : Nat) : Int) < (words j : Int) := by omega
          have f1 : wr.cell? ⟨k.f0, t / 64, none⟩ = some (.int .u64 (wd (fun j => (s0 j).isSome) (t / 64) : Nat)) := held_word KW.out.H0 (by omega)
          have hbit := bit_at s0 t
          rw [HO.out t ht1] at hbit
          simp only [Option.isSome_none] at hbit
          clear KW HVW HRW HM HD HB HW HO
          generalize wd (fun j => (s0 j).isSome) (t / 64) = y at f1 hbit
          as_aux_lemma =>
            go_wp2
            go_round
            case rel => exact ⟨t + 1, by omega, by omega, by go_num⟩
            case measure => simp [intOf]; omega
        · obtain ⟨D', hm', hD'⟩ := KW.out.H0.hm
          have hDD : D' = D := counts_eq hm' HM.out hD' HD.out
          subst hDD
          have SN : Hid (Calls Try.prog 10 #[.pointer (some ⟨k.p, 0, none⟩), .int .i64 0] wr fun e w' => e = .returned (.int .i64 (cnt s0 j)) ∧ wr = w') := senders0 _ _ j k _ _ KW.out
          have DS : Hid (Calls Try.prog 14 #[.pointer (some ⟨k.p, 0, none⟩), .int .i64 0] wr fun e w' => e = .returned (.int .i64 (Maps.size D')) ∧ wr = w') := distinct0 _ _ j k _ _ D' KW.out hm'
          have CA : Hid (Calls Try.prog 15 #[.pointer (some ⟨k.p, 0, none⟩), .int .i64 0] wr fun e w' => e = .returned (.bool true) ∧ wr = w') := carried0 _ _ j k _ _ KW.out
          have hlen := fun ty => HM.out.len Try.underlying47 ty
          clear hm' hD' HO ht1 ht2
          generalize Maps.size D' = Z at DS hlen
          go_wp2_with (first | (go_at_call 10; refine SN.out.mono ?_; rintro e w' ⟨rfl, rfl⟩) | (go_at_call 14; refine DS.out.mono ?_; rintro e w' ⟨rfl, rfl⟩) | (go_at_call 15; refine CA.out.mono ?_; rintro e w' ⟨rfl, rfl⟩))
          clear SN DS CA hlen
          obtain ⟨wE, rfl⟩ : ∃ y, y = wr := ⟨wr, rfl⟩
          go_loopw [20] (fun i wy => ∃ t : Nat, t ≤ j ∧ i = .int .i64 t ∧ Hid (Below wE.heap.size wE wy)) (fun i _ => j - (intOf i).toNat)
          case atStart => exact ⟨0, Nat.zero_le _, rfl, Below.refl _ _⟩
          case round =>
            obtain ⟨u, hu, rfl, HY⟩ := hrel
            by_cases huj : u < j
            · have hui : (u : Int) < (j : Int) := by omega
              have TY := touch_of_below HY.out
              have f2 := (HRW.out.touch TY (by simp)).cell huj
              rcases HW.out u huj with ⟨hF, hs⟩ | ⟨i, hi, hF, hs⟩
              · rw [hF] at f2
                clear HM HD HB HVW HRW HW KW hF hs TY
                as_aux_lemma =>
                  go_wp2
                  go_quiet (fail)
                  go_wp2
                  go_roundw
                  case measure => simp [intOf]; omega
                  case rel => exact ⟨u + 1, by omega, by go_num, ⟨HY.out.os, HY.out.tape, HY.out.output, HY.out.size, HY.out.block⟩⟩
              · rw [hF] at f2
                have hne : ms ≠ [] := by intro h; rw [h] at hi; simp at hi
                obtain ⟨b, off, rfl, hbl, hcs⟩ := (HVW.out.below HY.out).2.resolve_left hne
                obtain ⟨_, _, c2⟩ := hcs _ hi
                have hys := HVW.out.1 i
                have hii : (i : Int) < (ms.length : Int) := by omega
                have hi0 : (0 : Int) ≤ (i : Int) := by omega
                generalize (ms.getD i zeroM).val = Y at hs c2 hys
                have HM2 : wr.ownsMap Try.prog 9 (plainElem Try.prog 3) w.heap.size (cnt s0 j) D' := by
                  obtain ⟨es, clock, he, r⟩ := HM.out
                  exact ⟨es, clock, TY.keep (by simp) he, r⟩
                have hlk : ∀ t, (Instr.lookup 47 (.map (some w.heap.size)) (.string Y) false).run Try.prog (wr.drewN t) = .ok (.int .i64 (vcount s0 Y j : Nat)) (wr.drewN t) := fun t => lookup_val (w := wr.drewN t) HM2 HD.out hys
                have CN : Hid (∀ t, Calls Try.prog 16 #[.pointer (some ⟨k.p, 0, none⟩), .int .i64 0, .string Y] (wr.drewN t) fun e w' => e = .returned (.int .i64 (vcount s0 Y j)) ∧ w' = wr.drewN t) := fun t => (count0 (wr.drewN t) _ j k _ _ Y ((KW.out.below HY.out).below ⟨rfl, rfl, rfl, Nat.le_refl _, fun _ _ => rfl⟩) hys).mono fun e w' ⟨h1, h2⟩ => ⟨h1, h2.symm⟩
                clear HM HM2 HD HB HVW HRW HW KW hF hs hcs hne hbl TY
                generalize vcount s0 Y j = vc at hlk CN
                as_aux_lemma =>
                  go_wp2
                  go_quiet (first | (go_at_call 16; refine Calls.quiet_of_same (CN.out _)))
                  go_wp2
                  go_roundw
                  case measure => simp [intOf]; omega
                  case rel => exact ⟨u + 1, by omega, by go_num, ⟨HY.out.os, HY.out.tape, HY.out.output, HY.out.size, HY.out.block⟩⟩
            · have FINI : Hid (Below w.heap.size w wr) := HB.out.trans (HY.out.mono HB.out.size)
              clear HM HD HVW HRW HW KW
              go_wp2
              go_ret
              exact ⟨rfl, FINI.out⟩
end Go.Proofs.Qxb6616381a
