/-
  seat b6616381a: ZZnewKeeper: the steps.
-/
import Derived.Test.Qxb6616381aNewA
namespace Go.Proofs.Qxb6616381a
open Go.RowKit
set_option linter.unusedVariables false
set_option linter.unusedSimpArgs false

theorem Try.info30 : (Try.prog.info? 30).map (fun i => (i.zero, i.size, i.bytes)) = some (some (.pointer none), 1, 8) := by kernel_rfl
theorem Try.info42 : (Try.prog.info? 42).map (fun i => (i.zero, i.size, i.bytes)) = some (some (.int .u64 0), 1, 8) := by kernel_rfl

theorem make_by (n : Nat) (hn : n ≤ 65536) (w : World) : (Instr.makeSlice 43 (.int .i64 n) (.int .i64 n)).run Try.prog w = .ok (.slice (some ⟨w.heap.size, 0, none⟩) n n) (w.alloc (byRow n)) := by
  obtain ⟨i, hi, hz, hs, hb⟩ := info_parts Try.info30
  have := run_make (P := Try.prog) w 43 30 i (.pointer none) Try.underlying43 hi hz .i64 .i64 n n (by omega) (Int.le_refl _) (by rw [hb]; omega) (by omega)
  simp only [Int.toNat_natCast, hs] at this
  exact this
theorem make_from (n : Nat) (hn : n ≤ 65536) (w : World) : (Instr.makeSlice 46 (.int .i64 (words n)) (.int .i64 (words n))).run Try.prog w = .ok (.slice (some ⟨w.heap.size, 0, none⟩) (words n) (words n)) (w.alloc (fromRow n)) := by
  obtain ⟨i, hi, hz, hs, hb⟩ := info_parts Try.info42
  have hw : words n ≤ 65536 := by unfold words; omega
  have := run_make (P := Try.prog) w 46 42 i (.int .u64 0) Try.underlying46 hi hz .i64 .i64 (words n) (words n) (by omega) (Int.le_refl _) (by rw [hb]; omega) (by omega)
  simp only [Int.toNat_natCast, hs] at this
  exact this

theorem eval_const (a : Act) (v : Value) : a.eval (.const v) = v := rfl

theorem dep {listed : Array Bool} (hs : listed.size = 23) {i : Nat} (hi : i < 23) (h : listed[i]?.getD false = true) : listed.getD i true = true := by
  rw [Array.getD_eq_getD_getElem?]
  have : i < listed.size := by omega
  simp [this] at h ⊢
  exact h

theorem add63 (n : Nat) (hn : n ≤ 65536) (w : World) : (binOp .add 3 (.int .i64 n) (.int .i64 63)).run Try.prog w = .ok (.int .i64 (n + 63 : Nat)) w := by
  go_simp
  rw [IntWalk.i64_in _ (by omega)]
theorem quo64 (n : Nat) (hn : n ≤ 65536) (w : World) : (binOp .quo 3 (.int .i64 (n + 63 : Nat)) (.int .i64 64)).run Try.prog w = .ok (.int .i64 (words n)) w := by
  go_simp
  rw [IntWalk.i64_quo _ _ (by omega)]
  unfold words
  omega
theorem build49 (g f m a b c d : Nat) (w : World) : (Instr.build 49 #[(0, .slice (some ⟨g, 0, none⟩) a b), (1, .slice (some ⟨f, 0, none⟩) c d), (3, .map (some m))]).run Try.prog w =
    .ok (.agg #[.slice (some ⟨g, 0, none⟩) a b, .slice (some ⟨f, 0, none⟩) c d, .int .i64 0, .map (some m), .pointer none]) w := by
  kernel_rfl
theorem box49 (v0 v1 v2 : Value) (w : World) : (Instr.box 49 (.agg #[v0, v1, .int .i64 0, v2, .pointer none])).run Try.prog w = .ok (.pointer (some ⟨w.heap.size, 0, none⟩)) (w.alloc (.cells #[v0, v1, .int .i64 0, v2, .pointer none] 49)) := by
  go_simp
theorem build50 (x y : Nat) (w : World) : (Instr.build 50 #[(0, .pointer (some ⟨x, 0, none⟩)), (1, .pointer (some ⟨y, 0, none⟩))]).run Try.prog w = .ok (.agg #[.pointer (some ⟨x, 0, none⟩), .pointer (some ⟨y, 0, none⟩)]) w := by
  kernel_rfl
theorem build56 (n x y : Nat) (w : World) : (Instr.build 56 #[(1, .int .i64 n), (7, .agg #[.pointer (some ⟨x, 0, none⟩), .pointer (some ⟨y, 0, none⟩)])]).run Try.prog w = .ok (.agg (procCells n (.pointer (some ⟨x, 0, none⟩)) (.pointer (some ⟨y, 0, none⟩)))) w := by
  kernel_rfl
theorem box56 (n x y : Nat) (w : World) : (Instr.box 56 (.agg (procCells n (.pointer (some ⟨x, 0, none⟩)) (.pointer (some ⟨y, 0, none⟩))))).run Try.prog w = .ok (.pointer (some ⟨w.heap.size, 0, none⟩)) (w.alloc (.cells (procCells n (.pointer (some ⟨x, 0, none⟩)) (.pointer (some ⟨y, 0, none⟩))) 56)) := by
  kernel_rfl

theorem step0 {base n : Nat} {w0 : World} {ops : Array Oper} {Q : Exit → Act → World → Prop} (hk : KOps ops) (hn : n ≤ 65536) {listed : Array Bool} {a : Act} {w : World} (h : KI base n w0 listed a w) (hr : 0 ∈ Region.ready .any ops listed) :
    wpOp Try.prog ops Q 0 (fun a' w' => KI base n w0 (listed.setIfInBounds 0 true) a' w') a w := by
  obtain ⟨ty, pos, ho⟩ := hk.o0
  obtain ⟨γ, hγ⟩ := h.done
  refine wpOp_value ho rfl (v := .int .i64 n) (w' := w) ?_ (h.same (i := 0) (by omega) hγ rfl)
  simp only [execOp, Sem.run_bind, Sem.run_pure, Result.andThen_ok, h.t0]

theorem step1 {base n : Nat} {w0 : World} {ops : Array Oper} {Q : Exit → Act → World → Prop} (hk : KOps ops) (hn : n ≤ 65536) {listed : Array Bool} {a : Act} {w : World} (h : KI base n w0 listed a w) (hr : 1 ∈ Region.ready .any ops listed) :
    wpOp Try.prog ops Q 1 (fun a' w' => KI base n w0 (listed.setIfInBounds 1 true) a' w') a w := by
  obtain ⟨ty, pos, ho⟩ := hk.o1
  obtain ⟨γ, hγ⟩ := h.done
  refine wpOp_value ho rfl (v := .int .i64 n) (w' := w) ?_ (h.same (i := 1) (by omega) hγ rfl)
  simp only [execOp, Sem.run_bind, Sem.run_pure, Result.andThen_ok, h.t0]

theorem step2 {base n : Nat} {w0 : World} {ops : Array Oper} {Q : Exit → Act → World → Prop} (hk : KOps ops) (hn : n ≤ 65536) {listed : Array Bool} {a : Act} {w : World} (h : KI base n w0 listed a w) (hr : 2 ∈ Region.ready .any ops listed) :
    wpOp Try.prog ops Q 2 (fun a' w' => KI base n w0 (listed.setIfInBounds 2 true) a' w') a w := by
  obtain ⟨ty, pos, ho⟩ := hk.o2
  obtain ⟨γ, hγ⟩ := h.done
  obtain ⟨_, _, hd⟩ := ready_mem.1 hr
  rw [ho] at hd
  simp [Region.binds] at hd
  have d1 := dep h.ls (show 1 < 23 by omega) hd
  have e : a.eval (.tmp 4) = .int .i64 n := hγ 1 (by omega) d1
  refine wpOp_value ho rfl (v := .slice (some ⟨w.heap.size, 0, none⟩) n n) (w' := w.alloc (byRow n)) ?_ (h.grown (i := 2) (by omega) hγ ⟨w.heap.size, rfl, Blk.new w γ 2 _ h.big⟩)
  simp only [execOp, Sem.run_bind, Sem.run_pure, Result.andThen_ok, e, make_by n hn]

theorem step3 {base n : Nat} {w0 : World} {ops : Array Oper} {Q : Exit → Act → World → Prop} (hk : KOps ops) (hn : n ≤ 65536) {listed : Array Bool} {a : Act} {w : World} (h : KI base n w0 listed a w) (hr : 3 ∈ Region.ready .any ops listed) :
    wpOp Try.prog ops Q 3 (fun a' w' => KI base n w0 (listed.setIfInBounds 3 true) a' w') a w := by
  obtain ⟨ty, pos, ho⟩ := hk.o3
  obtain ⟨γ, hγ⟩ := h.done
  refine wpOp_value ho rfl (v := .int .i64 n) (w' := w) ?_ (h.same (i := 3) (by omega) hγ rfl)
  simp only [execOp, Sem.run_bind, Sem.run_pure, Result.andThen_ok, h.t0]

theorem step4 {base n : Nat} {w0 : World} {ops : Array Oper} {Q : Exit → Act → World → Prop} (hk : KOps ops) (hn : n ≤ 65536) {listed : Array Bool} {a : Act} {w : World} (h : KI base n w0 listed a w) (hr : 4 ∈ Region.ready .any ops listed) :
    wpOp Try.prog ops Q 4 (fun a' w' => KI base n w0 (listed.setIfInBounds 4 true) a' w') a w := by
  obtain ⟨ty, pos, ho⟩ := hk.o4
  obtain ⟨γ, hγ⟩ := h.done
  obtain ⟨_, _, hd⟩ := ready_mem.1 hr
  rw [ho] at hd
  simp [Region.binds] at hd
  have d3 := dep h.ls (show 3 < 23 by omega) hd
  have e : a.eval (.tmp 6) = .int .i64 n := hγ 3 (by omega) d3
  refine wpOp_value ho rfl (v := .int .i64 (n + 63 : Nat)) (w' := w) ?_ (h.same (i := 4) (by omega) hγ rfl)
  simp [execOp, e, eval_const, eqGuard, add63 n hn, Result.andThen]

theorem step5 {base n : Nat} {w0 : World} {ops : Array Oper} {Q : Exit → Act → World → Prop} (hk : KOps ops) (hn : n ≤ 65536) {listed : Array Bool} {a : Act} {w : World} (h : KI base n w0 listed a w) (hr : 5 ∈ Region.ready .any ops listed) :
    wpOp Try.prog ops Q 5 (fun a' w' => KI base n w0 (listed.setIfInBounds 5 true) a' w') a w := by
  obtain ⟨ty, pos, ho⟩ := hk.o5
  obtain ⟨γ, hγ⟩ := h.done
  obtain ⟨_, _, hd⟩ := ready_mem.1 hr
  rw [ho] at hd
  simp [Region.binds] at hd
  have d4 := dep h.ls (show 4 < 23 by omega) hd
  have e : a.eval (.tmp 7) = .int .i64 (n + 63 : Nat) := hγ 4 (by omega) d4
  refine wpOp_value ho rfl (v := .int .i64 (words n)) (w' := w) ?_ (h.same (i := 5) (by omega) hγ rfl)
  simp only [execOp, e, eval_const, eqGuard_quo, Sem.run_bind, Sem.run_pure, Result.andThen_ok, quo64 n hn]

theorem step6 {base n : Nat} {w0 : World} {ops : Array Oper} {Q : Exit → Act → World → Prop} (hk : KOps ops) (hn : n ≤ 65536) {listed : Array Bool} {a : Act} {w : World} (h : KI base n w0 listed a w) (hr : 6 ∈ Region.ready .any ops listed) :
    wpOp Try.prog ops Q 6 (fun a' w' => KI base n w0 (listed.setIfInBounds 6 true) a' w') a w := by
  obtain ⟨ty, pos, ho⟩ := hk.o6
  obtain ⟨γ, hγ⟩ := h.done
  obtain ⟨_, _, hd⟩ := ready_mem.1 hr
  rw [ho] at hd
  simp [Region.binds] at hd
  have d5 := dep h.ls (show 5 < 23 by omega) hd
  have e : a.eval (.tmp 8) = .int .i64 (words n) := hγ 5 (by omega) d5
  refine wpOp_value ho rfl (v := .slice (some ⟨w.heap.size, 0, none⟩) (words n) (words n)) (w' := w.alloc (fromRow n)) ?_ (h.grown (i := 6) (by omega) hγ ⟨w.heap.size, rfl, Blk.new w γ 6 _ h.big⟩)
  simp only [execOp, Sem.run_bind, Sem.run_pure, Result.andThen_ok, e, make_from n hn]

theorem step7 {base n : Nat} {w0 : World} {ops : Array Oper} {Q : Exit → Act → World → Prop} (hk : KOps ops) (hn : n ≤ 65536) {listed : Array Bool} {a : Act} {w : World} (h : KI base n w0 listed a w) (hr : 7 ∈ Region.ready .any ops listed) :
    wpOp Try.prog ops Q 7 (fun a' w' => KI base n w0 (listed.setIfInBounds 7 true) a' w') a w := by
  obtain ⟨ty, pos, ho⟩ := hk.o7
  obtain ⟨γ, hγ⟩ := h.done
  refine wpOp_value ho rfl (v := .map (some w.heap.size)) (w' := w.alloc (.map #[] 0)) ?_ (h.grown (i := 7) (by omega) hγ ⟨w.heap.size, rfl, Blk.new w γ 7 _ h.big⟩)
  simp only [execOp, Sem.run_bind, Sem.run_pure, Result.andThen_ok, Option.map_none, run_makeMap]

theorem step8 {base n : Nat} {w0 : World} {ops : Array Oper} {Q : Exit → Act → World → Prop} (hk : KOps ops) (hn : n ≤ 65536) {listed : Array Bool} {a : Act} {w : World} (h : KI base n w0 listed a w) (hr : 8 ∈ Region.ready .any ops listed) :
    wpOp Try.prog ops Q 8 (fun a' w' => KI base n w0 (listed.setIfInBounds 8 true) a' w') a w := by
  obtain ⟨ty, pos, ho⟩ := hk.o8
  obtain ⟨γ, hγ⟩ := h.done
  obtain ⟨_, _, hd⟩ := ready_mem.1 hr
  rw [ho] at hd
  simp [Region.binds] at hd
  have d2 := dep h.ls (show 2 < 23 by omega) hd.1
  have d6 := dep h.ls (show 6 < 23 by omega) hd.2.1
  have d7 := dep h.ls (show 7 < 23 by omega) hd.2.2
  obtain ⟨gb, eb, kb⟩ : IsBy base n (a.eval (.tmp 5)) w γ 2 := hγ 2 (by omega) d2
  obtain ⟨gf, ef, kf⟩ : IsFrom base n (a.eval (.tmp 9)) w γ 6 := hγ 6 (by omega) d6
  obtain ⟨gm, em, km⟩ : IsMap base (a.eval (.tmp 10)) w γ 7 := hγ 7 (by omega) d7
  refine wpOp_value ho rfl (v := .agg #[.slice (some ⟨gb, 0, none⟩) n n, .slice (some ⟨gf, 0, none⟩) (words n) (words n), .int .i64 0, .map (some gm), .pointer none]) (w' := w) ?_ (h.same (i := 8) (by omega) hγ ⟨_, _, _, rfl, ⟨gb, rfl, kb⟩, ⟨gf, rfl, kf⟩, ⟨gm, rfl, km⟩⟩)
  simp only [execOp, Sem.run_bind, Sem.run_pure, Result.andThen_ok, List.map_toArray, List.map_cons, List.map_nil, eb, ef, em, build49]

theorem step9 {base n : Nat} {w0 : World} {ops : Array Oper} {Q : Exit → Act → World → Prop} (hk : KOps ops) (hn : n ≤ 65536) {listed : Array Bool} {a : Act} {w : World} (h : KI base n w0 listed a w) (hr : 9 ∈ Region.ready .any ops listed) :
    wpOp Try.prog ops Q 9 (fun a' w' => KI base n w0 (listed.setIfInBounds 9 true) a' w') a w := by
  obtain ⟨ty, pos, ho⟩ := hk.o9
  obtain ⟨γ, hγ⟩ := h.done
  obtain ⟨_, _, hd⟩ := ready_mem.1 hr
  rw [ho] at hd
  simp [Region.binds] at hd
  have d8 := dep h.ls (show 8 < 23 by omega) hd
  obtain ⟨v0, v1, v2, e, k⟩ : IsAgg base n (a.eval (.tmp 11)) w γ 2 6 7 := hγ 8 (by omega) d8
  refine wpOp_value ho rfl (v := .pointer (some ⟨w.heap.size, 0, none⟩)) (w' := w.alloc (.cells #[v0, v1, .int .i64 0, v2, .pointer none] 49)) ?_ (h.grown (i := 9) (by omega) hγ ⟨w.heap.size, v0, v1, v2, rfl, Blk.new w γ 9 _ h.big, k.alloc _ _⟩)
  simp only [execOp, Sem.run_bind, Sem.run_pure, Result.andThen_ok, e, box49]

theorem step10 {base n : Nat} {w0 : World} {ops : Array Oper} {Q : Exit → Act → World → Prop} (hk : KOps ops) (hn : n ≤ 65536) {listed : Array Bool} {a : Act} {w : World} (h : KI base n w0 listed a w) (hr : 10 ∈ Region.ready .any ops listed) :
    wpOp Try.prog ops Q 10 (fun a' w' => KI base n w0 (listed.setIfInBounds 10 true) a' w') a w := by
  obtain ⟨ty, pos, ho⟩ := hk.o10
  obtain ⟨γ, hγ⟩ := h.done
  refine wpOp_value ho rfl (v := .int .i64 n) (w' := w) ?_ (h.same (i := 10) (by omega) hγ rfl)
  simp only [execOp, Sem.run_bind, Sem.run_pure, Result.andThen_ok, h.t0]

theorem step11 {base n : Nat} {w0 : World} {ops : Array Oper} {Q : Exit → Act → World → Prop} (hk : KOps ops) (hn : n ≤ 65536) {listed : Array Bool} {a : Act} {w : World} (h : KI base n w0 listed a w) (hr : 11 ∈ Region.ready .any ops listed) :
    wpOp Try.prog ops Q 11 (fun a' w' => KI base n w0 (listed.setIfInBounds 11 true) a' w') a w := by
  obtain ⟨ty, pos, ho⟩ := hk.o11
  obtain ⟨γ, hγ⟩ := h.done
  obtain ⟨_, _, hd⟩ := ready_mem.1 hr
  rw [ho] at hd
  simp [Region.binds] at hd
  have d10 := dep h.ls (show 10 < 23 by omega) hd
  have e : a.eval (.tmp 13) = .int .i64 n := hγ 10 (by omega) d10
  refine wpOp_value ho rfl (v := .slice (some ⟨w.heap.size, 0, none⟩) n n) (w' := w.alloc (byRow n)) ?_ (h.grown (i := 11) (by omega) hγ ⟨w.heap.size, rfl, Blk.new w γ 11 _ h.big⟩)
  simp only [execOp, Sem.run_bind, Sem.run_pure, Result.andThen_ok, e, make_by n hn]

theorem step12 {base n : Nat} {w0 : World} {ops : Array Oper} {Q : Exit → Act → World → Prop} (hk : KOps ops) (hn : n ≤ 65536) {listed : Array Bool} {a : Act} {w : World} (h : KI base n w0 listed a w) (hr : 12 ∈ Region.ready .any ops listed) :
    wpOp Try.prog ops Q 12 (fun a' w' => KI base n w0 (listed.setIfInBounds 12 true) a' w') a w := by
  obtain ⟨ty, pos, ho⟩ := hk.o12
  obtain ⟨γ, hγ⟩ := h.done
  refine wpOp_value ho rfl (v := .int .i64 n) (w' := w) ?_ (h.same (i := 12) (by omega) hγ rfl)
  simp only [execOp, Sem.run_bind, Sem.run_pure, Result.andThen_ok, h.t0]

theorem step13 {base n : Nat} {w0 : World} {ops : Array Oper} {Q : Exit → Act → World → Prop} (hk : KOps ops) (hn : n ≤ 65536) {listed : Array Bool} {a : Act} {w : World} (h : KI base n w0 listed a w) (hr : 13 ∈ Region.ready .any ops listed) :
    wpOp Try.prog ops Q 13 (fun a' w' => KI base n w0 (listed.setIfInBounds 13 true) a' w') a w := by
  obtain ⟨ty, pos, ho⟩ := hk.o13
  obtain ⟨γ, hγ⟩ := h.done
  obtain ⟨_, _, hd⟩ := ready_mem.1 hr
  rw [ho] at hd
  simp [Region.binds] at hd
  have d12 := dep h.ls (show 12 < 23 by omega) hd
  have e : a.eval (.tmp 15) = .int .i64 n := hγ 12 (by omega) d12
  refine wpOp_value ho rfl (v := .int .i64 (n + 63 : Nat)) (w' := w) ?_ (h.same (i := 13) (by omega) hγ rfl)
  simp [execOp, e, eval_const, eqGuard, add63 n hn, Result.andThen]

theorem step14 {base n : Nat} {w0 : World} {ops : Array Oper} {Q : Exit → Act → World → Prop} (hk : KOps ops) (hn : n ≤ 65536) {listed : Array Bool} {a : Act} {w : World} (h : KI base n w0 listed a w) (hr : 14 ∈ Region.ready .any ops listed) :
    wpOp Try.prog ops Q 14 (fun a' w' => KI base n w0 (listed.setIfInBounds 14 true) a' w') a w := by
  obtain ⟨ty, pos, ho⟩ := hk.o14
  obtain ⟨γ, hγ⟩ := h.done
  obtain ⟨_, _, hd⟩ := ready_mem.1 hr
  rw [ho] at hd
  simp [Region.binds] at hd
  have d13 := dep h.ls (show 13 < 23 by omega) hd
  have e : a.eval (.tmp 16) = .int .i64 (n + 63 : Nat) := hγ 13 (by omega) d13
  refine wpOp_value ho rfl (v := .int .i64 (words n)) (w' := w) ?_ (h.same (i := 14) (by omega) hγ rfl)
  simp only [execOp, e, eval_const, eqGuard_quo, Sem.run_bind, Sem.run_pure, Result.andThen_ok, quo64 n hn]

theorem step15 {base n : Nat} {w0 : World} {ops : Array Oper} {Q : Exit → Act → World → Prop} (hk : KOps ops) (hn : n ≤ 65536) {listed : Array Bool} {a : Act} {w : World} (h : KI base n w0 listed a w) (hr : 15 ∈ Region.ready .any ops listed) :
    wpOp Try.prog ops Q 15 (fun a' w' => KI base n w0 (listed.setIfInBounds 15 true) a' w') a w := by
  obtain ⟨ty, pos, ho⟩ := hk.o15
  obtain ⟨γ, hγ⟩ := h.done
  obtain ⟨_, _, hd⟩ := ready_mem.1 hr
  rw [ho] at hd
  simp [Region.binds] at hd
  have d14 := dep h.ls (show 14 < 23 by omega) hd
  have e : a.eval (.tmp 17) = .int .i64 (words n) := hγ 14 (by omega) d14
  refine wpOp_value ho rfl (v := .slice (some ⟨w.heap.size, 0, none⟩) (words n) (words n)) (w' := w.alloc (fromRow n)) ?_ (h.grown (i := 15) (by omega) hγ ⟨w.heap.size, rfl, Blk.new w γ 15 _ h.big⟩)
  simp only [execOp, Sem.run_bind, Sem.run_pure, Result.andThen_ok, e, make_from n hn]

theorem step16 {base n : Nat} {w0 : World} {ops : Array Oper} {Q : Exit → Act → World → Prop} (hk : KOps ops) (hn : n ≤ 65536) {listed : Array Bool} {a : Act} {w : World} (h : KI base n w0 listed a w) (hr : 16 ∈ Region.ready .any ops listed) :
    wpOp Try.prog ops Q 16 (fun a' w' => KI base n w0 (listed.setIfInBounds 16 true) a' w') a w := by
  obtain ⟨ty, pos, ho⟩ := hk.o16
  obtain ⟨γ, hγ⟩ := h.done
  refine wpOp_value ho rfl (v := .map (some w.heap.size)) (w' := w.alloc (.map #[] 0)) ?_ (h.grown (i := 16) (by omega) hγ ⟨w.heap.size, rfl, Blk.new w γ 16 _ h.big⟩)
  simp only [execOp, Sem.run_bind, Sem.run_pure, Result.andThen_ok, Option.map_none, run_makeMap]

theorem step17 {base n : Nat} {w0 : World} {ops : Array Oper} {Q : Exit → Act → World → Prop} (hk : KOps ops) (hn : n ≤ 65536) {listed : Array Bool} {a : Act} {w : World} (h : KI base n w0 listed a w) (hr : 17 ∈ Region.ready .any ops listed) :
    wpOp Try.prog ops Q 17 (fun a' w' => KI base n w0 (listed.setIfInBounds 17 true) a' w') a w := by
  obtain ⟨ty, pos, ho⟩ := hk.o17
  obtain ⟨γ, hγ⟩ := h.done
  obtain ⟨_, _, hd⟩ := ready_mem.1 hr
  rw [ho] at hd
  simp [Region.binds] at hd
  have d11 := dep h.ls (show 11 < 23 by omega) hd.1
  have d15 := dep h.ls (show 15 < 23 by omega) hd.2.1
  have d16 := dep h.ls (show 16 < 23 by omega) hd.2.2
  obtain ⟨gb, eb, kb⟩ : IsBy base n (a.eval (.tmp 14)) w γ 11 := hγ 11 (by omega) d11
  obtain ⟨gf, ef, kf⟩ : IsFrom base n (a.eval (.tmp 18)) w γ 15 := hγ 15 (by omega) d15
  obtain ⟨gm, em, km⟩ : IsMap base (a.eval (.tmp 19)) w γ 16 := hγ 16 (by omega) d16
  refine wpOp_value ho rfl (v := .agg #[.slice (some ⟨gb, 0, none⟩) n n, .slice (some ⟨gf, 0, none⟩) (words n) (words n), .int .i64 0, .map (some gm), .pointer none]) (w' := w) ?_ (h.same (i := 17) (by omega) hγ ⟨_, _, _, rfl, ⟨gb, rfl, kb⟩, ⟨gf, rfl, kf⟩, ⟨gm, rfl, km⟩⟩)
  simp only [execOp, Sem.run_bind, Sem.run_pure, Result.andThen_ok, List.map_toArray, List.map_cons, List.map_nil, eb, ef, em, build49]

theorem step18 {base n : Nat} {w0 : World} {ops : Array Oper} {Q : Exit → Act → World → Prop} (hk : KOps ops) (hn : n ≤ 65536) {listed : Array Bool} {a : Act} {w : World} (h : KI base n w0 listed a w) (hr : 18 ∈ Region.ready .any ops listed) :
    wpOp Try.prog ops Q 18 (fun a' w' => KI base n w0 (listed.setIfInBounds 18 true) a' w') a w := by
  obtain ⟨ty, pos, ho⟩ := hk.o18
  obtain ⟨γ, hγ⟩ := h.done
  obtain ⟨_, _, hd⟩ := ready_mem.1 hr
  rw [ho] at hd
  simp [Region.binds] at hd
  have d17 := dep h.ls (show 17 < 23 by omega) hd
  obtain ⟨v0, v1, v2, e, k⟩ : IsAgg base n (a.eval (.tmp 20)) w γ 11 15 16 := hγ 17 (by omega) d17
  refine wpOp_value ho rfl (v := .pointer (some ⟨w.heap.size, 0, none⟩)) (w' := w.alloc (.cells #[v0, v1, .int .i64 0, v2, .pointer none] 49)) ?_ (h.grown (i := 18) (by omega) hγ ⟨w.heap.size, v0, v1, v2, rfl, Blk.new w γ 18 _ h.big, k.alloc _ _⟩)
  simp only [execOp, Sem.run_bind, Sem.run_pure, Result.andThen_ok, e, box49]

theorem step19 {base n : Nat} {w0 : World} {ops : Array Oper} {Q : Exit → Act → World → Prop} (hk : KOps ops) (hn : n ≤ 65536) {listed : Array Bool} {a : Act} {w : World} (h : KI base n w0 listed a w) (hr : 19 ∈ Region.ready .any ops listed) :
    wpOp Try.prog ops Q 19 (fun a' w' => KI base n w0 (listed.setIfInBounds 19 true) a' w') a w := by
  obtain ⟨ty, pos, ho⟩ := hk.o19
  obtain ⟨γ, hγ⟩ := h.done
  obtain ⟨_, _, hd⟩ := ready_mem.1 hr
  rw [ho] at hd
  simp [Region.binds] at hd
  have d9 := dep h.ls (show 9 < 23 by omega) hd.1
  have d18 := dep h.ls (show 18 < 23 by omega) hd.2
  have k9 : IsHeld base n (a.eval (.tmp 12)) w γ 2 6 7 9 := hγ 9 (by omega) d9
  have k18 : IsHeld base n (a.eval (.tmp 21)) w γ 11 15 16 18 := hγ 18 (by omega) d18
  obtain ⟨x, _, _, _, ex, _, _⟩ := k9
  obtain ⟨y, _, _, _, ey, _, _⟩ := k18
  refine wpOp_value ho rfl (v := .agg #[.pointer (some ⟨x, 0, none⟩), .pointer (some ⟨y, 0, none⟩)]) (w' := w) ?_ (h.same (i := 19) (by omega) hγ ⟨_, _, rfl, by rw [← ex]; exact hγ 9 (by omega) d9, by rw [← ey]; exact hγ 18 (by omega) d18⟩)
  simp only [execOp, Sem.run_bind, Sem.run_pure, Result.andThen_ok, List.map_toArray, List.map_cons, List.map_nil, ex, ey, build50]

theorem step20 {base n : Nat} {w0 : World} {ops : Array Oper} {Q : Exit → Act → World → Prop} (hk : KOps ops) (hn : n ≤ 65536) {listed : Array Bool} {a : Act} {w : World} (h : KI base n w0 listed a w) (hr : 20 ∈ Region.ready .any ops listed) :
    wpOp Try.prog ops Q 20 (fun a' w' => KI base n w0 (listed.setIfInBounds 20 true) a' w') a w := by
  obtain ⟨ty, pos, ho⟩ := hk.o20
  obtain ⟨γ, hγ⟩ := h.done
  obtain ⟨_, _, hd⟩ := ready_mem.1 hr
  rw [ho] at hd
  simp [Region.binds] at hd
  have d0 := dep h.ls (show 0 < 23 by omega) hd.1
  have d19 := dep h.ls (show 19 < 23 by omega) hd.2
  have e3 : a.eval (.tmp 3) = .int .i64 n := hγ 0 (by omega) d0
  obtain ⟨x, y, e, k⟩ : ∃ x y, a.eval (.tmp 22) = .agg #[x, y] ∧ Two base n x y w γ := hγ 19 (by omega) d19
  have k1 := k.1
  have k2 := k.2
  obtain ⟨px, _, _, _, ex, _, _⟩ := k1
  obtain ⟨py, _, _, _, ey, _, _⟩ := k2
  refine wpOp_value ho rfl (v := .agg (procCells n (.pointer (some ⟨px, 0, none⟩)) (.pointer (some ⟨py, 0, none⟩)))) (w' := w) ?_ (h.same (i := 20) (by omega) hγ ⟨_, _, rfl, by rw [← ex, ← ey]; exact k⟩)
  simp only [execOp, Sem.run_bind, Sem.run_pure, Result.andThen_ok, List.map_toArray, List.map_cons, List.map_nil, e3, e, ex, ey, build56]

theorem step21 {base n : Nat} {w0 : World} {ops : Array Oper} {Q : Exit → Act → World → Prop} (hk : KOps ops) (hn : n ≤ 65536) {listed : Array Bool} {a : Act} {w : World} (h : KI base n w0 listed a w) (hr : 21 ∈ Region.ready .any ops listed) :
    wpOp Try.prog ops Q 21 (fun a' w' => KI base n w0 (listed.setIfInBounds 21 true) a' w') a w := by
  obtain ⟨ty, pos, ho⟩ := hk.o21
  obtain ⟨γ, hγ⟩ := h.done
  obtain ⟨_, _, hd⟩ := ready_mem.1 hr
  rw [ho] at hd
  simp [Region.binds] at hd
  have d20 := dep h.ls (show 20 < 23 by omega) hd
  obtain ⟨x, y, e, k⟩ : ∃ x y, a.eval (.tmp 23) = .agg (procCells n x y) ∧ Two base n x y w γ := hγ 20 (by omega) d20
  have k1 := k.1
  have k2 := k.2
  obtain ⟨px, _, _, _, ex, _, _⟩ := k1
  obtain ⟨py, _, _, _, ey, _, _⟩ := k2
  refine wpOp_value ho rfl (v := .pointer (some ⟨w.heap.size, 0, none⟩)) (w' := w.alloc (.cells (procCells n (.pointer (some ⟨px, 0, none⟩)) (.pointer (some ⟨py, 0, none⟩))) 56)) ?_ (h.grown (i := 21) (by omega) hγ ⟨w.heap.size, _, _, rfl, Blk.new w γ 21 _ h.big, by rw [← ex, ← ey]; exact k.alloc _ _⟩)
  simp only [execOp, Sem.run_bind, Sem.run_pure, Result.andThen_ok, e, ex, ey, box56]

theorem step22 {base n : Nat} {w0 : World} {ops : Array Oper} {Q : Exit → Act → World → Prop} (hk : KOps ops) (hn : n ≤ 65536) {listed : Array Bool} {a : Act} {w : World} (h : KI base n w0 listed a w) (hr : 22 ∈ Region.ready .any ops listed) :
    wpOp Try.prog ops Q 22 (fun a' w' => KI base n w0 (listed.setIfInBounds 22 true) a' w') a w := by
  obtain ⟨ty, pos, ho⟩ := hk.o22
  obtain ⟨γ, hγ⟩ := h.done
  obtain ⟨_, _, hd⟩ := ready_mem.1 hr
  rw [ho] at hd
  simp [Region.binds] at hd
  have d21 := dep h.ls (show 21 < 23 by omega) hd.1
  have k : IsProc base n (a.eval (.tmp 24)) w γ := hγ 21 (by omega) d21
  refine wpOp_value ho rfl (v := a.eval (.tmp 24)) (w' := w) ?_ (h.same (i := 22) (by omega) hγ k)
  simp only [execOp, Sem.run_bind, Sem.run_pure, Result.andThen_ok]

theorem steps {base n : Nat} {w0 : World} {ops : Array Oper} {Q : Exit → Act → World → Prop} (hk : KOps ops) (hn : n ≤ 65536) {listed : Array Bool} {a : Act} {w : World} {i : Nat} (h : KI base n w0 listed a w) (hr : i ∈ Region.ready .any ops listed) :
    wpOp Try.prog ops Q i (fun a' w' => KI base n w0 (listed.setIfInBounds i true) a' w') a w := by
  have hi := (ready_mem.1 hr).1
  rw [hk.size] at hi
  match i, hi, hr with
  | 0, _, hr => exact step0 hk hn h hr
  | 1, _, hr => exact step1 hk hn h hr
  | 2, _, hr => exact step2 hk hn h hr
  | 3, _, hr => exact step3 hk hn h hr
  | 4, _, hr => exact step4 hk hn h hr
  | 5, _, hr => exact step5 hk hn h hr
  | 6, _, hr => exact step6 hk hn h hr
  | 7, _, hr => exact step7 hk hn h hr
  | 8, _, hr => exact step8 hk hn h hr
  | 9, _, hr => exact step9 hk hn h hr
  | 10, _, hr => exact step10 hk hn h hr
  | 11, _, hr => exact step11 hk hn h hr
  | 12, _, hr => exact step12 hk hn h hr
  | 13, _, hr => exact step13 hk hn h hr
  | 14, _, hr => exact step14 hk hn h hr
  | 15, _, hr => exact step15 hk hn h hr
  | 16, _, hr => exact step16 hk hn h hr
  | 17, _, hr => exact step17 hk hn h hr
  | 18, _, hr => exact step18 hk hn h hr
  | 19, _, hr => exact step19 hk hn h hr
  | 20, _, hr => exact step20 hk hn h hr
  | 21, _, hr => exact step21 hk hn h hr
  | 22, _, hr => exact step22 hk hn h hr
  | k + 23, hi, _ => exact absurd hi (by omega)

theorem listed_of {ops : Array Oper} {listed : Array Bool} {i : Nat} {o : Oper} (hops : ops.size = 23) (hs : listed.size = 23) (hr : Region.ready .any ops listed = []) (hi : i < 23) (ho : ops[i]? = some o)
    (hall : (o.after.all fun e => !Region.binds .any e || listed.getD e.on false) = true) : listed[i]?.getD false = true := by
  have hsz : i < listed.size := by omega
  cases hb : listed.getD i true
  · exfalso
    have : i ∈ Region.ready .any ops listed := ready_mem.2 ⟨by omega, hb, by rw [ho]; simpa using hall⟩
    rw [hr] at this
    cases this
  · rw [Array.getD_eq_getD_getElem?] at hb
    simp [hsz] at hb ⊢
    exact hb

theorem KI.all {base n : Nat} {w0 : World} {ops : Array Oper} (hk : KOps ops) {listed : Array Bool} {a : Act} {w : World} (h : KI base n w0 listed a w) (hr : Region.ready .any ops listed = []) : listed.getD 22 true = true := by
  obtain ⟨_, _, q0⟩ := hk.o0
  have l0 := listed_of hk.size h.ls hr (by omega) q0 (by simp [Region.binds])
  obtain ⟨_, _, q1⟩ := hk.o1
  have l1 := listed_of hk.size h.ls hr (by omega) q1 (by simp [Region.binds])
  obtain ⟨_, _, q2⟩ := hk.o2
  have l2 := listed_of hk.size h.ls hr (by omega) q2 (by simp [Region.binds, l1])
  obtain ⟨_, _, q3⟩ := hk.o3
  have l3 := listed_of hk.size h.ls hr (by omega) q3 (by simp [Region.binds])
  obtain ⟨_, _, q4⟩ := hk.o4
  have l4 := listed_of hk.size h.ls hr (by omega) q4 (by simp [Region.binds, l3])
  obtain ⟨_, _, q5⟩ := hk.o5
  have l5 := listed_of hk.size h.ls hr (by omega) q5 (by simp [Region.binds, l4])
  obtain ⟨_, _, q6⟩ := hk.o6
  have l6 := listed_of hk.size h.ls hr (by omega) q6 (by simp [Region.binds, l5])
  obtain ⟨_, _, q7⟩ := hk.o7
  have l7 := listed_of hk.size h.ls hr (by omega) q7 (by simp [Region.binds])
  obtain ⟨_, _, q8⟩ := hk.o8
  have l8 := listed_of hk.size h.ls hr (by omega) q8 (by simp [Region.binds, l2, l6, l7])
  obtain ⟨_, _, q9⟩ := hk.o9
  have l9 := listed_of hk.size h.ls hr (by omega) q9 (by simp [Region.binds, l8])
  obtain ⟨_, _, q10⟩ := hk.o10
  have l10 := listed_of hk.size h.ls hr (by omega) q10 (by simp [Region.binds])
  obtain ⟨_, _, q11⟩ := hk.o11
  have l11 := listed_of hk.size h.ls hr (by omega) q11 (by simp [Region.binds, l10])
  obtain ⟨_, _, q12⟩ := hk.o12
  have l12 := listed_of hk.size h.ls hr (by omega) q12 (by simp [Region.binds])
  obtain ⟨_, _, q13⟩ := hk.o13
  have l13 := listed_of hk.size h.ls hr (by omega) q13 (by simp [Region.binds, l12])
  obtain ⟨_, _, q14⟩ := hk.o14
  have l14 := listed_of hk.size h.ls hr (by omega) q14 (by simp [Region.binds, l13])
  obtain ⟨_, _, q15⟩ := hk.o15
  have l15 := listed_of hk.size h.ls hr (by omega) q15 (by simp [Region.binds, l14])
  obtain ⟨_, _, q16⟩ := hk.o16
  have l16 := listed_of hk.size h.ls hr (by omega) q16 (by simp [Region.binds])
  obtain ⟨_, _, q17⟩ := hk.o17
  have l17 := listed_of hk.size h.ls hr (by omega) q17 (by simp [Region.binds, l11, l15, l16])
  obtain ⟨_, _, q18⟩ := hk.o18
  have l18 := listed_of hk.size h.ls hr (by omega) q18 (by simp [Region.binds, l17])
  obtain ⟨_, _, q19⟩ := hk.o19
  have l19 := listed_of hk.size h.ls hr (by omega) q19 (by simp [Region.binds, l9, l18])
  obtain ⟨_, _, q20⟩ := hk.o20
  have l20 := listed_of hk.size h.ls hr (by omega) q20 (by simp [Region.binds, l0, l19])
  obtain ⟨_, _, q21⟩ := hk.o21
  have l21 := listed_of hk.size h.ls hr (by omega) q21 (by simp [Region.binds, l20])
  obtain ⟨_, _, q22⟩ := hk.o22
  have l22 := listed_of hk.size h.ls hr (by omega) q22 (by simp [Region.binds, l0, l1, l2, l3, l4, l5, l6, l7, l8, l9, l10, l11, l12, l13, l14, l15, l16, l17, l18, l19, l20, l21])
  exact dep h.ls (by omega) l22

theorem keeper_region {base n : Nat} {w0 : World} {ops : Array Oper} {Q : Exit → Act → World → Prop} (hk : KOps ops) (hn : n ≤ 65536) {a : Act} {w : World} (hts : a.tmps.size = 25) (hdf : a.defers = []) (h0 : a.eval (.tmp 0) = .int .i64 n)
    (hb : Below base w0 w) (hbig : base ≤ w.heap.size)
    (hQ : ∀ a' w' γ, a'.tmps.size = 25 → a'.defers = [] → Below base w0 w' → IsProc base n (a'.eval (.tmp 2)) w' γ → Q .normal a' w') : wpAny Try.prog .any ops Q ops.size (Array.replicate ops.size false) a w := by
  refine wpAny_inv (KI base n w0) (fun l a w h => by rw [h.ls, hk.size]) (fun l a w h hr => ?_) (fun l a w i h hr => steps hk hn h hr) _ _ _ _ ?_ ?_
  · obtain ⟨γ, hγ⟩ := h.done
    exact hQ a w γ h.ts h.df h.bel (hγ 22 (by omega) (h.all hk hr))
  · refine ⟨by simp [hk.size], hts, hdf, h0, hb, hbig, fun _ => 0, fun i hi hl => ?_⟩
    rw [hk.size] at hl
    simp [Array.getD_eq_getD_getElem?, hi] at hl
  · rw [hk.size]
    decide

/-- ZZnewKeeper: the processor and its two empty holdings, each in blocks of its own. -/
def NewKeeper (base n : Nat) (w : World) (v : Value) : Prop := ∃ γ, IsProc base n v w γ

set_option maxRecDepth 100000 in
theorem newKeeper_any (n : Nat) (hn : n ≤ 65536) (w : World) :
    Calls Try.prog 6 #[.int .i64 n] w fun e w' => ∃ v, e = .returned v ∧ NewKeeper w.heap.size n w' v ∧ Below w.heap.size w w' := by
  go_enter Try.func6, Try.ntmps6
  go_wp2
  refine wp_region_any (by kernel_rfl) ?_
  refine keeper_region (base := w.heap.size) (n := n) (w0 := w) ⟨rfl, ⟨_, _, rfl⟩, ⟨_, _, rfl⟩, ⟨_, _, rfl⟩, ⟨_, _, rfl⟩, ⟨_, _, rfl⟩, ⟨_, _, rfl⟩, ⟨_, _, rfl⟩, ⟨_, _, rfl⟩, ⟨_, _, rfl⟩, ⟨_, _, rfl⟩, ⟨_, _, rfl⟩, ⟨_, _, rfl⟩, ⟨_, _, rfl⟩, ⟨_, _, rfl⟩, ⟨_, _, rfl⟩, ⟨_, _, rfl⟩, ⟨_, _, rfl⟩, ⟨_, _, rfl⟩, ⟨_, _, rfl⟩, ⟨_, _, rfl⟩, ⟨_, _, rfl⟩, ⟨_, _, rfl⟩, ⟨_, _, rfl⟩⟩ hn rfl rfl rfl ((Below.refl _ w).drew) (Nat.le_refl _) ?_
  intro a' w' γ hts hdf hb hp
  rename_i Q' K hK
  show K a' w'
  refine hK _ _ (wp_ret ?_)
  exact bodyPost_ret (results_tmp rfl _ _ _) hdf ⟨_, rfl, ⟨γ, hp⟩, hb⟩
end Go.Proofs.Qxb6616381a
