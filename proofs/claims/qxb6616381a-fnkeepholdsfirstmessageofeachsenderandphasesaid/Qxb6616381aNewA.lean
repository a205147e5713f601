/-
  seat b6616381a: ZZnewKeeper: one region of 23 operations, 8 blocks in whatever order, then the ninth.
-/
import Derived.Test.Qxb6616381aOrders
namespace Go.Proofs.Qxb6616381a
open Go.RowKit
set_option linter.unusedVariables false

/-- The region's operations, as the walk shows them. -/
structure KOps (ops : Array Oper) : Prop where
  size : ops.size = 23
  o0 : ∃ ty pos, ops[0]? = some { dst := some 3, op := Op.move (Operand.tmp 0), type := ty, pos := pos, after := #[], guard := none }
  o1 : ∃ ty pos, ops[1]? = some { dst := some 4, op := Op.move (Operand.tmp 0), type := ty, pos := pos, after := #[], guard := none }
  o2 : ∃ ty pos, ops[2]? = some { dst := some 5, op := Op.makeSlice 43 (Operand.tmp 4) (Operand.tmp 4), type := ty, pos := pos, after := #[{ on := 1, ground := Ground.data }, { on := 1, ground := Ground.data }], guard := none }
  o3 : ∃ ty pos, ops[3]? = some { dst := some 6, op := Op.move (Operand.tmp 0), type := ty, pos := pos, after := #[], guard := none }
  o4 : ∃ ty pos, ops[4]? = some { dst := some 7, op := Op.binOp BinOp.add 3 (Operand.tmp 6) (Operand.const (Value.int IntKind.i64 63)) 3, type := ty, pos := pos, after := #[{ on := 3, ground := Ground.data }], guard := none }
  o5 : ∃ ty pos, ops[5]? = some { dst := some 8, op := Op.binOp BinOp.quo 3 (Operand.tmp 7) (Operand.const (Value.int IntKind.i64 64)) 3, type := ty, pos := pos, after := #[{ on := 4, ground := Ground.data }], guard := none }
  o6 : ∃ ty pos, ops[6]? = some { dst := some 9, op := Op.makeSlice 46 (Operand.tmp 8) (Operand.tmp 8), type := ty, pos := pos, after := #[{ on := 5, ground := Ground.data }, { on := 5, ground := Ground.data }], guard := none }
  o7 : ∃ ty pos, ops[7]? = some { dst := some 10, op := Op.makeMap 47 none, type := ty, pos := pos, after := #[], guard := none }
  o8 : ∃ ty pos, ops[8]? = some { dst := some 11, op := Op.build 49 #[(0, Operand.tmp 5), (1, Operand.tmp 9), (3, Operand.tmp 10)], type := ty, pos := pos, after := #[{ on := 2, ground := Ground.data }, { on := 6, ground := Ground.data }, { on := 7, ground := Ground.data }], guard := none }
  o9 : ∃ ty pos, ops[9]? = some { dst := some 12, op := Op.box 49 (Operand.tmp 11), type := ty, pos := pos, after := #[{ on := 8, ground := Ground.data }], guard := none }
  o10 : ∃ ty pos, ops[10]? = some { dst := some 13, op := Op.move (Operand.tmp 0), type := ty, pos := pos, after := #[], guard := none }
  o11 : ∃ ty pos, ops[11]? = some { dst := some 14, op := Op.makeSlice 43 (Operand.tmp 13) (Operand.tmp 13), type := ty, pos := pos, after := #[{ on := 10, ground := Ground.data }, { on := 10, ground := Ground.data }], guard := none }
  o12 : ∃ ty pos, ops[12]? = some { dst := some 15, op := Op.move (Operand.tmp 0), type := ty, pos := pos, after := #[], guard := none }
  o13 : ∃ ty pos, ops[13]? = some { dst := some 16, op := Op.binOp BinOp.add 3 (Operand.tmp 15) (Operand.const (Value.int IntKind.i64 63)) 3, type := ty, pos := pos, after := #[{ on := 12, ground := Ground.data }], guard := none }
  o14 : ∃ ty pos, ops[14]? = some { dst := some 17, op := Op.binOp BinOp.quo 3 (Operand.tmp 16) (Operand.const (Value.int IntKind.i64 64)) 3, type := ty, pos := pos, after := #[{ on := 13, ground := Ground.data }], guard := none }
  o15 : ∃ ty pos, ops[15]? = some { dst := some 18, op := Op.makeSlice 46 (Operand.tmp 17) (Operand.tmp 17), type := ty, pos := pos, after := #[{ on := 14, ground := Ground.data }, { on := 14, ground := Ground.data }], guard := none }
  o16 : ∃ ty pos, ops[16]? = some { dst := some 19, op := Op.makeMap 47 none, type := ty, pos := pos, after := #[], guard := none }
  o17 : ∃ ty pos, ops[17]? = some { dst := some 20, op := Op.build 49 #[(0, Operand.tmp 14), (1, Operand.tmp 18), (3, Operand.tmp 19)], type := ty, pos := pos, after := #[{ on := 11, ground := Ground.data }, { on := 15, ground := Ground.data }, { on := 16, ground := Ground.data }], guard := none }
  o18 : ∃ ty pos, ops[18]? = some { dst := some 21, op := Op.box 49 (Operand.tmp 20), type := ty, pos := pos, after := #[{ on := 17, ground := Ground.data }], guard := none }
  o19 : ∃ ty pos, ops[19]? = some { dst := some 22, op := Op.build 50 #[(0, Operand.tmp 12), (1, Operand.tmp 21)], type := ty, pos := pos, after := #[{ on := 9, ground := Ground.data }, { on := 18, ground := Ground.data }], guard := none }
  o20 : ∃ ty pos, ops[20]? = some { dst := some 23, op := Op.build 56 #[(1, Operand.tmp 3), (7, Operand.tmp 22)], type := ty, pos := pos, after := #[{ on := 0, ground := Ground.data }, { on := 19, ground := Ground.data }], guard := none }
  o21 : ∃ ty pos, ops[21]? = some { dst := some 24, op := Op.box 56 (Operand.tmp 23), type := ty, pos := pos, after := #[{ on := 20, ground := Ground.data }], guard := none }
  o22 : ∃ ty pos, ops[22]? = some { dst := some 2, op := Op.assign (Operand.tmp 24), type := ty, pos := pos, after := #[{ on := 21, ground := Ground.data }, { on := 0, ground := Ground.phase }, { on := 1, ground := Ground.phase }, { on := 2, ground := Ground.phase }, { on := 3, ground := Ground.phase }, { on := 4, ground := Ground.phase }, { on := 5, ground := Ground.phase }, { on := 6, ground := Ground.phase }, { on := 7, ground := Ground.phase }, { on := 8, ground := Ground.phase }, { on := 9, ground := Ground.phase }, { on := 10, ground := Ground.phase }, { on := 11, ground := Ground.phase }, { on := 12, ground := Ground.phase }, { on := 13, ground := Ground.phase }, { on := 14, ground := Ground.phase }, { on := 15, ground := Ground.phase }, { on := 16, ground := Ground.phase }, { on := 17, ground := Ground.phase }, { on := 18, ground := Ground.phase }, { on := 19, ground := Ground.phase }, { on := 20, ground := Ground.phase }, { on := 21, ground := Ground.phase }], guard := none }

/-! ### What each operation leaves -/
def Blk (base : Nat) (w : World) (γ : Nat → Nat) (g i : Nat) (o : Obj) : Prop := base ≤ g ∧ w.heap[g]? = some o ∧ γ g = i
def upd (γ : Nat → Nat) (k i : Nat) : Nat → Nat := fun x => if x = k then i else γ x
theorem Blk.alloc {base : Nat} {w : World} {γ : Nat → Nat} {g i : Nat} {o : Obj} (h : Blk base w γ g i o) (o' : Obj) (t : Nat) : Blk base (w.alloc o') (upd γ w.heap.size t) g i o := by
  obtain ⟨h1, h2, h3⟩ := h
  have hlt := lt_of_block h2
  refine ⟨h1, (Below.heap_alloc w o' g hlt).trans h2, ?_⟩
  unfold upd
  rw [if_neg (by omega)]
  exact h3
theorem Blk.new {base : Nat} (w : World) (γ : Nat → Nat) (i : Nat) (o : Obj) (hb : base ≤ w.heap.size) : Blk base (w.alloc o) (upd γ w.heap.size i) w.heap.size i o :=
  ⟨hb, heap_alloc_new w o, by simp [upd]⟩

def words (n : Nat) : Nat := (n + 63) / 64
def byRow (n : Nat) : Obj := .cells (madeCells #[Value.pointer none] (n * 1)) 30
def fromRow (n : Nat) : Obj := .cells (madeCells #[Value.int .u64 0] (words n * 1)) 42
def IsBy (base n : Nat) (v : Value) (w : World) (γ : Nat → Nat) (i : Nat) : Prop := ∃ g, v = .slice (some ⟨g, 0, none⟩) n n ∧ Blk base w γ g i (byRow n)
def IsFrom (base n : Nat) (v : Value) (w : World) (γ : Nat → Nat) (i : Nat) : Prop := ∃ g, v = .slice (some ⟨g, 0, none⟩) (words n) (words n) ∧ Blk base w γ g i (fromRow n)
def IsMap (base : Nat) (v : Value) (w : World) (γ : Nat → Nat) (i : Nat) : Prop := ∃ g, v = .map (some g) ∧ Blk base w γ g i (.map #[] 0)
def Parts3 (base n : Nat) (v0 v1 v2 : Value) (w : World) (γ : Nat → Nat) (i j k : Nat) : Prop := IsBy base n v0 w γ i ∧ IsFrom base n v1 w γ j ∧ IsMap base v2 w γ k
def IsAgg (base n : Nat) (v : Value) (w : World) (γ : Nat → Nat) (i j k : Nat) : Prop := ∃ v0 v1 v2, v = .agg #[v0, v1, .int .i64 0, v2, .pointer none] ∧ Parts3 base n v0 v1 v2 w γ i j k
def IsHeld (base n : Nat) (v : Value) (w : World) (γ : Nat → Nat) (i j k l : Nat) : Prop := ∃ h v0 v1 v2, v = .pointer (some ⟨h, 0, none⟩) ∧ Blk base w γ h l (.cells #[v0, v1, .int .i64 0, v2, .pointer none] 49) ∧ Parts3 base n v0 v1 v2 w γ i j k
def procCells (n : Nat) (x y : Value) : Array Value := #[.int .i64 0, .int .i64 n, .int .i64 0, .int .i64 0, .int .i64 0, .string ⟨#[]⟩, .int .i64 0, x, y, .string ⟨#[]⟩, .pointer none, .pointer none, .int .i64 0, .string ⟨#[]⟩, .string ⟨#[]⟩]
def Two (base n : Nat) (x y : Value) (w : World) (γ : Nat → Nat) : Prop := IsHeld base n x w γ 2 6 7 9 ∧ IsHeld base n y w γ 11 15 16 18
def IsProc (base n : Nat) (v : Value) (w : World) (γ : Nat → Nat) : Prop := ∃ p x y, v = .pointer (some ⟨p, 0, none⟩) ∧ Blk base w γ p 21 (.cells (procCells n x y) 56) ∧ Two base n x y w γ

def Phi (base n : Nat) (i : Nat) (v : Value) (w : World) (γ : Nat → Nat) : Prop :=
  match i with
  | 0 | 1 | 3 | 10 | 12 => v = .int .i64 n
  | 4 | 13 => v = .int .i64 (n + 63 : Nat)
  | 5 | 14 => v = .int .i64 (words n)
  | 2 => IsBy base n v w γ 2
  | 11 => IsBy base n v w γ 11
  | 6 => IsFrom base n v w γ 6
  | 15 => IsFrom base n v w γ 15
  | 7 => IsMap base v w γ 7
  | 16 => IsMap base v w γ 16
  | 8 => IsAgg base n v w γ 2 6 7
  | 17 => IsAgg base n v w γ 11 15 16
  | 9 => IsHeld base n v w γ 2 6 7 9
  | 18 => IsHeld base n v w γ 11 15 16 18
  | 19 => ∃ x y, v = .agg #[x, y] ∧ Two base n x y w γ
  | 20 => ∃ x y, v = .agg (procCells n x y) ∧ Two base n x y w γ
  | 21 | 22 => IsProc base n v w γ
  | _ => True

theorem IsBy.alloc {base n : Nat} {v : Value} {w : World} {γ : Nat → Nat} {i : Nat} (h : IsBy base n v w γ i) (o : Obj) (t : Nat) : IsBy base n v (w.alloc o) (upd γ w.heap.size t) i := by
  obtain ⟨g, h1, h2⟩ := h; exact ⟨g, h1, h2.alloc o t⟩
theorem IsFrom.alloc {base n : Nat} {v : Value} {w : World} {γ : Nat → Nat} {i : Nat} (h : IsFrom base n v w γ i) (o : Obj) (t : Nat) : IsFrom base n v (w.alloc o) (upd γ w.heap.size t) i := by
  obtain ⟨g, h1, h2⟩ := h; exact ⟨g, h1, h2.alloc o t⟩
theorem IsMap.alloc {base : Nat} {v : Value} {w : World} {γ : Nat → Nat} {i : Nat} (h : IsMap base v w γ i) (o : Obj) (t : Nat) : IsMap base v (w.alloc o) (upd γ w.heap.size t) i := by
  obtain ⟨g, h1, h2⟩ := h; exact ⟨g, h1, h2.alloc o t⟩
theorem Parts3.alloc {base n : Nat} {v0 v1 v2 : Value} {w : World} {γ : Nat → Nat} {i j k : Nat} (h : Parts3 base n v0 v1 v2 w γ i j k) (o : Obj) (t : Nat) : Parts3 base n v0 v1 v2 (w.alloc o) (upd γ w.heap.size t) i j k :=
  ⟨h.1.alloc o t, h.2.1.alloc o t, h.2.2.alloc o t⟩
theorem IsHeld.alloc {base n : Nat} {v : Value} {w : World} {γ : Nat → Nat} {i j k l : Nat} (h : IsHeld base n v w γ i j k l) (o : Obj) (t : Nat) : IsHeld base n v (w.alloc o) (upd γ w.heap.size t) i j k l := by
  obtain ⟨g, v0, v1, v2, h1, h2, h3⟩ := h; exact ⟨g, v0, v1, v2, h1, h2.alloc o t, h3.alloc o t⟩
theorem Two.alloc {base n : Nat} {x y : Value} {w : World} {γ : Nat → Nat} (h : Two base n x y w γ) (o : Obj) (t : Nat) : Two base n x y (w.alloc o) (upd γ w.heap.size t) := ⟨h.1.alloc o t, h.2.alloc o t⟩

theorem Phi.alloc {base n i : Nat} {v : Value} {w : World} {γ : Nat → Nat} (h : Phi base n i v w γ) (o : Obj) (t : Nat) : Phi base n i v (w.alloc o) (upd γ w.heap.size t) := by
  unfold Phi at h ⊢
  split <;> try exact h
  · exact IsBy.alloc h o t
  · exact IsBy.alloc h o t
  · exact IsFrom.alloc h o t
  · exact IsFrom.alloc h o t
  · exact IsMap.alloc h o t
  · exact IsMap.alloc h o t
  · obtain ⟨v0, v1, v2, h1, h2⟩ := h; exact ⟨v0, v1, v2, h1, h2.alloc o t⟩
  · obtain ⟨v0, v1, v2, h1, h2⟩ := h; exact ⟨v0, v1, v2, h1, h2.alloc o t⟩
  · exact IsHeld.alloc h o t
  · exact IsHeld.alloc h o t
  · obtain ⟨x, y, h1, h2⟩ := h; exact ⟨x, y, h1, h2.alloc o t⟩
  · obtain ⟨x, y, h1, h2⟩ := h; exact ⟨x, y, h1, h2.alloc o t⟩
  · obtain ⟨p, x, y, h1, h2, h3⟩ := h; exact ⟨p, x, y, h1, h2.alloc o t, h3.alloc o t⟩
  · obtain ⟨p, x, y, h1, h2, h3⟩ := h; exact ⟨p, x, y, h1, h2.alloc o t, h3.alloc o t⟩
  · trivial

def dstOf (i : Nat) : Nat := if i = 22 then 2 else i + 3

/-- All that has been carried out has left what it should. -/
def Done (base n : Nat) (listed : Array Bool) (a : Act) (w : World) (γ : Nat → Nat) : Prop := ∀ i, i < 23 → listed.getD i true = true → Phi base n i (a.eval (.tmp (dstOf i))) w γ

structure KI (base n : Nat) (w0 : World) (listed : Array Bool) (a : Act) (w : World) : Prop where
  ls : listed.size = 23
  ts : a.tmps.size = 25
  df : a.defers = []
  t0 : a.eval (.tmp 0) = .int .i64 n
  bel : Below base w0 w
  big : base ≤ w.heap.size
  done : ∃ γ, Done base n listed a w γ

theorem put_eval {a : Act} (hs : a.tmps.size = 25) {d k : Nat} (hd : d < 25) (v : Value) : (a.put (some d) v).eval (.tmp k) = if k = d then v else a.eval (.tmp k) := by
  simp only [Act.put, Act.eval, Array.getD_eq_getD_getElem?, Array.getElem?_setIfInBounds]
  by_cases h : d = k
  · subst h; simp [show d < a.tmps.size by omega]
  · rw [if_neg h, if_neg (fun e => h e.symm)]

theorem dst_inj {i j : Nat} (hi : i < 23) (hj : j < 23) (h : dstOf i = dstOf j) : i = j := by
  unfold dstOf at h
  split at h <;> split at h <;> omega
theorem dst_lt {i : Nat} (hi : i < 23) : dstOf i < 25 := by unfold dstOf; split <;> omega
theorem dst_pos {i : Nat} : 0 ≠ dstOf i := by unfold dstOf; split <;> omega

theorem KI.same {base n : Nat} {w0 : World} {listed : Array Bool} {a : Act} {w : World} (h : KI base n w0 listed a w) {i : Nat} (hi : i < 23) {v : Value} {γ : Nat → Nat} (hd : Done base n listed a w γ) (hv : Phi base n i v w γ) :
    KI base n w0 (listed.setIfInBounds i true) (a.put (some (dstOf i)) v) w := by
  refine ⟨by simpa using h.ls, by simpa [Act.put] using h.ts, by simpa [Act.put] using h.df, ?_, h.bel, h.big, γ, fun j hj hl => ?_⟩
  · rw [put_eval h.ts (dst_lt hi), if_neg dst_pos]; exact h.t0
  · rw [put_eval h.ts (dst_lt hi)]
    by_cases e : j = i
    · subst e; rw [if_pos rfl]; exact hv
    · rw [if_neg (fun e' => e (dst_inj hj hi e'))]
      rw [getD_set (by rw [h.ls]; exact hi), if_neg e] at hl
      exact hd j hj hl

theorem KI.grown {base n : Nat} {w0 : World} {listed : Array Bool} {a : Act} {w : World} (h : KI base n w0 listed a w) {i : Nat} (hi : i < 23) {v : Value} {o : Obj} {γ : Nat → Nat} (hd : Done base n listed a w γ)
    (hv : Phi base n i v (w.alloc o) (upd γ w.heap.size i)) : KI base n w0 (listed.setIfInBounds i true) (a.put (some (dstOf i)) v) (w.alloc o) := by
  refine ⟨by simpa using h.ls, by simpa [Act.put] using h.ts, by simpa [Act.put] using h.df, ?_, h.bel.alloc h.big o, by have := h.big; simp; omega, upd γ w.heap.size i, fun j hj hl => ?_⟩
  · rw [put_eval h.ts (dst_lt hi), if_neg dst_pos]; exact h.t0
  · rw [put_eval h.ts (dst_lt hi)]
    by_cases e : j = i
    · subst e; rw [if_pos rfl]; exact hv
    · rw [if_neg (fun e' => e (dst_inj hj hi e'))]
      rw [getD_set (by rw [h.ls]; exact hi), if_neg e] at hl
      exact (hd j hj hl).alloc o i
end Go.Proofs.Qxb6616381a
