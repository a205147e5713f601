/-
  seat b6616381a: two maps that count the same holding are as long as one another.
-/
import Derived.Test.Qxb6616381aHeld
import Derived.Maps.Ext
import Derived.Maps.Range
namespace Go.Proofs.Qxb6616381a
open Go.RowKit Go.Maps Go.WideMaps
set_option linter.unusedVariables false

theorem key_string {w : World} {R : Value → Option (DataW Unit × List MemPlace)} {b n : Nat} {D : DataW Unit} (h : w.ownsMap Try.prog 9 R b n D) {k : Lit} (hk : Maps.has D k = true) : ∃ v : ByteArray, k = keyL v := by
  obtain ⟨es, clock, _, F, _, rfl⟩ := h
  rw [Maps.has_eq, List.any_eq_true] at hk
  obtain ⟨p, hp, hs⟩ := hk
  have hpk := WideAt.sameKey_eq hs
  rw [mem_sorted] at hp
  obtain ⟨x, hx, rfl⟩ := List.mem_map.1 hp
  obtain ⟨y, hy⟩ := F.reads x hx
  rw [WideElems.rg_of hy] at hpk
  obtain ⟨s, _, hl, _⟩ := string_of_keyOf Try.underlying9 (WideElems.rd_key hy)
  exact ⟨s, by rw [← hpk, hl]; rfl⟩

theorem atKey_any {D : DataW Unit} {k : Lit} (h : Maps.has D k = true) (z z' : DataW Unit) : D.atKey k z = D.atKey k z' := by
  cases D <;> simp only [Maps.has, Bool.false_eq_true] at h
  rename_i es
  unfold DataW.atKey
  simp only
  cases hf : es.find? (fun p => p.1.sameKey k)
  · rw [List.find?_eq_none] at hf
    rw [List.any_eq_true] at h
    obtain ⟨p, hp, hs⟩ := h
    exact absurd hs (hf p hp)
  · rfl

theorem counts_eq {w1 w2 : World} {R : Value → Option (DataW Unit × List MemPlace)} {b1 b2 n1 n2 n : Nat} {D1 D2 : DataW Unit} {s : Hold} (h1 : w1.ownsMap Try.prog 9 R b1 n1 D1) (h2 : w2.ownsMap Try.prog 9 R b2 n2 D2) (c1 : Counts D1 s n) (c2 : Counts D2 s n) : D1 = D2 := by
  have hh : ∀ v, Maps.has D1 (keyL v) = Maps.has D2 (keyL v) := fun v => (c1 v).2.trans (c2 v).2.symm
  refine Maps.ext (h1.canon law9) (h2.canon law9) (fun k => ?_) (fun k z hk => ?_)
  · cases e1 : Maps.has D1 k
    · cases e2 : Maps.has D2 k
      · rfl
      · obtain ⟨v, rfl⟩ := key_string h2 e2
        rw [← hh v, e1] at e2
        exact e2
    · obtain ⟨v, rfl⟩ := key_string h1 e1
      rw [← hh v, e1]
  · obtain ⟨v, rfl⟩ := key_string h1 hk
    rw [atKey_any hk z (.lit (.int .i64 0)), atKey_any ((hh v).symm.trans hk) z (.lit (.int .i64 0)), (c1 v).1, (c2 v).1]

/-- No more is counted where nothing is held. -/
theorem counts_none {D : DataW Unit} {s : Hold} {j : Nat} (h : Counts D s j) (h0 : s j = none) : Counts D s (j + 1) := fun v => by
  have e : vcount s v (j + 1) = vcount s v j := by show vcount s v j + _ = _; rw [h0]; simp
  rw [e]; exact h v
/-- One more. -/
theorem counts_some {D : DataW Unit} {s : Hold} {j : Nat} {v : ByteArray} (h : Counts D s j) (hmap : Maps.IsMap D) (h0 : s j = some v) : Counts (D.put (keyL v) (.lit (.int .i64 ((vcount s v j : Int) + 1)))) s (j + 1) := fun u => by
  have e : vcount s u (j + 1) = vcount s u j + if v = u then 1 else 0 := by show vcount s u j + _ = _; rw [h0]; simp
  rw [e]
  by_cases e : v = u
  · subst e
    rw [Maps.atKey_put_same (k := keyL v) hmap trivial, Maps.has_put_same (k := keyL v) hmap trivial, if_pos rfl]
    exact ⟨by simp, by simp⟩
  · have hne : keyL u ≠ keyL v := by
      intro he
      simp only [keyL, Lit.string.injEq] at he
      apply e
      have := congrArg List.toArray he
      simp at this
      cases v; cases u; simp_all
    rw [Maps.atKey_put_other hne, Maps.has_put_other hne, if_neg e, Nat.add_zero]
    exact h u
theorem counts_start (s : Hold) : Counts (.map []) s 0 := fun v => ⟨rfl, rfl⟩

theorem bit_word (y m : Nat) (hy : y < 18446744073709551616) : (bits BinOp.and IntKind.u64 ((y : Int) / 2 ^ m) 1 == 1) = y.testBit m := by
  have e : ((y : Int) / 2 ^ m) = ((y / 2 ^ m : Nat) : Int) := by simp
  have h1 : y / 2 ^ m ≤ y := Nat.div_le_self _ _
  rw [e, Nat.testBit_eq_decide_div_mod_eq]
  clear e
  generalize y / 2 ^ m = q at h1
  rw [and_one_u64 _ (by omega) (by omega)]
  have : ((q : Nat) : Int) % 2 = ((q % 2 : Nat) : Int) := by simp
  rw [this]
  generalize q % 2 = t
  by_cases ht : t = 1
  · subst ht; rfl
  · have : ¬ ((t : Int) = 1) := by omega
    simp [ht, this]
end Go.Proofs.Qxb6616381a
