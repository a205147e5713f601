/-
  seat b6616381a: a rule for a region that draws its order and makes many blocks: ONE INVARIANT over what has been carried out, one lemma an operation, in the place of one goal an order.
-/
import Derived.Test.Qxb6616381aRows
import Derived.WalkKit
import Derived.WalkLawsBesides
import Derived.WalkSpells
import Derived.RegionTactic
namespace Go.Proofs.Qxb6616381a
open Go.RowKit
set_option linter.unusedVariables false

theorem ready_mem {md : Region.Mode} {ops : Array Oper} {listed : Array Bool} {i : Nat} : i ∈ Region.ready md ops listed ↔
    i < ops.size ∧ listed.getD i true = false ∧ ((ops[i]?).map (·.after.all fun e => !Region.binds md e || listed.getD e.on false)).getD false = true := by
  simp [Region.ready]

theorem getD_set {listed : Array Bool} {i k : Nat} (hi : i < listed.size) : (listed.setIfInBounds i true).getD k true = if k = i then true else listed.getD k true := by
  simp only [Array.getD_eq_getD_getElem?, Array.getElem?_setIfInBounds]
  by_cases h : i = k
  · subst h; simp [hi]
  · rw [if_neg h, if_neg (fun e => h e.symm)]

theorem wpAny_inv {P : Program} {md : Region.Mode} {ops : Array Oper} {Q : Exit → Act → World → Prop} (I : Array Bool → Act → World → Prop)
    (hsize : ∀ listed a w, I listed a w → listed.size = ops.size)
    (hend : ∀ listed a w, I listed a w → Region.ready md ops listed = [] → Q .normal a w)
    (hstep : ∀ listed a w i, I listed a w → i ∈ Region.ready md ops listed → wpOp P ops Q i (fun a' w' => I (listed.setIfInBounds i true) a' w') a w) :
    ∀ (fuel : Nat) (listed : Array Bool) (a : Act) (w : World), I listed a w → listed.toList.countP (fun b => !b) ≤ fuel → wpAny P md ops Q fuel listed a w := by
  intro fuel
  induction fuel with
  | zero =>
    intro listed a w hI hc
    have hr : Region.ready md ops listed = [] := by
      rw [List.eq_nil_iff_forall_not_mem]
      intro i hi
      obtain ⟨h1, h2, _⟩ := ready_mem.1 hi
      have hs := hsize _ _ _ hI
      have hl : i < listed.toList.length := by simp; omega
      have h0 : listed.toList.countP (fun b => !b) = 0 := by omega
      rw [List.countP_eq_zero] at h0
      have := h0 _ (List.getElem_mem hl)
      simp [Array.getD_eq_getD_getElem?, show i < listed.size by omega] at h2 this
      simp [h2] at this
    exact ⟨hr, hend _ _ _ hI hr⟩
  | succ fuel ih =>
    intro listed a w hI hc
    refine ⟨hend _ _ _ hI, fun i hi => wpOp_mono (fun a' w' h' => ih _ a' w' h' ?_) (hstep _ _ _ i hI hi)⟩
    obtain ⟨h1, h2, _⟩ := ready_mem.1 hi
    have hs := hsize _ _ _ hI
    have hl : i < listed.toList.length := by simp; omega
    rw [Array.toList_setIfInBounds, List.countP_set hl]
    have hf : listed.toList[i] = false := by
      simp [Array.getD_eq_getD_getElem?, show i < listed.size by omega] at h2
      simpa using h2
    rw [hf]
    have hpos : 0 < listed.toList.countP (fun b => !b) := List.countP_pos_iff.2 ⟨listed.toList[i], List.getElem_mem hl, by simp [hf]⟩
    simp only [Bool.not_false, Bool.not_true, if_true, Bool.false_eq_true, if_false]
    omega

/-- An operation that yields a value. -/
theorem wpOp_value {P : Program} {ops : Array Oper} {Q : Exit → Act → World → Prop} {i : Nat} {o : Oper} {K : Act → World → Prop} {a : Act} {w w' : World} {v : Value} (ho : ops[i]? = some o) (hg : o.guard = none)
    (hrun : (execOp a.eval o).run P w = .ok (.value v) w') (hK : K (a.put o.dst v) w') : wpOp P ops Q i K a w := by
  unfold wpOp
  rw [ho]
  simp only [Region.wanted, hg, if_true]
  exact .inl (by unfold Oper.wp; rw [hrun]; exact hK)

end Go.Proofs.Qxb6616381a
