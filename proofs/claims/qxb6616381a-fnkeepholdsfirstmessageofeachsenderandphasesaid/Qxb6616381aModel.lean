/-
  seat b6616381a: the plain model: sets of senders as words of 64 bits; what a keeper holds behind a list of messages. No program, no Go.
-/
namespace Go.Proofs.Qxb6616381a
set_option linter.unusedVariables false

/-! ### words -/
def wdTo (P : Nat → Bool) (k : Nat) : Nat → Nat
  | 0 => 0
  | b + 1 => if P (64 * k + b) then wdTo P k b ||| 2 ^ b else wdTo P k b
/-- Word k of the set P. -/
def wd (P : Nat → Bool) (k : Nat) : Nat := wdTo P k 64

theorem wdTo_bit (P : Nat → Bool) (k b i : Nat) : (wdTo P k b).testBit i = (decide (i < b) && P (64 * k + i)) := by
  induction b with
  | zero => simp [wdTo]
  | succ b ih =>
    unfold wdTo
    by_cases h : i = b
    · subst h
      cases hp : P (64 * k + i)
      · simp [ih]
      · simp [ih]
    · have hd : decide (i < b + 1) = decide (i < b) := by
        by_cases h2 : i < b
        · simp [h2, Nat.lt_succ_of_lt h2]
        · have : ¬ i < b + 1 := by omega
          simp [h2, this]
      cases hp : P (64 * k + b)
      · simp [ih, hd]
      · simp [ih, hd, Nat.testBit_two_pow_of_ne (fun e => h e.symm)]

theorem wd_bit (P : Nat → Bool) (k i : Nat) : (wd P k).testBit i = (decide (i < 64) && P (64 * k + i)) := wdTo_bit P k 64 i

theorem wd_lt (P : Nat → Bool) (k : Nat) : wd P k < 18446744073709551616 := by
  have : wd P k < 2 ^ 64 := Nat.lt_pow_two_of_testBit _ fun i hi => by
    rw [wd_bit]
    have : ¬ i < 64 := by omega
    simp [this]
  exact this

theorem wd_congr {P Q : Nat → Bool} (h : ∀ j, P j = Q j) (k : Nat) : wd P k = wd Q k := by
  rw [show P = Q from funext h]

/-- One sender more. -/
theorem wd_add {P Q : Nat → Bool} {j : Nat} (h : ∀ i, Q i = (P i || decide (i = j))) (k : Nat) : wd Q k = if k = j / 64 then wd P k ||| 2 ^ (j % 64) else wd P k := by
  apply Nat.eq_of_testBit_eq
  intro i
  rw [wd_bit, h]
  by_cases hk : k = j / 64
  · rw [if_pos hk, Nat.testBit_or, wd_bit]
    by_cases hi : i = j % 64
    · subst hi
      have h1 : 64 * k + j % 64 = j := by omega
      have h2 : j % 64 < 64 := by omega
      simp [h1, h2]
    · rw [Nat.testBit_two_pow_of_ne (fun e => hi e.symm)]
      by_cases h2 : i < 64
      · have h3 : ¬ 64 * k + i = j := by omega
        simp [h2, h3]
      · simp [h2]
  · rw [if_neg hk, wd_bit]
    by_cases h2 : i < 64
    · have h3 : ¬ 64 * k + i = j := by omega
      simp [h2, h3]
    · simp [h2]

/-! ### what is held of one phase -/
/-- What is held of one phase: by sender, the value of the message. -/
abbrev Hold := Nat → Option ByteArray
def Hold.put (s : Hold) (j : Nat) (v : ByteArray) : Hold := fun i => if i = j then some v else s i
def cnt (s : Hold) : Nat → Nat
  | 0 => 0
  | n + 1 => cnt s n + if (s n).isSome then 1 else 0
theorem cnt_le (s : Hold) (n : Nat) : cnt s n ≤ n := by
  induction n with
  | zero => exact Nat.le_refl _
  | succ n ih => unfold cnt; split <;> omega
theorem cnt_congr {s t : Hold} {n : Nat} (h : ∀ j, j < n → (s j).isSome = (t j).isSome) : cnt s n = cnt t n := by
  induction n with
  | zero => rfl
  | succ n ih =>
    unfold cnt
    rw [ih (fun j hj => h j (by omega)), h n (by omega)]
theorem cnt_put {s : Hold} {j n : Nat} (v : ByteArray) (hj : j < n) (h0 : s j = none) : cnt (s.put j v) n = cnt s n + 1 := by
  induction n with
  | zero => omega
  | succ n ih =>
    unfold cnt
    by_cases h : j = n
    · subst h
      have e : cnt (s.put j v) j = cnt s j := cnt_congr fun i hi => by
        unfold Hold.put
        rw [if_neg (by omega)]
      rw [e]
      simp [Hold.put, h0]
    · rw [ih (by omega)]
      have e : s.put j v n = s n := by
        unfold Hold.put
        rw [if_neg (fun e => h e.symm)]
      rw [e]
      omega

/-- How many senders hold the value v. -/
def vcount (s : Hold) (v : ByteArray) : Nat → Nat
  | 0 => 0
  | n + 1 => vcount s v n + if s n = some v then 1 else 0
theorem vcount_le (s : Hold) (v : ByteArray) (n : Nat) : vcount s v n ≤ cnt s n := by
  induction n with
  | zero => exact Nat.le_refl _
  | succ n ih =>
    unfold vcount cnt
    by_cases h : s n = some v
    · simp [h]; omega
    · simp only [h, if_false]; split <;> omega
theorem vcount_congr {s t : Hold} {v : ByteArray} {n : Nat} (h : ∀ j, j < n → s j = t j) : vcount s v n = vcount t v n := by
  induction n with
  | zero => rfl
  | succ n ih =>
    unfold vcount
    rw [ih (fun j hj => h j (by omega)), h n (by omega)]
theorem vcount_put {s : Hold} {j n : Nat} {v : ByteArray} (u : ByteArray) (hj : j < n) (h0 : s j = none) : vcount (s.put j v) u n = vcount s u n + if v = u then 1 else 0 := by
  induction n with
  | zero => omega
  | succ n ih =>
    unfold vcount
    by_cases h : j = n
    · subst h
      have e : vcount (s.put j v) u j = vcount s u j := vcount_congr fun i hi => by
        unfold Hold.put
        rw [if_neg (by omega)]
      rw [e]
      simp [Hold.put, h0]
    · rw [ih (by omega)]
      have e : s.put j v n = s n := by
        unfold Hold.put
        rw [if_neg (fun e => h e.symm)]
      rw [e]
      omega

/-! ### a keeper behind a list of messages -/
structure Msg where
  id : Int
  ph : Int
  val : ByteArray

/-- Is the message one of phase 'ph' and sender j? -/
def Msg.hits (m : Msg) (ph j : Nat) : Bool := decide (m.ph = ph) && decide (m.id = j)
/-- Behind the messages L, in their order: the first of each phase and sender. -/
def holdOf (n : Nat) (L : List Msg) (ph : Nat) : Hold := fun j => if j < n then (L.find? (fun m => m.hits ph j)).map (·.val) else none

theorem holdOf_nil (n ph : Nat) : holdOf n [] ph = fun _ => none := by
  funext j; simp [holdOf]

/-- Does a keeper of n take the message in, as phase 'ph' and sender j? -/
theorem holdOf_snoc_hit {n : Nat} {L : List Msg} {m : Msg} {ph j : Nat} (hj : j < n) (hm : m.hits ph j = true) (h0 : holdOf n L ph j = none) : holdOf n (L ++ [m]) ph = (holdOf n L ph).put j m.val := by
  funext i
  unfold holdOf Hold.put at *
  rw [if_pos hj] at h0
  simp only [Option.map_eq_none_iff] at h0
  by_cases h : i = j
  · subst h
    rw [if_pos hj, if_pos rfl, List.find?_append, h0]
    simp [hm]
  · rw [if_neg h]
    show (if i < n then Option.map (fun x => x.val) (List.find? (fun m => m.hits ph i) (L ++ [m])) else none) = (if i < n then Option.map (fun x => x.val) (List.find? (fun m => m.hits ph i) L) else none)
    by_cases hi : i < n
    · rw [if_pos hi, if_pos hi, List.find?_append]
      have hne : m.hits ph i = false := by
        simp only [Msg.hits, Bool.and_eq_true, decide_eq_true_eq] at hm
        simp only [Msg.hits, Bool.and_eq_false_iff, decide_eq_false_iff_not]
        right; omega
      simp [hne]
    · rw [if_neg hi, if_neg hi]
theorem holdOf_snoc_miss {n : Nat} {L : List Msg} {m : Msg} {ph : Nat} (h : ∀ j, j < n → m.hits ph j = true → (holdOf n L ph j).isSome = true) : holdOf n (L ++ [m]) ph = holdOf n L ph := by
  funext i
  by_cases hi : i < n
  · have h' := h i hi
    unfold holdOf at *
    rw [if_pos hi] at h' ⊢
    rw [if_pos hi, List.find?_append]
    cases hf : L.find? (fun m => m.hits ph i)
    · cases hm : m.hits ph i
      · simp [hm]
      · have := h' hm
        simp [hf] at this
    · simp
  · unfold holdOf
    rw [if_neg hi, if_neg hi]

end Go.Proofs.Qxb6616381a
