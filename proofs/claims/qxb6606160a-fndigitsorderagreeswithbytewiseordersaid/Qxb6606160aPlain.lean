/-
  THE PLAIN LAWS OF THE SEAT: no Go in sight: lists of integers.
-/
namespace Go.Proofs.Qxb6606160a.Plain

/-- What 'digits' reckons of a row of digits. -/
def dval (l : List Int) : Int := l.foldl (fun n c => 10 * n + (c - 48)) 0
def isD (c : Int) : Bool := decide (48 ≤ c) && decide (c ≤ 57)
def dall (l : List Int) : Bool := l.all isD
/-- What 'digits' answers. -/
def digF (l : List Int) : Int := if l.length = 0 ∨ 9 < l.length ∨ dall l = false then -1 else dval l

theorem snocInd {P : List Int → Prop} (h0 : P []) (h1 : ∀ l c, P l → P (l ++ [c])) (l : List Int) : P l := by
  have h : ∀ r : List Int, P r.reverse := by
    intro r
    induction r with
    | nil => exact h0
    | cons c r ih => rw [List.reverse_cons]; exact h1 _ _ ih
  have := h l.reverse
  rwa [List.reverse_reverse] at this

theorem dval_snoc (l : List Int) (c : Int) : dval (l ++ [c]) = 10 * dval l + (c - 48) := by
  simp [dval, List.foldl_append]
theorem dall_snoc (l : List Int) (c : Int) : dall (l ++ [c]) = (dall l && isD c) := by
  simp [dall]
theorem isD_iff (c : Int) : isD c = true ↔ 48 ≤ c ∧ c ≤ 57 := by simp [isD]
theorem take_succ (l : List Int) (k : Nat) (h : k < l.length) : l.take (k + 1) = l.take k ++ [l.getD k 0] := by
  rw [List.take_succ_eq_append_getElem h]
  simp [List.getD, h]
/-- A power of ten, as an integer. -/
def ten (k : Nat) : Int := (10 : Int) ^ k
theorem ten_zero : ten 0 = 1 := rfl
theorem ten_succ (k : Nat) : ten (k + 1) = 10 * ten k := by unfold ten; rw [Int.pow_succ]; omega
theorem ten_pos (k : Nat) : 0 < ten k := by
  induction k with
  | zero => decide
  | succ k ih => rw [ten_succ]; omega
theorem ten_le (k : Nat) (h : k ≤ 9) : ten k ≤ 1000000000 := by
  have : k = 0 ∨ k = 1 ∨ k = 2 ∨ k = 3 ∨ k = 4 ∨ k = 5 ∨ k = 6 ∨ k = 7 ∨ k = 8 ∨ k = 9 := by omega
  rcases this with rfl | rfl | rfl | rfl | rfl | rfl | rfl | rfl | rfl | rfl <;> decide
theorem dval_bd (l : List Int) : dall l = true → 0 ≤ dval l ∧ dval l < ten l.length := by
  refine snocInd (P := fun l => dall l = true → 0 ≤ dval l ∧ dval l < ten l.length) ?_ ?_ l
  · intro _; simp [dval, ten]
  · intro l c ih h
    rw [dall_snoc, Bool.and_eq_true, isD_iff] at h
    rw [dval_snoc, List.length_append, List.length_singleton, ten_succ]
    have := ih h.1
    omega

/-! ### PLACE VALUES -/
/-- The sum of the digits times their place values, of the last 'k' of a row, as the model gathers it from the right. -/
def pval : List Int → Int
  | [] => 0
  | c :: r => pval r + (c - 48) * ten r.length
theorem dval_acc (l : List Int) (a : Int) : l.foldl (fun n c => 10 * n + (c - 48)) a = a * ten l.length + pval l := by
  induction l generalizing a with
  | nil => simp [pval, ten]
  | cons c r ih =>
    rw [List.foldl_cons, ih, pval, List.length_cons, ten_succ, Int.add_mul, Int.mul_comm 10 a, Int.mul_assoc]
    omega
theorem dval_eq_pval (l : List Int) : dval l = pval l := by
  unfold dval; rw [dval_acc]; omega
theorem pval_bd (l : List Int) (h : dall l = true) : 0 ≤ pval l ∧ pval l < ten l.length := by
  rw [← dval_eq_pval]; exact dval_bd l h

/-! ### THE SPELLING OF A NUMBER -/
/-- The digit of place k of n, as a byte. -/
def dig (n : Int) (k : Nat) : Int := 48 + (n / ten k) % 10
theorem dig_bd (n : Int) (k : Nat) : 48 ≤ dig n k ∧ dig n k ≤ 57 := by unfold dig; omega
theorem div_ten_succ (n : Int) (k : Nat) : n / ten (k + 1) = n / ten k / 10 := by
  rw [ten_succ, Int.mul_comm, Int.ediv_ediv_of_nonneg]
  exact Int.le_of_lt (ten_pos k)
/-- The text of n at K places: the greatest place first. -/
def spell (n : Int) : Nat → List Int
  | 0 => []
  | K + 1 => dig n K :: spell n K
theorem spell_length (n : Int) (K : Nat) : (spell n K).length = K := by
  induction K with
  | zero => rfl
  | succ K ih => simp [spell, ih]
theorem spell_all (n : Int) (K : Nat) : dall (spell n K) = true := by
  induction K with
  | zero => rfl
  | succ K ih =>
    simp only [spell, dall, List.all_cons, Bool.and_eq_true]
    exact ⟨(isD_iff _).2 (dig_bd n K), ih⟩
theorem spell_pval (n : Int) (K : Nat) : pval (spell n K) = n - n / ten K * ten K := by
  induction K with
  | zero => simp [spell, pval, ten]
  | succ K ih =>
    rw [spell, pval, ih, spell_length, div_ten_succ, ten_succ, dig]
    have h : n / ten K = 10 * (n / ten K / 10) + n / ten K % 10 := by omega
    generalize n / ten K = q at h ⊢
    have e : (48 + q % 10 - 48) = q % 10 := by omega
    rw [e]
    have : q * ten K = (10 * (q / 10) + q % 10) * ten K := by rw [← h]
    rw [this, Int.add_mul]
    have : q / 10 * (10 * ten K) = 10 * (q / 10) * ten K := by rw [← Int.mul_assoc, Int.mul_comm (q / 10) 10]
    rw [this]
    omega
theorem spell_getD (n : Int) (K i : Nat) (h : i < K) : (spell n K).getD i 0 = dig n (K - 1 - i) := by
  induction K generalizing i with
  | zero => omega
  | succ K ih =>
    cases i with
    | zero => simp [spell]
    | succ i =>
      have := ih i (by omega)
      simp only [spell, List.getD_cons_succ]
      rw [this]
      congr 1
      omega
theorem digF_spell (n : Int) (K : Nat) (h1 : 1 ≤ K) (h9 : K ≤ 9) (hz : n / ten K = 0) : digF (spell n K) = n := by
  unfold digF
  rw [if_neg (by rw [spell_length, spell_all]; simp; omega), dval_eq_pval, spell_pval, hz]
  omega

/-! ### ORDER -/
def cmpB : List Int → List Int → Int
  | a :: r, b :: s => if a < b then -1 else if b < a then 1 else cmpB r s
  | [], _ :: _ => -1
  | _ :: _, [] => 1
  | [], [] => 0
def cmpI (x y : Int) : Int := if x < y then -1 else if y < x then 1 else 0
theorem cmpI_add (a b t : Int) : cmpI (a + t) (b + t) = cmpI a b := by
  unfold cmpI; simp only [Int.add_lt_add_iff_right]
theorem cmp_same (a b : List Int) (hl : a.length = b.length) (ha : dall a = true) (hb : dall b = true) : cmpB a b = cmpI (pval a) (pval b) := by
  induction a generalizing b with
  | nil =>
    cases b with
    | nil => simp [cmpB, cmpI]
    | cons _ _ => simp at hl
  | cons x r ih =>
    cases b with
    | nil => simp at hl
    | cons y s =>
      simp only [dall, List.all_cons, Bool.and_eq_true] at ha hb
      simp only [List.length_cons, Nat.add_right_cancel_iff] at hl
      have hr := pval_bd r ha.2
      have hs := pval_bd s hb.2
      rw [← hl] at hs
      have ih' := ih s hl ha.2 hb.2
      have hT := ten_pos r.length
      simp only [cmpB, pval, ← hl]
      generalize ten r.length = T at *
      by_cases h1 : x < y
      · rw [if_pos h1]
        have : (x - 48) * T + T ≤ (y - 48) * T := by
          have := Int.mul_le_mul_of_nonneg_right (show x - 48 + 1 ≤ y - 48 by omega) (Int.le_of_lt hT)
          rw [Int.add_mul] at this; omega
        unfold cmpI; rw [if_pos (by omega)]
      · rw [if_neg h1]
        by_cases h2 : y < x
        · rw [if_pos h2]
          have : (y - 48) * T + T ≤ (x - 48) * T := by
            have := Int.mul_le_mul_of_nonneg_right (show y - 48 + 1 ≤ x - 48 by omega) (Int.le_of_lt hT)
            rw [Int.add_mul] at this; omega
          unfold cmpI; rw [if_neg (by omega), if_pos (by omega)]
        · rw [if_neg h2, ih']
          have : x = y := by omega
          subst this
          exact (cmpI_add _ _ _).symm
end Go.Proofs.Qxb6606160a.Plain
