/-
  What 'more' and 'plainNumber' find in a text laid item by item. No Go in sight.
-/
import Derived.Test.Qxb6600608aZZPlain
import Derived.Test.Qxb6600608aArr
namespace Go.Proofs.Qxb6600608a
open Plain

theorem num_head {num : List Int} (h : IsNum num) : ∃ y r, num = y :: r ∧ y ≠ 34 ∧ y ≠ 93 ∧ isSp y = false := by
  obtain ⟨sg, D, F, E, rfl, hsg, hD, hd, _⟩ := h
  rcases hsg with rfl | rfl
  · cases D with
    | nil => exact absurd rfl hD
    | cons d r =>
      have := (isDg_iff d).1 (hd d (List.mem_cons_self ..))
      refine ⟨d, _, rfl, by omega, by omega, ?_⟩
      simp [isSp]; omega
  · exact ⟨45, _, rfl, by decide, by decide, by decide⟩

/-- A number, quoted or not, as 'plainNumber' finds it. -/
theorem num_read {b : Nat → Int} {L i p : Nat} {q : Bool} {num t : List Int} {y : Int} (hp : run isSp b L i = p) (h : Lies b p (qm q ++ (num ++ (qm q ++ (y :: t))))) (hN : IsNum num) (hy : Stop y) (hL : p + (qm q ++ (num ++ (qm q ++ (y :: t)))).length ≤ L) :
    pOk b L i = true ∧ pS b L i = p + (qm q).length ∧ pE b L i = num.length ∧ pC b L i = p + (qm q).length + num.length + (qm q).length := by
  have hP : pP b L i = p := hp
  cases q with
  | false =>
    simp only [qm, Bool.false_eq_true, if_false, List.nil_append, List.length_append, List.length_cons, List.length_nil] at h hL ⊢
    obtain ⟨z, r, hz, hz1, _, _⟩ := num_head hN
    have hq : pQ b L i = false := by
      unfold pQ
      rw [hP, show b p = z by rw [hz] at h; exact h.1]
      simp [hz1]
    have hS : pS b L i = p := by simp [pS, hq, hP]
    have hsc : scan (fun j => b (p + j)) (L - p) = (num.length, true) := by
      refine scan_lies (x := y) (lies_shift.2 ?_) hN hy (by omega)
      rw [Nat.add_zero]
      obtain ⟨a1, a2⟩ := lies_append.1 h
      exact lies_append.2 ⟨a1, a2.1, trivial⟩
    have hE : pE b L i = num.length := by unfold pE; rw [hS, hsc]
    have hok : pOk b L i = true := by unfold pOk; rw [hS, hsc, hq]; rfl
    exact ⟨hok, by rw [hS]; omega, hE, by unfold pC; rw [if_pos hok, hS, hE, hq]; simp⟩
  | true =>
    simp only [qm, if_true, List.cons_append, List.nil_append, List.length_append, List.length_cons, List.length_nil] at h hL ⊢
    have hq : pQ b L i = true := by
      unfold pQ
      rw [hP, show b p = 34 from h.1]
      simp; omega
    have hS : pS b L i = p + 1 := by simp [pS, hq, hP]
    obtain ⟨a1, a2⟩ := lies_append.1 h.2
    have hsc : scan (fun j => b (p + 1 + j)) (L - (p + 1)) = (num.length, true) := by
      refine scan_lies (x := 34) (lies_shift.2 ?_) hN ⟨by decide, by decide, by decide, by decide⟩ (by omega)
      rw [Nat.add_zero]
      exact lies_append.2 ⟨a1, a2.1, trivial⟩
    have hE : pE b L i = num.length := by unfold pE; rw [hS, hsc]
    have hok : pOk b L i = true := by
      unfold pOk
      rw [hE, hS, hsc, hq, show b (p + 1 + num.length) = 34 from a2.1]
      simp; omega
    exact ⟨hok, by rw [hS], hE, by unfold pC; rw [if_pos hok, hS, hE, hq]; simp⟩

/-- The cursor at i is ahead of item k; the items yet to come are 'rest'. -/
def Rd (b : Nat → Int) (L n : Nat) (f g : Nat → Nat) (i k : Nat) (first : Bool) (rest : List Itm) : Prop :=
  k + rest.length = n ∧ (∀ it ∈ rest, it.Ok) ∧ ∃ s2 : List Int, (∀ y ∈ s2, isSp y = true) ∧ (first = true → s2 = []) ∧
    Lies b i (s2 ++ (sep (!first && decide (k < n)) ++ (lays n k rest ++ [10, 9, 93]))) ∧ L = i + (s2 ++ (sep (!first && decide (k < n)) ++ (lays n k rest ++ [10, 9, 93]))).length ∧
    Marks n f g (i + s2.length + (sep (!first && decide (k < n))).length) k rest

/-- What 'plainNumber' does from j on: item k. -/
def StepAt (b : Nat → Int) (L n : Nat) (f g : Nat → Nat) (j k : Nat) (r : List Itm) : Prop :=
  j ≤ L ∧ pOk b L j = true ∧ pS b L j = f k ∧ pS b L j + pE b L j = g k ∧ Rd b L n f g (pC b L j) (k + 1) false r

theorem rd_end {b : Nat → Int} {L n : Nat} {f g : Nat → Nat} {i k : Nat} {first : Bool} (h : Rd b L n f g i k first []) : k = n ∧ run isSp b L i + 1 = L ∧ b (run isSp b L i) = 93 := by
  obtain ⟨hk, _, s2, hs, _, hl, hL, _⟩ := h
  have hk' : k = n := by simpa using hk
  have hd : decide (k < n) = false := decide_eq_false (by omega)
  rw [hd, Bool.and_false] at hl hL
  simp only [sep, Bool.false_eq_true, if_false, lays, List.nil_append] at hl hL
  have hl' : Lies b i ((s2 ++ [10, 9]) ++ [93]) := by rw [List.append_assoc]; exact hl
  have hr : run isSp b L i = i + (s2 ++ [10, 9]).length := by
    refine run_lies (x := 93) _ _ hl' ?_ (by decide) (by simp at hL ⊢; omega)
    intro y hy
    rcases List.mem_append.1 hy with h | h
    · exact hs y h
    · simp at h; rcases h with rfl | rfl <;> decide
  refine ⟨hk', ?_, ?_⟩
  · rw [hr, hL]; simp; omega
  · rw [hr]; exact (lies_append.1 hl').2.1

theorem step_of {b : Nat → Int} {L n : Nat} {f g : Nat → Nat} {p j k : Nat} {it : Itm} {r : List Itm} (hk : k + (it :: r).length = n) (hok : ∀ i ∈ it :: r, i.Ok) (hl : Lies b p (lays n k (it :: r) ++ [10, 9, 93])) (hL : L = p + (lays n k (it :: r) ++ [10, 9, 93]).length)
    (hm : Marks n f g p k (it :: r)) (hj : j ≤ L) (hr : run isSp b L j = p + it.s1.length) : StepAt b L n f g j k r := by
  have ho := hok it (List.mem_cons_self ..)
  rw [List.length_cons] at hk
  obtain ⟨m1, m2, m3⟩ := hm
  rw [lays, Itm.lay] at hl hL
  simp only [List.append_assoc] at hl hL
  have hd : decide (k + 1 < n) = decide (0 < r.length) := by rw [decide_eq_decide]; omega
  obtain ⟨y, t, hyt, hy⟩ : ∃ y t, it.s2 ++ (sep (decide (k + 1 < n)) ++ (lays n (k + 1) r ++ [10, 9, 93])) = y :: t ∧ Stop y := by
    cases h2 : it.s2 with
    | cons a l =>
      refine ⟨a, _, rfl, ?_⟩
      have := (isSp_iff a).1 (ho.s2 a (by rw [h2]; exact List.mem_cons_self ..))
      rcases this with rfl | rfl | rfl | rfl <;> exact ⟨by decide, by decide, by decide, by decide⟩
    | nil =>
      cases hr' : r with
      | nil =>
        rw [hd, hr']
        exact ⟨10, [9, 93], rfl, by decide, by decide, by decide, by decide⟩
      | cons a l =>
        rw [hd, hr']
        exact ⟨44, _, rfl, by decide, by decide, by decide, by decide⟩
  obtain ⟨l1, l2⟩ := lies_append.1 hl
  have l2' := l2
  rw [hyt] at l2
  have hlen : (it.s2 ++ (sep (decide (k + 1 < n)) ++ (lays n (k + 1) r ++ [10, 9, 93]))).length = (y :: t).length := by rw [hyt]
  simp only [List.length_append] at hL hlen
  obtain ⟨a1, a2, a3, a4⟩ := num_read (i := j) hr l2 ho.num hy (by simp only [List.length_append]; omega)
  refine ⟨hj, a1, by rw [a2, m1], by rw [a2, a3, m2, m1], by omega, fun i hi => hok i (List.mem_cons_of_mem _ hi), it.s2, ho.s2, (fun h => by cases h), ?_, ?_, ?_⟩
  · rw [a4]
    simp only [Bool.not_false, Bool.true_and]
    have l3 := (lies_append.1 (lies_append.1 (lies_append.1 l2').2).2).2
    exact l3
  · rw [a4]
    simp only [Bool.not_false, Bool.true_and, List.length_append]
    omega
  · rw [a4]
    simp only [Bool.not_false, Bool.true_and]
    rw [Itm.lay] at m3
    simp only [List.length_append] at m3
    have : p + it.s1.length + (qm it.q).length + it.num.length + (qm it.q).length + it.s2.length + (sep (decide (k + 1 < n))).length = p + (it.s1.length + ((qm it.q).length + (it.num.length + ((qm it.q).length + (it.s2.length + (sep (decide (k + 1 < n))).length))))) := by omega
    rw [this]
    exact m3

theorem rd_first {b : Nat → Int} {L n : Nat} {f g : Nat → Nat} {i k : Nat} {it : Itm} {r : List Itm} (h : Rd b L n f g i k true (it :: r)) :
    k < n ∧ run isSp b L i < L ∧ b (run isSp b L i) ≠ 93 ∧ StepAt b L n f g (run isSp b L i) k r := by
  obtain ⟨hk, hok, s2, hs, h0, hl, hL, hm⟩ := h
  rw [h0 rfl] at hl hL hm
  simp only [Bool.not_true, Bool.false_and, sep, Bool.false_eq_true, if_false, List.nil_append, List.length_nil, Nat.add_zero] at hl hL hm
  have ho := hok it (List.mem_cons_self ..)
  obtain ⟨z, t, hz, hz1, hz2, hz3⟩ := num_head ho.num
  obtain ⟨x, t', hx, hx1, hx2⟩ : ∃ x t', qm it.q ++ it.num = x :: t' ∧ x ≠ 93 ∧ isSp x = false := by
    cases it.q with
    | false => exact ⟨z, t, hz, hz2, hz3⟩
    | true => exact ⟨34, _, rfl, by decide, by decide⟩
  have hl2 := hl
  have hL2 := hL
  rw [lays, Itm.lay] at hl2 hL2
  simp only [List.append_assoc] at hl2 hL2
  obtain ⟨l1, l2⟩ := lies_append.1 hl2
  rw [← List.append_assoc, hx] at l2
  have hlen : (qm it.q ++ it.num).length = (x :: t').length := by rw [hx]
  simp only [List.length_append, List.length_cons] at hL2 hlen
  have hr : run isSp b L i = i + it.s1.length := run_lies (x := x) _ _ (lies_append.2 ⟨l1, l2.1, trivial⟩) ho.s1 hx2 (by omega)
  have hrr : run isSp b L (run isSp b L i) = i + it.s1.length := by
    rw [hr]
    exact run_stop (by rw [show b (i + it.s1.length) = x from l2.1]; exact hx2)
  refine ⟨by rw [List.length_cons] at hk; omega, by omega, by rw [hr, show b (i + it.s1.length) = x from l2.1]; exact hx1, step_of hk hok hl hL hm (by omega) hrr⟩

theorem rd_next {b : Nat → Int} {L n : Nat} {f g : Nat → Nat} {i k : Nat} {it : Itm} {r : List Itm} (h : Rd b L n f g i k false (it :: r)) :
    k < n ∧ run isSp b L i < L ∧ b (run isSp b L i) = 44 ∧ StepAt b L n f g (run isSp b L i + 1) k r := by
  obtain ⟨hk, hok, s2, hs, _, hl, hL, hm⟩ := h
  have hkn : k < n := by rw [List.length_cons] at hk; omega
  have ho := hok it (List.mem_cons_self ..)
  simp only [Bool.not_false, Bool.true_and, decide_eq_true hkn, sep, if_true, List.cons_append, List.nil_append, List.length_cons, List.length_nil] at hl hL hm
  obtain ⟨l1, l2⟩ := lies_append.1 hl
  rw [List.length_append, List.length_cons] at hL
  have hr : run isSp b L i = i + s2.length := run_lies (x := 44) _ _ (lies_append.2 ⟨l1, l2.1, trivial⟩) hs (by decide) (by omega)
  rw [hr]
  refine ⟨hkn, by omega, l2.1, step_of hk hok l2.2 (by omega) hm (by omega) ?_⟩
  obtain ⟨z, t, hz, hz1, hz2, hz3⟩ := num_head ho.num
  obtain ⟨x, t', hx, hx1, hx2⟩ : ∃ x t', qm it.q ++ it.num = x :: t' ∧ x ≠ 93 ∧ isSp x = false := by
    cases it.q with
    | false => exact ⟨z, t, hz, hz2, hz3⟩
    | true => exact ⟨34, _, rfl, by decide, by decide⟩
  have hl2 := l2.2
  rw [lays, Itm.lay] at hl2 hL
  simp only [List.append_assoc] at hl2 hL
  obtain ⟨l3, l4⟩ := lies_append.1 hl2
  rw [← List.append_assoc, hx] at l4
  simp only [List.length_append] at hL
  exact run_lies (x := x) _ _ (lies_append.2 ⟨l3, l4.1, trivial⟩) ho.s1 hx2 (by omega)
end Go.Proofs.Qxb6600608a
