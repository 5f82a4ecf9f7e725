/-
  THE PLAIN LAWS OF THE ARRAY: a text laid item by item is read back item by item. No Go in sight.
-/
import Derived.Test.Qxb6600608aPlain
namespace Go.Proofs.Qxb6600608a.Plain

/-- From i on the text holds ys. -/
def Lies (b : Nat → Int) : Nat → List Int → Prop
  | _, [] => True
  | i, y :: r => b i = y ∧ Lies b (i + 1) r

theorem lies_append {b : Nat → Int} {xs ys : List Int} {i : Nat} : Lies b i (xs ++ ys) ↔ Lies b i xs ∧ Lies b (i + xs.length) ys := by
  induction xs generalizing i with
  | nil => simp [Lies]
  | cons x r ih =>
    simp only [List.cons_append, Lies, ih, List.length_cons, and_assoc]
    rw [show i + 1 + r.length = i + (r.length + 1) by omega]
theorem lies_shift {b : Nat → Int} {ys : List Int} {S j : Nat} : Lies (fun j => b (S + j)) j ys ↔ Lies b (S + j) ys := by
  induction ys generalizing j with
  | nil => simp [Lies]
  | cons x r ih => simp only [Lies, ih]; rw [Nat.add_assoc]
theorem lies_own (P ys : List Int) : Lies (fun j => (P ++ ys).getD j 0) P.length ys := by
  induction ys generalizing P with
  | nil => trivial
  | cons y r ih =>
    refine ⟨by simp [List.getD], ?_⟩
    have := ih (P ++ [y])
    rw [List.append_assoc, List.length_append] at this
    exact this

theorem run_lies {p : Int → Bool} {b : Nat → Int} {n : Nat} {x : Int} (sps : List Int) (i : Nat) (h : Lies b i (sps ++ [x])) (hs : ∀ y ∈ sps, p y = true) (hx : p x = false) (hn : i + sps.length ≤ n) : run p b n i = i + sps.length := by
  induction sps generalizing i with
  | nil => exact run_stop (by rw [show b i = x from h.1]; exact hx)
  | cons y r ih =>
    obtain ⟨h1, h2⟩ := h
    rw [List.length_cons] at hn ⊢
    rw [run_step (by omega) (by rw [h1]; exact hs y (List.mem_cons_self ..)), ih (i + 1) h2 (fun z hz => hs z (List.mem_cons_of_mem _ hz)) (by omega)]
    omega

/-- What may stand behind a number. -/
def Stop (x : Int) : Prop := isDg x = false ∧ x ≠ 46 ∧ x ≠ 101 ∧ x ≠ 69

def IsNum (num : List Int) : Prop := ∃ sg D F E : List Int, num = sg ++ (D ++ (F ++ E)) ∧ (sg = [] ∨ sg = [45]) ∧ D ≠ [] ∧ (∀ d ∈ D, isDg d = true) ∧ (1 < D.length → D.getD 0 0 ≠ 48) ∧ (F = [] ∨ F = [46, 50, 53]) ∧ (E = [] ∨ E = [69, 45, 48, 55])

theorem expo_lies {c : Nat → Int} {m i : Nat} {E : List Int} {x : Int} (h : Lies c i (E ++ [x])) (hE : E = [] ∨ E = [69, 45, 48, 55]) (hx : Stop x) (hm : i + E.length < m) : expo c m i = (i + E.length, true) := by
  unfold expo
  rcases hE with rfl | rfl
  · have h0 : c i = x := h.1
    rw [if_neg (by rw [h0]; rintro ⟨_, h | h⟩; exact hx.2.2.1 h; exact hx.2.2.2 h)]
    rfl
  · simp only [List.cons_append, List.nil_append, Lies, List.length_cons, List.length_nil] at h hm ⊢
    obtain ⟨h0, h1, h2, h3, h4, _⟩ := h
    rw [if_pos ⟨by omega, .inr h0⟩]
    simp only [if_pos (show i + 1 < m ∧ (c (i + 1) = 43 ∨ c (i + 1) = 45) from ⟨by omega, .inr h1⟩)]
    have hr : run isDg c m (i + 2) = i + 2 + 2 := run_lies (x := x) [48, 55] (i + 2) ⟨h2, h3, h4, trivial⟩ (by simp [isDg]) hx.1 (by simp; omega)
    rw [hr]
    simp

theorem frac_lies {c : Nat → Int} {m i : Nat} {F E : List Int} {x : Int} (h : Lies c i (F ++ (E ++ [x]))) (hF : F = [] ∨ F = [46, 50, 53]) (hE : E = [] ∨ E = [69, 45, 48, 55]) (hx : Stop x) (hm : i + (F ++ E).length < m) : frac c m i = (i + (F ++ E).length, true) := by
  unfold frac
  rcases hF with rfl | rfl
  · have h0 : c i ≠ 46 := by
      rcases hE with rfl | rfl
      · rw [show c i = x from h.1]; exact hx.2.1
      · rw [show c i = 69 from h.1]; decide
    rw [if_neg (fun h => h0 h.2)]
    exact expo_lies h hE hx hm
  · simp only [List.cons_append, List.nil_append, Lies, List.length_cons] at h hm ⊢
    obtain ⟨h0, h1, h2, h3⟩ := h
    rw [if_pos ⟨by omega, h0⟩]
    have hr : run isDg c m (i + 1) = i + 1 + 2 := by
      rcases hE with rfl | rfl
      · exact run_lies (x := x) [50, 53] (i + 1) ⟨h1, h2, h3⟩ (by simp [isDg]) hx.1 (by simp; omega)
      · exact run_lies (x := 69) [50, 53] (i + 1) ⟨h1, h2, h3.1, trivial⟩ (by simp [isDg]) (by decide) (by simp at hm ⊢; omega)
    rw [hr, if_neg (by omega), expo_lies (x := x) (E := E) h3 hE hx (by omega)]
    congr 1
    omega

theorem scan_lies {c : Nat → Int} {m : Nat} {num : List Int} {x : Int} (h : Lies c 0 (num ++ [x])) (hN : IsNum num) (hx : Stop x) (hm : num.length < m) : scan c m = (num.length, true) := by
  obtain ⟨sg, D, F, E, rfl, hsg, hD, hd, hz, hF, hE⟩ := hN
  have hDl : 0 < D.length := List.length_pos_iff.2 hD
  have hI : ∀ s, Lies c s (D ++ (F ++ (E ++ [x]))) → s + (D ++ (F ++ E)).length < m → intg c m s = (s + (D ++ (F ++ E)).length, true) := by
    intro s hs hm
    simp only [List.length_append] at hm
    have hnext : ∃ y, isDg y = false ∧ Lies c s (D ++ [y]) := by
      obtain ⟨a1, a2⟩ := lies_append.1 hs
      rcases hF with rfl | rfl
      · rcases hE with rfl | rfl
        · exact ⟨x, hx.1, lies_append.2 ⟨a1, a2⟩⟩
        · exact ⟨69, by decide, lies_append.2 ⟨a1, a2.1, trivial⟩⟩
      · exact ⟨46, by decide, lies_append.2 ⟨a1, a2.1, trivial⟩⟩
    obtain ⟨y, hy, hl⟩ := hnext
    have hr : run isDg c m s = s + D.length := run_lies D s hl hd hy (by omega)
    have h0 : c s = D.getD 0 0 := by
      cases D with
      | nil => exact absurd rfl hD
      | cons d r => exact hs.1
    unfold intg
    rw [hr, if_neg (by omega), if_neg (by rintro ⟨h1, h2⟩; exact hz (by omega) (h0 ▸ h2)), frac_lies (lies_append.1 hs).2 hF hE hx (by simp only [List.length_append]; omega)]
    simp only [List.length_append]
    congr 1
    omega
  unfold scan
  rcases hsg with rfl | rfl
  · simp only [List.nil_append, List.append_assoc] at h hm ⊢
    have h0 : c 0 ≠ 45 := by
      cases D with
      | nil => exact absurd rfl hD
      | cons d r =>
        have := (isDg_iff d).1 (hd d (List.mem_cons_self ..))
        rw [show c 0 = d from h.1]; omega
    rw [if_neg (fun h => h0 h.2), hI 0 h (by omega)]
    simp
  · simp only [List.cons_append, List.nil_append, List.append_assoc, List.length_cons] at h hm ⊢
    obtain ⟨h0, h1⟩ := h
    rw [if_pos ⟨by omega, h0⟩, hI 1 h1 (by omega)]
    congr 1
    omega

/-! ### THE ITEMS -/
structure Itm where
  s1 : List Int
  q : Bool
  num : List Int
  s2 : List Int
def qm (q : Bool) : List Int := if q then [34] else []
def sep (c : Bool) : List Int := if c then [44] else []
structure Itm.Ok (it : Itm) : Prop where
  s1 : ∀ y ∈ it.s1, isSp y = true
  num : IsNum it.num
  s2 : ∀ y ∈ it.s2, isSp y = true
def Itm.lay (it : Itm) (c : Bool) : List Int := it.s1 ++ (qm it.q ++ (it.num ++ (qm it.q ++ (it.s2 ++ sep c))))
def lays (n : Nat) : Nat → List Itm → List Int
  | _, [] => []
  | k, it :: r => it.lay (decide (k + 1 < n)) ++ lays n (k + 1) r
theorem lays_snoc (n k : Nat) (its : List Itm) (it : Itm) : lays n k (its ++ [it]) = lays n k its ++ it.lay (decide (k + its.length + 1 < n)) := by
  induction its generalizing k with
  | nil => simp [lays]
  | cons a r ih =>
    simp only [List.cons_append, lays, ih, List.append_assoc, List.length_cons]
    rw [show k + 1 + r.length + 1 = k + (r.length + 1) + 1 by omega]

/-- Where the numbers begin and end. -/
def Marks (n : Nat) (f g : Nat → Nat) : Nat → Nat → List Itm → Prop
  | _, _, [] => True
  | p, k, it :: r => f k = p + it.s1.length + (qm it.q).length ∧ g k = f k + it.num.length ∧ Marks n f g (p + (it.lay (decide (k + 1 < n))).length) (k + 1) r
theorem Marks.congr {n : Nat} {f g f' g' : Nat → Nat} {its : List Itm} {p k : Nat} (h : Marks n f g p k its) (hf : ∀ j, j < k + its.length → f' j = f j) (hg : ∀ j, j < k + its.length → g' j = g j) : Marks n f' g' p k its := by
  induction its generalizing p k with
  | nil => trivial
  | cons it r ih =>
    rw [List.length_cons] at hf hg
    refine ⟨by rw [hf k (by omega)]; exact h.1, by rw [hf k (by omega), hg k (by omega)]; exact h.2.1, ih h.2.2 (fun j hj => hf j (by omega)) (fun j hj => hg j (by omega))⟩
theorem Marks.snoc {n : Nat} {f g : Nat → Nat} {its : List Itm} {it : Itm} {p k : Nat} (h : Marks n f g p k its) (h1 : f (k + its.length) = p + (lays n k its).length + it.s1.length + (qm it.q).length) (h2 : g (k + its.length) = f (k + its.length) + it.num.length) : Marks n f g p k (its ++ [it]) := by
  induction its generalizing p k with
  | nil => exact ⟨by simpa [lays] using h1, by simpa using h2, trivial⟩
  | cons a r ih =>
    rw [List.length_cons, show k + (r.length + 1) = k + 1 + r.length by omega] at h1 h2
    rw [lays, List.length_append] at h1
    exact ⟨h.1, h.2.1, ih h.2.2 (by rw [h1]; omega) h2⟩
end Go.Proofs.Qxb6600608a.Plain
