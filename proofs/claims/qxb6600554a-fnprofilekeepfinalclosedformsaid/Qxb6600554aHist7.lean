/-
  THE PLAIN LAW OF 'FnProfileKeepFinalClosedForm': what the list of kids says of the calls so far, the files never falling.
-/
import Derived.Test.Qxb6600554aHist
namespace Go.Proofs.Qxb6600554a

/-- The least index below j at which S holds s and final was set, or -1. -/
def ffI (S : Nat → ByteArray) (Fl : Nat → Bool) (s : ByteArray) : Nat → Int
  | 0 => -1
  | j + 1 => if ffI S Fl s j < 0 ∧ S j = s ∧ Fl j = true then (j : Int) else ffI S Fl s j

theorem ffI_none (S : Nat → ByteArray) (Fl : Nat → Bool) (s : ByteArray) : ∀ k, (∀ j, j < k → S j = s → Fl j = false) → ffI S Fl s k = -1
  | 0, _ => rfl
  | k + 1, h => by
    rw [ffI, if_neg (fun c => by have := h k (by omega) c.2.1; rw [c.2.2] at this; cases this)]
    exact ffI_none S Fl s k (fun j hj => h j (by omega))

theorem ffI_bd (S : Nat → ByteArray) (Fl : Nat → Bool) (s : ByteArray) : ∀ k, -1 ≤ ffI S Fl s k ∧ ffI S Fl s k < k
  | 0 => by simp [ffI]
  | k + 1 => by
    have := ffI_bd S Fl s k
    rw [ffI]
    split <;> omega

theorem ffI_some (S : Nat → ByteArray) (Fl : Nat → Bool) (s : ByteArray) (j : Nat) (hs : S j = s) (hfl : Fl j = true) (hf : ∀ i, i < j → S i = s → Fl i = false) : ∀ k, j < k → ffI S Fl s k = j
  | 0, h => by omega
  | k + 1, h => by
    rw [ffI]
    by_cases e : j = k
    · subst e
      rw [ffI_none S Fl s j hf, if_pos ⟨by omega, hs, hfl⟩]
    · rw [ffI_some S Fl s j hs hfl hf k (by omega), if_neg (by omega)]

/-- The files below n: none under 1, none under the one before. -/
def Rising (X : Nat → Int) (n : Nat) : Prop := ∀ j, j < n → 1 ≤ X j ∧ (0 < j → X (j - 1) ≤ X j)
theorem Rising.le {X : Nat → Int} {n : Nat} (h : Rising X n) (i : Nat) : ∀ j, i ≤ j → j < n → X i ≤ X j
  | 0, hij, _ => by
    have : i = 0 := by omega
    rw [this]; exact Int.le_refl _
  | j + 1, hij, hj => by
    by_cases e : i = j + 1
    · rw [e]; exact Int.le_refl _
    · have h1 := h.le i j (by omega) (by omega)
      have h2 := (h (j + 1) hj).2 (by omega)
      simp only [Nat.add_sub_cancel] at h2
      omega

/-- What a kid's final says: none of its tag's calls set final; or it is the file of the first that did. -/
def FinIs (S : Nat → ByteArray) (Fl : Nat → Bool) (X : Nat → Int) (k : Nat) (p : Kid) : Prop :=
  (p.fin = 0 ∧ ∀ j, j < k → S j = p.tag → Fl j = false) ∨
  ∃ j, j < k ∧ S j = p.tag ∧ Fl j = true ∧ (∀ i, i < j → S i = p.tag → Fl i = false) ∧ p.fin = X j

structure Hist7 (S : Nat → ByteArray) (Fl : Nat → Bool) (X : Nat → Int) (k : Nat) (st : List Kid) (P : Nat → Option Addr) : Prop where
  seen : ∀ j, j < k → ∃ p ∈ st, p.tag = S j
  first : ∀ p ∈ st, ∃ j, j < k ∧ S j = p.tag ∧ (∀ i, i < j → S i ≠ p.tag) ∧ P j = some ⟨p.blk, 0, none⟩
  fin : ∀ p ∈ st, FinIs S Fl X k p

section
variable {S : Nat → ByteArray} {Fl : Nat → Bool} {X : Nat → Int} {k n : Nat} {st : List Kid} {P : Nat → Option Addr}

theorem Hist7.start (S : Nat → ByteArray) (Fl : Nat → Bool) (X : Nat → Int) (P : Nat → Option Addr) : Hist7 S Fl X 0 [] P :=
  ⟨fun j hj => by omega, fun p hp => absurd hp List.not_mem_nil, fun p hp => absurd hp List.not_mem_nil⟩

theorem FinIs.skip {p : Kid} (h : FinIs S Fl X k p) (hne : S k = p.tag → Fl k = false) : FinIs S Fl X (k + 1) p := by
  rcases h with ⟨h1, h2⟩ | ⟨j, h1, h2⟩
  · refine .inl ⟨h1, fun j hj hs => ?_⟩
    by_cases e : j = k
    · subst e; exact hne hs
    · exact h2 j (by omega) hs
  · exact .inr ⟨j, by omega, h2⟩

theorem Hist7.new (h : Hist7 S Fl X k st P) (hn : seek st (S k) = none) (nb : Nat) :
    Hist7 S Fl X (k + 1) (st ++ [⟨S k, nb, if Fl k then X k else 0⟩]) (fun j => if j = k then some ⟨nb, 0, none⟩ else P j) := by
  have hnot : ∀ i, i < k → S i ≠ S k := fun i hi e => by
    obtain ⟨q, hq, ht⟩ := h.seen i hi
    exact seek_none hn q hq (ht.trans e)
  refine ⟨fun j hj => ?_, fun p hp => ?_, fun p hp => ?_⟩
  · by_cases e : j = k
    · subst e; exact ⟨_, List.mem_append_right _ (List.mem_singleton.2 rfl), rfl⟩
    · obtain ⟨p, hp, ht⟩ := h.seen j (by omega)
      exact ⟨p, List.mem_append_left _ hp, ht⟩
  · rcases List.mem_append.1 hp with hp | hp
    · obtain ⟨j, h1, h2, h3, h4⟩ := h.first p hp
      exact ⟨j, by omega, h2, h3, by rw [if_neg (by omega)]; exact h4⟩
    · have := List.mem_singleton.1 hp
      subst this
      exact ⟨k, by omega, rfl, fun i hi => hnot i hi, by rw [if_pos rfl]⟩
  · rcases List.mem_append.1 hp with hp | hp
    · exact (h.fin p hp).skip (fun e => absurd e.symm (seek_none hn p hp))
    · have := List.mem_singleton.1 hp
      subst this
      by_cases c : Fl k = true
      · exact .inr ⟨k, by omega, rfl, c, fun i hi e => absurd e (hnot i hi), by simp [c]⟩
      · refine .inl ⟨by simp [c], fun j hj e => ?_⟩
        by_cases e' : j = k
        · subst e'; simpa using c
        · exact absurd e (hnot j (by omega))

theorem Hist7.go (h : Hist7 S Fl X k st P) {p : Kid} (hs : seek st (S k) = some p) : (∀ j, j < k + 1 → ∃ p ∈ st, p.tag = S j) ∧ (∀ p ∈ st, ∃ j, j < k + 1 ∧ S j = p.tag ∧ (∀ i, i < j → S i ≠ p.tag) ∧ P j = some ⟨p.blk, 0, none⟩) := by
  obtain ⟨hp, ht⟩ := seek_mem hs
  refine ⟨fun j hj => ?_, fun q hq => ?_⟩
  · by_cases e : j = k
    · subst e; exact ⟨p, hp, ht⟩
    · exact h.seen j (by omega)
  · obtain ⟨j, h1, h2⟩ := h.first q hq
    exact ⟨j, by omega, h2⟩

/-- The kid's final is already set: the list stays. -/
theorem Hist7.stays (h : Hist7 S Fl X k st P) (ap : st.Pairwise fun p q => p.blk ≠ q.blk ∧ p.tag ≠ q.tag) {p : Kid} (hs : seek st (S k) = some p) (hk : (∃ j, j < k ∧ S j = p.tag ∧ Fl j = true ∧ (∀ i, i < j → S i = p.tag → Fl i = false) ∧ p.fin = X j) ∨ Fl k = false) :
    Hist7 S Fl X (k + 1) st P := by
  obtain ⟨hp, ht⟩ := seek_mem hs
  obtain ⟨g1, g2⟩ := h.go hs
  refine ⟨g1, g2, fun q hq => ?_⟩
  by_cases e : q.tag = S k
  · have : q = p := pair_tag ap hq hp (e.trans ht.symm)
    subst this
    rcases hk with ⟨j, h1, h2⟩ | hk
    · exact .inr ⟨j, by omega, h2⟩
    · exact (h.fin q hq).skip (fun _ => hk)
  · exact (h.fin q hq).skip (fun e' => absurd e'.symm e)

/-- An accepted call that sets final. -/
theorem Hist7.marks (h : Hist7 S Fl X k st P) (ap : st.Pairwise fun p q => p.blk ≠ q.blk ∧ p.tag ≠ q.tag) {p : Kid} (hs : seek st (S k) = some p) (hfl : Fl k = true)
    (hk : (p.fin = 0 ∧ ∀ j, j < k → S j = p.tag → Fl j = false) ∨ ∃ j, j < k ∧ S j = p.tag ∧ Fl j = true ∧ (∀ i, i < j → S i = p.tag → Fl i = false) ∧ X k = X j) :
    Hist7 S Fl X (k + 1) (setFin st (S k) (X k)) P := by
  obtain ⟨hp, ht⟩ := seek_mem hs
  obtain ⟨g1, g2⟩ := h.go hs
  refine ⟨fun j hj => ?_, fun q hq => ?_, fun q hq => ?_⟩
  · obtain ⟨q, hq, hqt⟩ := g1 j hj
    refine ⟨if q.tag = S k then { q with fin := X k } else q, List.mem_map.2 ⟨q, hq, rfl⟩, ?_⟩
    split <;> exact hqt
  · obtain ⟨q0, hq0, e1, e2, _⟩ := setFin_mem hq
    obtain ⟨j, h1, h2, h3, h4⟩ := g2 q0 hq0
    rw [e1, e2]
    exact ⟨j, h1, h2, h3, h4⟩
  · obtain ⟨q0, hq0, e1, e2, e3⟩ := setFin_mem hq
    rcases e3 with ⟨e3, e4⟩ | ⟨e3, e4⟩
    · have : q0 = p := pair_tag ap hq0 hp (e3.trans ht.symm)
      subst this
      unfold FinIs
      rw [e2, e4]
      rcases hk with ⟨h1, h2⟩ | ⟨j, h1, h2, h3, h4, h5⟩
      · exact .inr ⟨k, by omega, e3.symm, hfl, h2, rfl⟩
      · exact .inr ⟨j, by omega, h2, h3, h4, h5⟩
    · have := (h.fin q0 hq0).skip (fun e' => absurd e'.symm e3)
      unfold FinIs at this ⊢
      rw [e2, e4]; exact this

theorem Hist7.fst_new (h : Hist7 S Fl X k st P) (hn : seek st (S k) = none) : fstI S (S k) (k + 1) = k :=
  fstI_some S (S k) k rfl (fun i hi e => by
    obtain ⟨q, hq, ht⟩ := h.seen i hi
    exact seek_none hn q hq (ht.trans e)) (k + 1) (by omega)

theorem Hist7.ff_new (h : Hist7 S Fl X k st P) (hn : seek st (S k) = none) : ffI S Fl (S k) (k + 1) = if Fl k then (k : Int) else -1 := by
  have hnot : ∀ i, i < k → S i ≠ S k := fun i hi e => by
    obtain ⟨q, hq, ht⟩ := h.seen i hi
    exact seek_none hn q hq (ht.trans e)
  by_cases c : Fl k = true
  · rw [if_pos c]; exact ffI_some S Fl (S k) k rfl c (fun i hi e => absurd e (hnot i hi)) (k + 1) (by omega)
  · rw [if_neg c]
    exact ffI_none S Fl (S k) (k + 1) (fun j hj e => by
      by_cases e' : j = k
      · subst e'; simpa using c
      · exact absurd e (hnot j (by omega)))

theorem Hist7.fst_old (h : Hist7 S Fl X k st P) {p : Kid} (hs : seek st (S k) = some p) : ∃ j : Nat, fstI S (S k) (k + 1) = j ∧ j < k ∧ P j = some ⟨p.blk, 0, none⟩ := by
  obtain ⟨hp, ht⟩ := seek_mem hs
  obtain ⟨j, h1, h2, h3, h4⟩ := h.first p hp
  rw [ht] at h2 h3
  exact ⟨j, fstI_some S (S k) j h2 h3 (k + 1) (by omega), h1, h4⟩

theorem FinIs.ff0 {p : Kid} (ht : p.tag = S k) (h : ∀ j, j < k → S j = p.tag → Fl j = false) : ffI S Fl (S k) (k + 1) = if Fl k then (k : Int) else -1 := by
  rw [ht] at h
  by_cases c : Fl k = true
  · rw [if_pos c]; exact ffI_some S Fl (S k) k rfl c h (k + 1) (by omega)
  · rw [if_neg c]
    exact ffI_none S Fl (S k) (k + 1) (fun j hj e => by
      by_cases e' : j = k
      · subst e'; simpa using c
      · exact h j (by omega) e)

theorem FinIs.ff1 {p : Kid} (ht : p.tag = S k) {j : Nat} (hj : j < k) (h2 : S j = p.tag) (h3 : Fl j = true) (h4 : ∀ i, i < j → S i = p.tag → Fl i = false) : ffI S Fl (S k) (k + 1) = j := by
  rw [ht] at h2 h4
  exact ffI_some S Fl (S k) j h2 h3 h4 (k + 1) (by omega)
end
end Go.Proofs.Qxb6600554a
