/-
  THE PLAIN LAW OF 'FnProfileKeepBlocksOncePerTag': what the list of kids says of the calls so far.
-/
import Derived.Test.Qxb6600554aKept
namespace Go.Proofs.Qxb6600554a

/-- The least index below j at which S holds s, or -1. -/
def fstI (S : Nat → ByteArray) (s : ByteArray) : Nat → Int
  | 0 => -1
  | j + 1 => if fstI S s j < 0 ∧ S j = s then (j : Int) else fstI S s j

/-- Did a call below j at s set final with a file that is not 0 and smaller than x? -/
def mayR (S : Nat → ByteArray) (Fl : Nat → Bool) (X : Nat → Int) (s : ByteArray) (x : Int) : Nat → Bool
  | 0 => false
  | j + 1 => if S j = s ∧ Fl j = true ∧ X j ≠ 0 ∧ X j < x then true else mayR S Fl X s x j

theorem fstI_none (S : Nat → ByteArray) (s : ByteArray) : ∀ k, (∀ j, j < k → S j ≠ s) → fstI S s k = -1
  | 0, _ => rfl
  | k + 1, h => by
    rw [fstI, if_neg (fun c => h k (by omega) c.2)]
    exact fstI_none S s k (fun j hj => h j (by omega))

theorem fstI_bd (S : Nat → ByteArray) (s : ByteArray) : ∀ k, -1 ≤ fstI S s k ∧ fstI S s k < k
  | 0 => by simp [fstI]
  | k + 1 => by
    have := fstI_bd S s k
    rw [fstI]
    split <;> omega

theorem fstI_some (S : Nat → ByteArray) (s : ByteArray) (j : Nat) (hs : S j = s) (hf : ∀ i, i < j → S i ≠ s) : ∀ k, j < k → fstI S s k = j
  | 0, h => by omega
  | k + 1, h => by
    rw [fstI]
    by_cases e : j = k
    · subst e
      rw [fstI_none S s j hf, if_pos ⟨by omega, hs⟩]
    · rw [fstI_some S s j hs hf k (by omega), if_neg (by omega)]

theorem mayR_some (S : Nat → ByteArray) (Fl : Nat → Bool) (X : Nat → Int) (s : ByteArray) (x : Int) (j : Nat) (h : S j = s ∧ Fl j = true ∧ X j ≠ 0 ∧ X j < x) : ∀ k, j < k → mayR S Fl X s x k = true
  | 0, hk => by omega
  | k + 1, hk => by
    rw [mayR]
    by_cases e : j = k
    · subst e; rw [if_pos h]
    · split
      · rfl
      · exact mayR_some S Fl X s x j h k (by omega)

structure Hist (S : Nat → ByteArray) (Fl : Nat → Bool) (X : Nat → Int) (k : Nat) (st : List Kid) (P : Nat → Option Addr) : Prop where
  seen : ∀ j, j < k → ∃ p ∈ st, p.tag = S j
  first : ∀ p ∈ st, ∃ j, j < k ∧ S j = p.tag ∧ (∀ i, i < j → S i ≠ p.tag) ∧ P j = some ⟨p.blk, 0, none⟩
  fin : ∀ p ∈ st, p.fin ≠ 0 → ∃ j, j < k ∧ S j = p.tag ∧ Fl j = true ∧ X j = p.fin

section
variable {S : Nat → ByteArray} {Fl : Nat → Bool} {X : Nat → Int} {k : Nat} {st : List Kid} {P : Nat → Option Addr}

theorem Hist.start (S : Nat → ByteArray) (Fl : Nat → Bool) (X : Nat → Int) (P : Nat → Option Addr) : Hist S Fl X 0 [] P :=
  ⟨fun j hj => by omega, fun p hp => absurd hp List.not_mem_nil, fun p hp => absurd hp List.not_mem_nil⟩

theorem Hist.new (h : Hist S Fl X k st P) (hn : seek st (S k) = none) (nb : Nat) :
    Hist S Fl X (k + 1) (st ++ [⟨S k, nb, if Fl k then X k else 0⟩]) (fun j => if j = k then some ⟨nb, 0, none⟩ else P j) := by
  refine ⟨fun j hj => ?_, fun p hp => ?_, fun p hp => ?_⟩
  · by_cases e : j = k
    · subst e; exact ⟨_, List.mem_append_right _ (List.mem_singleton.2 rfl), rfl⟩
    · obtain ⟨p, hp, ht⟩ := h.seen j (by omega)
      exact ⟨p, List.mem_append_left _ hp, ht⟩
  · rcases List.mem_append.1 hp with hp | hp
    · obtain ⟨j, h1, h2, h3, h4⟩ := h.first p hp
      exact ⟨j, by omega, h2, h3, by rw [if_neg (by omega)]; exact h4⟩
    · have := List.mem_singleton.1 hp
      subst this
      refine ⟨k, by omega, rfl, fun i hi e => ?_, by rw [if_pos rfl]⟩
      obtain ⟨q, hq, ht⟩ := h.seen i hi
      exact seek_none hn q hq (ht.trans e)
  · rcases List.mem_append.1 hp with hp | hp
    · intro hf
      obtain ⟨j, h1, h2⟩ := h.fin p hp hf
      exact ⟨j, by omega, h2⟩
    · have := List.mem_singleton.1 hp
      subst this
      intro hf
      by_cases c : Fl k = true
      · exact ⟨k, by omega, rfl, c, by simp [c]⟩
      · exact absurd (by simp [c]) hf

theorem Hist.refused (h : Hist S Fl X k st P) {p : Kid} (hs : seek st (S k) = some p) : Hist S Fl X (k + 1) st P := by
  obtain ⟨hp, ht⟩ := seek_mem hs
  refine ⟨fun j hj => ?_, fun q hq => ?_, fun q hq hf => ?_⟩
  · by_cases e : j = k
    · subst e; exact ⟨p, hp, ht⟩
    · exact h.seen j (by omega)
  · obtain ⟨j, h1, h2⟩ := h.first q hq
    exact ⟨j, by omega, h2⟩
  · obtain ⟨j, h1, h2⟩ := h.fin q hq hf
    exact ⟨j, by omega, h2⟩

theorem Hist.accepted (h : Hist S Fl X k st P) {p : Kid} (hs : seek st (S k) = some p) : Hist S Fl X (k + 1) (if Fl k then setFin st (S k) (X k) else st) P := by
  have h' := h.refused hs
  by_cases c : Fl k = true
  · rw [if_pos c]
    refine ⟨fun j hj => ?_, fun q hq => ?_, fun q hq hf => ?_⟩
    · obtain ⟨q, hq, ht⟩ := h'.seen j hj
      refine ⟨if q.tag = S k then { q with fin := X k } else q, List.mem_map.2 ⟨q, hq, rfl⟩, ?_⟩
      split <;> exact ht
    · obtain ⟨q0, hq0, e1, e2, _⟩ := setFin_mem hq
      obtain ⟨j, h1, h2, h3, h4⟩ := h'.first q0 hq0
      rw [e1, e2]
      exact ⟨j, h1, h2, h3, h4⟩
    · obtain ⟨q0, hq0, e1, e2, e3⟩ := setFin_mem hq
      rcases e3 with ⟨e3, e4⟩ | ⟨e3, e4⟩
      · exact ⟨k, by omega, by rw [e2, e3], c, e4.symm⟩
      · rw [e4] at hf ⊢
        rw [e2]
        exact h'.fin q0 hq0 hf
  · rw [if_neg c]; exact h'

theorem Hist.fst_none (h : Hist S Fl X k st P) (hn : seek st (S k) = none) : fstI S (S k) k = -1 :=
  fstI_none S (S k) k (fun j hj e => by
    obtain ⟨q, hq, ht⟩ := h.seen j hj
    exact seek_none hn q hq (ht.trans e))

theorem Hist.fst_some (h : Hist S Fl X k st P) {p : Kid} (hs : seek st (S k) = some p) : ∃ j : Nat, fstI S (S k) k = j ∧ j < k ∧ P j = some ⟨p.blk, 0, none⟩ := by
  obtain ⟨hp, ht⟩ := seek_mem hs
  obtain ⟨j, h1, h2, h3, h4⟩ := h.first p hp
  rw [ht] at h2 h3
  exact ⟨j, fstI_some S (S k) j h2 h3 k h1, h1, h4⟩

theorem Hist.may (h : Hist S Fl X k st P) {p : Kid} (hs : seek st (S k) = some p) (h0 : p.fin ≠ 0) (hx : p.fin < X k) : mayR S Fl X (S k) (X k) k = true := by
  obtain ⟨hp, ht⟩ := seek_mem hs
  obtain ⟨j, h1, h2, h3, h4⟩ := h.fin p hp h0
  exact mayR_some S Fl X (S k) (X k) j ⟨h2.trans ht, h3, by omega, by omega⟩ k h1
end
end Go.Proofs.Qxb6600554a
