/-
  From a slice that came in to 'Strs' and 'Pths'.
-/
import Derived.Test.Qxb6600609aPths
import Derived.ProofKit
import Derived.Deep.Slices
namespace Go.Proofs.Qxb6600609a
open Go.ChangeShapes Go.WideShapes Go.ChangeAt Go.RowKit Go.Deep

section
variable {α H : Type} {enc : TypeId × Value → H} {P : Program} {w : World} {base : Nat} {held : Bool}

theorem open_row (f : α → Value) (d : α) (good : α → Prop) {t e : TypeId} {V0 : Value} {n0 : Nat} {y0 : DataW H × List MemPlace} (ht : P.underlying t = some (.slice e)) (hc : P.cellsOf e = 1)
    (hel : ∀ n V y, DataW.trod enc P w base (fun _ => true) held n e [V] = some y → ∃ x, V = f x ∧ good x)
    (h : DataW.trod enc P w base (fun _ => true) held n0 t [V0] = some y0) :
    ∃ (a : Option Addr) (cap : Nat) (zs : List α), V0 = .slice a zs.length cap ∧ zs.length ≤ maxLen ∧ (∀ i, i < zs.length → ∃ b off, a = some ⟨b, off, none⟩ ∧ w.cell? ⟨b, off + i, none⟩ = some (f (zs.getD i d))) ∧ (∀ z ∈ zs, good z) ∧ (a = none → cap = 0) := by
  obtain ⟨x0, p0⟩ := y0
  rcases open_slice1 ht hc h with ⟨hcs, _⟩ | ⟨b, l, c, m, n, V, D, Pl, hcs, hb, hl, hm, hmm, _, hx⟩
  · simp at hcs
    exact ⟨none, 0, [], hcs, by unfold maxLen; simp, fun i hi => by simp at hi, fun z hz => absurd hz List.not_mem_nil, fun _ => rfl⟩
  · simp at hcs
    simp only [if_true] at hmm
    subst hmm
    have hch : ∀ i, ∃ x : α, i < m → V i = f x ∧ good x := by
      intro i
      by_cases hi : i < m
      · obtain ⟨x, h1, h2⟩ := hel _ _ _ (hx i hi).2
        exact ⟨x, fun _ => ⟨h1, h2⟩⟩
      · exact ⟨d, fun h => absurd h hi⟩
    obtain ⟨g, hg⟩ := Classical.skolem.1 hch
    refine ⟨some b, m, (List.range l).map g, by simp [hcs], by simp; omega, ?_, ?_, fun h => by cases h⟩
    · intro i hi
      rw [List.length_map, List.length_range] at hi
      obtain ⟨bb, off, spot⟩ := b
      have hspot : spot = none := by simpa [Addr.add] using World.cell?_spot (hx 0 (by omega)).1
      subst hspot
      refine ⟨bb, off, rfl, ?_⟩
      have := (hx i (by omega)).1
      rw [add_plain] at this
      rw [this, (hg i (by omega)).1]
      simp [List.getD, hi]
    · intro z hz
      obtain ⟨i, hi, rfl⟩ := List.mem_map.1 hz
      have hi' : i < l := List.mem_range.1 hi
      exact (hg i (by omega)).2
end

theorem open_strs1 {H : Type} {enc : TypeId × Value → H} {w : World} {base : Nat} {held : Bool} {n : Nat} {V : Value} {y : DataW H × List MemPlace}
    (h : DataW.trod enc Try.prog w base (fun _ => true) held n 22 [V] = some y) :
    ∃ a cap zs, V = .slice a zs.length cap ∧ zs.length ≤ maxLen ∧ Strs w a zs ∧ (∀ z ∈ zs, z.size ≤ maxLen) ∧ (a = none → cap = 0) :=
  open_row Value.string ByteArray.empty (fun z => z.size ≤ maxLen) Try.underlying22 (by kernel_rfl) (fun n V y hy => by
    obtain ⟨y1, y2⟩ := y
    obtain ⟨s, h1, h2, h3⟩ := DataW.trod_string Try.underlying9 hy
    simp at h1
    exact ⟨s, h1, by first | exact h3 | exact h2⟩) h

theorem open_strs {H : Type} {enc : TypeId × Value → H} {w : World} {base : Nat} {held : Bool} {a : Option Addr} {len cap : Nat} {x : DataW H} {p : List MemPlace}
    (h : DataW.Trod enc Try.prog w base (fun _ => true) held 22 (.slice a len cap) x p) :
    ∃ zs : List ByteArray, zs.length = len ∧ len ≤ maxLen ∧ Strs w a zs ∧ (∀ z ∈ zs, z.size ≤ maxLen) ∧ (a = none → cap = 0) := by
  obtain ⟨fuel, hf⟩ := h
  obtain ⟨a', cap', zs, h1, h2, h3, h4, h5⟩ := open_strs1 (V := .slice a len cap) hf
  cases h1
  exact ⟨zs, rfl, h2, h3, h4, h5⟩

/-- A slice of strings, by its parts. -/
structure Hd where
  a : Option Addr
  cap : Nat
  zs : List ByteArray

theorem open_pths {H : Type} {enc : TypeId × Value → H} {w : World} {base : Nat} {held : Bool} {a : Option Addr} {len cap : Nat} {x : DataW H} {p : List MemPlace}
    (h : DataW.Trod enc Try.prog w base (fun _ => true) held 23 (.slice a len cap) x p) :
    ∃ zs : List (List ByteArray), zs.length = len ∧ len ≤ maxLen ∧ Pths w a zs ∧ (∀ z ∈ zs, z.length ≤ maxLen ∧ ∀ s ∈ z, s.size ≤ maxLen) ∧ (a = none → cap = 0) := by
  obtain ⟨fuel, hf⟩ := h
  obtain ⟨a', cap', hs, h1, h2, h3, h4, h5⟩ := open_row (V0 := .slice a len cap) (fun d : Hd => .slice d.a d.zs.length d.cap) ⟨none, 0, []⟩
    (fun d => d.zs.length ≤ maxLen ∧ Strs w d.a d.zs ∧ (∀ z ∈ d.zs, z.size ≤ maxLen) ∧ (d.a = none → d.cap = 0)) Try.underlying23 (by kernel_rfl)
    (fun n V y hy => by
      obtain ⟨a, cap, zs, g1, g2⟩ := open_strs1 hy
      exact ⟨⟨a, cap, zs⟩, g1, g2⟩) hf
  cases h1
  refine ⟨hs.map Hd.zs, by simp, h2, fun j hj => ?_, fun z hz => ?_, h5⟩
  · rw [List.length_map] at hj
    obtain ⟨b, off, ha, hc⟩ := h3 j hj
    have e : hs.getD j ⟨none, 0, []⟩ = hs[j] := by simp [List.getD, hj]
    have e' : (hs.map Hd.zs).getD j [] = hs[j].zs := by simp [List.getD, hj]
    rw [e] at hc
    rw [e']
    obtain ⟨_, g2, _, g4⟩ := h4 hs[j] (List.getElem_mem hj)
    exact ⟨b, off, hs[j].a, hs[j].cap, ha, hc, g2, g4⟩
  · obtain ⟨d, hd, rfl⟩ := List.mem_map.1 hz
    obtain ⟨g1, _, g3, _⟩ := h4 d hd
    exact ⟨g1, g3⟩
end Go.Proofs.Qxb6600609a
