/-
  From a slice that came in to 'RowAt'.
-/
import Derived.Test.Qxb6600554aClones
import Derived.ProofKit
import Derived.Deep.Slices
namespace Go.Proofs.Qxb6600554a
open Go.ChangeShapes Go.WideShapes Go.ChangeAt Go.RowKit Go.Deep

section
variable {α H : Type} {enc : TypeId × Value → H} {P : Program} {w : World} {base : Nat} {held : Bool}

theorem open_row (f : α → Value) (d : α) (good : α → Prop) {t e : TypeId} {a : Option Addr} {len cap : Nat} {x : DataW H} {p : List MemPlace} (ht : P.underlying t = some (.slice e)) (hc : P.cellsOf e = 1)
    (hel : ∀ n V y, DataW.trod enc P w base (fun _ => true) held n e [V] = some y → ∃ x, V = f x ∧ good x)
    (h : DataW.Trod enc P w base (fun _ => true) held t (.slice a len cap) x p) :
    ∃ zs : List α, zs.length = len ∧ len ≤ maxLen ∧ RowAt f d w a zs ∧ (∀ z ∈ zs, good z) ∧ (a = none → cap = 0) := by
  obtain ⟨fuel, hf⟩ := h
  rcases open_slice1 ht hc hf with ⟨hcs, _⟩ | ⟨b, l, c, m, n, V, D, Pl, hcs, hb, hl, hm, hmm, _, hx⟩
  · simp [Value.cells] at hcs
    obtain ⟨rfl, rfl, rfl⟩ := hcs
    exact ⟨[], rfl, by unfold maxLen; omega, .inl rfl, fun z hz => absurd hz List.not_mem_nil, fun _ => rfl⟩
  · simp [Value.cells] at hcs
    obtain ⟨rfl, rfl, rfl⟩ := hcs
    simp only [if_true] at hmm
    subst hmm
    have hch : ∀ i, ∃ x : α, i < m → V i = f x ∧ good x := by
      intro i
      by_cases hi : i < m
      · obtain ⟨x, h1, h2⟩ := hel _ _ _ (hx i hi).2
        exact ⟨x, fun _ => ⟨h1, h2⟩⟩
      · exact ⟨d, fun h => absurd h hi⟩
    obtain ⟨g, hg⟩ := Classical.skolem.1 hch
    refine ⟨(List.range len).map g, by simp, by omega, ?_, ?_, fun h => by cases h⟩
    · by_cases h0 : len = 0
      · exact .inl (by rw [h0]; rfl)
      · obtain ⟨bb, off, spot⟩ := b
        have hspot : spot = none := by simpa [Addr.add] using World.cell?_spot (hx 0 (by omega)).1
        subst hspot
        refine .inr ⟨bb, off, rfl, fun i hi => ?_⟩
        rw [List.length_map, List.length_range] at hi
        have := (hx i (by omega)).1
        rw [add_plain] at this
        rw [this, (hg i (by omega)).1]
        simp [List.getD, hi]
    · intro z hz
      obtain ⟨i, hi, rfl⟩ := List.mem_map.1 hz
      have hi' : i < len := List.mem_range.1 hi
      exact (hg i (by omega)).2
end

theorem open_strs {H : Type} {enc : TypeId × Value → H} {w : World} {base : Nat} {held : Bool} {a : Option Addr} {len cap : Nat} {x : DataW H} {p : List MemPlace}
    (h : DataW.Trod enc Try.prog w base (fun _ => true) held 32 (.slice a len cap) x p) :
    ∃ zs : List ByteArray, zs.length = len ∧ len ≤ maxLen ∧ RowAt Value.string ByteArray.empty w a zs ∧ (∀ z ∈ zs, z.size ≤ maxLen) ∧ (a = none → cap = 0) :=
  open_row Value.string ByteArray.empty (fun z => z.size ≤ maxLen) Try.underlying32 (by kernel_rfl) (fun n V y hy => by
    obtain ⟨s, h1, h2, h3⟩ := DataW.trod_string Try.underlying9 hy
    simp at h1
    exact ⟨s, h1, by first | exact h3 | exact h2⟩) h

theorem open_bls {H : Type} {enc : TypeId × Value → H} {w : World} {base : Nat} {held : Bool} {a : Option Addr} {len cap : Nat} {x : DataW H} {p : List MemPlace}
    (h : DataW.Trod enc Try.prog w base (fun _ => true) held 33 (.slice a len cap) x p) :
    ∃ zs : List Bool, zs.length = len ∧ len ≤ maxLen ∧ RowAt Value.bool false w a zs ∧ (a = none → cap = 0) := by
  obtain ⟨zs, h1, h2, h3, _, h4⟩ := open_row Value.bool false (fun _ => True) Try.underlying33 (by kernel_rfl) (fun n V y hy => by
    obtain ⟨s, h1, h2⟩ := DataW.trod_bool Try.underlying4 hy
    simp at h1
    exact ⟨s, h1, trivial⟩) h
  exact ⟨zs, h1, h2, h3, h4⟩

theorem open_nums {H : Type} {enc : TypeId × Value → H} {w : World} {base : Nat} {held : Bool} {a : Option Addr} {len cap : Nat} {x : DataW H} {p : List MemPlace}
    (h : DataW.Trod enc Try.prog w base (fun _ => true) held 34 (.slice a len cap) x p) :
    ∃ zs : List Int, zs.length = len ∧ len ≤ maxLen ∧ RowAt (Value.int .i64) 0 w a zs ∧ (a = none → cap = 0) := by
  obtain ⟨zs, h1, h2, h3, _, h4⟩ := open_row (Value.int .i64) 0 (fun _ => True) Try.underlying34 (by kernel_rfl) (fun n V y hy => by
    obtain ⟨s, h1, h2, h3⟩ := DataW.trod_int Try.underlying3 hy
    simp at h1
    exact ⟨s, h1, trivial⟩) h
  exact ⟨zs, h1, h2, h3, h4⟩
end Go.Proofs.Qxb6600554a
