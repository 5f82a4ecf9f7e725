/-
  From a slice that came in ('IsRow': the shell's own words) to 'Row8'.
-/
import Derived.Test.Qxb6606160aClone
import Derived.Test.Qxb6606160aPlace
import Derived.ProofKit
namespace Go.Proofs.Qxb6606160a
open Go.ChangeShapes Go.WideShapes Go.ChangeAt Go.RowKit
open Plain
theorem u8_bd {n : Int} (h : (Lit.int .u8 n).wf = true) : 0 ≤ n ∧ n ≤ 255 := by
  simp [Lit.wf, IntKind.min, IntKind.max, IntKind.signed, IntKind.bits] at h
  omega

/-- WHAT THE WALK IS TOLD OF A SLICE OF INTEGERS THAT CAME IN. -/
def IsRow (k : IntKind) (w : World) (a : Option Addr) (len cap : Nat) (zs : List Int) : Prop :=
  (a = none ∧ len = 0 ∧ cap = 0 ∧ zs = []) ∨
  ∃ x, a = some x ∧ len ≤ cap ∧ cap ≤ maxLen ∧ zs.length = cap ∧ (∀ i, i < zs.length → w.cell? (x.add i) = some (.int k (zs.getD i 0))) ∧ ∀ n ∈ zs, (Lit.int k n).wf = true

theorem isRow_row8 {w : World} {a : Option Addr} {len cap : Nat} {zs : List Int} (h : IsRow .u8 w a len cap zs) :
    ∃ ys : List Int, ys.length = len ∧ len ≤ maxLen ∧ Row8 w a ys ∧ (a = none → cap = 0) := by
  rcases h with ⟨rfl, rfl, rfl, rfl⟩ | ⟨x, rfl, hl, hm, hz, hc, hw⟩
  · exact ⟨[], rfl, by unfold maxLen; omega, ⟨by simp, .inl rfl⟩, fun _ => rfl⟩
  · refine ⟨zs.take len, by rw [List.length_take]; omega, by omega, ⟨fun n hn => u8_bd (hw n (List.mem_of_mem_take hn)), ?_⟩, fun h => by cases h⟩
    by_cases h0 : len = 0
    · exact .inl (by rw [h0]; rfl)
    · obtain ⟨b, off, spot⟩ := x
      have hspot : spot = none := by simpa [Addr.add] using World.cell?_spot (hc 0 (by omega))
      subst hspot
      refine .inr ⟨b, off, rfl, fun i hi => ?_⟩
      rw [List.length_take] at hi
      have := hc i (by omega)
      rw [add_plain] at this
      rw [this]
      congr 2
      simp [List.getD, show i < len by omega]
end Go.Proofs.Qxb6606160a
