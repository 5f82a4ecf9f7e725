/-
  Slices of slices of strings, read only.
-/
import Derived.Test.Qxb6600609aDown
namespace Go.Proofs.Qxb6600609a
open Go.RowKit
open Plain

/-- The slices of strings pss lie at a. -/
def Pths (w : World) (a : Option Addr) (pss : List (List ByteArray)) : Prop :=
  ∀ j, j < pss.length → ∃ B o aj cj, a = some ⟨B, o, none⟩ ∧ w.cell? ⟨B, o + j, none⟩ = some (.slice aj (pss.getD j []).length cj) ∧ Strs w aj (pss.getD j []) ∧ (aj = none → cj = 0)

theorem Strs.below {w w' : World} {a : Option Addr} {ps : List ByteArray} (h : Strs w a ps) (hb : Below w.heap.size w w') : Strs w' a ps := by
  intro j hj
  obtain ⟨B, o, ha, hc⟩ := h j hj
  exact ⟨B, o, ha, (hb.cell (p := ⟨B, o + j, none⟩) (World.block_lt_of_cell? _ _ hc)).trans hc⟩
theorem Pths.below {w w' : World} {a : Option Addr} {pss : List (List ByteArray)} (h : Pths w a pss) (hb : Below w.heap.size w w') : Pths w' a pss := by
  intro j hj
  obtain ⟨B, o, aj, cj, ha, hc, hs, hn⟩ := h j hj
  exact ⟨B, o, aj, cj, ha, (hb.cell (p := ⟨B, o + j, none⟩) (World.block_lt_of_cell? _ _ hc)).trans hc, hs.below hb, hn⟩
theorem Strs.lt {w : World} {a : Option Addr} {ps : List ByteArray} (h : Strs w a ps) (h0 : ps ≠ []) : ∀ x, a = some x → x.block < w.heap.size := by
  intro x hx
  obtain ⟨B, o, ha, hc⟩ := h 0 (List.length_pos_iff.2 h0)
  rw [hx] at ha
  cases ha
  exact World.block_lt_of_cell? _ _ hc
end Go.Proofs.Qxb6600609a
