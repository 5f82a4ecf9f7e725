/-
  'zzCloneBytes' (function 7), 'zzPlaceValueDigits' (function 9).
-/
import Derived.Test.Qxb6606160aPadded
namespace Go.Proofs.Qxb6606160a
open Go.RowKit
open Plain

theorem clone_nil (w : World) : Calls Try.prog 7 #[.slice none 0 0] w fun e w' => e = .returned (.slice none 0 0) ∧ w' = w := by
  have hnil := fun w => Lib.run_eql_slice_nil (P := Try.prog) w 22 5 none 0 0 0 0 Try.underlying22
  go_enter Try.func7, Try.ntmps7
  go_wp2
  go_ret
  exact ⟨rfl, rfl⟩

theorem row_of_own {w : World} {base g k : Nat} {zs : List Int} (hb : ∀ n ∈ zs, 0 ≤ n ∧ n ≤ 255) (hl : zs.length = k) (hown : w.ownsRow base 5 1 (.slice (some ⟨g, 0, none⟩) k k) k (zs.map (Value.int .u8))) : Row8 w (some ⟨g, 0, none⟩) zs := by
  refine ⟨hb, .inr ⟨_, _, rfl, fun i hi => ?_⟩⟩
  rw [Nat.zero_add, hown.cellAt i (by omega)]
  simp [List.getD, hi]

theorem own_made {w1 : World} {base n : Nat} {v : Value} (zs : List Int) (hl : zs.length = n)
    (hown : w1.ownsRow base 5 1 v n (madeCells (Value.int IntKind.u8 0).cells (n * 1)).toList) : w1.ownsRow base 5 1 v n (copied (zs.map (Value.int .u8)) (.int .u8 0) 0) := by
  rw [copied_zero, List.length_map, hl]
  have e : (madeCells (Value.int IntKind.u8 0).cells (n * 1)).toList = List.replicate n (Value.int .u8 0) := by rw [Nat.mul_one]; exact toList_madeCells_one _ _
  rwa [e] at hown

theorem copied_ints (zs : List Int) (j : Nat) (h : j < zs.length) : (copied (zs.map (Value.int .u8)) (.int .u8 0) j).set j (.int .u8 (zs.getD j 0)) = copied (zs.map (Value.int .u8)) (.int .u8 0) (j + 1) := by
  rw [← copied_set _ _ _ (by rw [List.length_map]; exact h)]
  congr 1
  simp [List.getD, h]

theorem clone_empty (x : Addr) (cap : Nat) (w : World) :
    Calls Try.prog 7 #[.slice (some x) 0 cap] w fun e w' => ∃ g : Nat, e = .returned (.slice (some ⟨g, 0, none⟩) 0 0) ∧ Below w.heap.size w w' := by
  have hnil := fun w => Lib.run_eql_slice_nil (P := Try.prog) w 22 5 (some x) 0 cap 0 0 Try.underlying22
  obtain ⟨i0, hi, hz0, hz1, hz2⟩ := info_parts Try.info5
  go_enter Try.func7, Try.ntmps7
  go_wp2_with (at_make; refine wpList_make_full _ rfl _ _ 22 rfl w.heap.size 5 i0 (.int .u8 0) 1 Try.underlying22 hi hz0 hz1 _ _ _ _ 0 rfl rfl (by omega) (by omega) (by rw [hz2]; omega) (by unfold maxLen; omega) (by omega) ?_; intro w1 hown hgrow)
  have hl1 : Below w.heap.size w w1 := (Below.refl _ _).grown hgrow (by omega) (by simp)
  clear hown hgrow hz0 hz1 hz2 hi hnil
  refine wp_loop_rounds 1 ?_
  rw [rounds_succ]
  go_wp2
  go_ret
  exact ⟨_, rfl, hl1⟩

set_option maxHeartbeats 400000 in
theorem clone_some (b off cap : Nat) (zs : List Int) (w : World) (hm : zs.length ≤ 1048576) (hb : ∀ n ∈ zs, 0 ≤ n ∧ n ≤ 255) (hbl : b < w.heap.size)
    (hc : ∀ i, i < zs.length → w.cell? ⟨b, off + i, none⟩ = some (.int .u8 (zs.getD i 0))) :
    Calls Try.prog 7 #[.slice (some ⟨b, off, none⟩) zs.length cap] w fun e w' => ∃ g : Nat, e = .returned (.slice (some ⟨g, 0, none⟩) zs.length zs.length) ∧ Row8 w' (some ⟨g, 0, none⟩) zs ∧ Below w.heap.size w w' := by
  have hnil := fun w n => Lib.run_eql_slice_nil (P := Try.prog) w 22 5 (some ⟨b, off, none⟩) n cap 0 0 Try.underlying22
  obtain ⟨i0, hi, hz0, hz1, hz2⟩ := info_parts Try.info5
  obtain ⟨n, hn⟩ : ∃ n, n = zs.length := ⟨_, rfl⟩
  have HN : Hid (n = zs.length) := hn
  rw [← hn] at hm hc ⊢
  clear hn
  go_enter Try.func7, Try.ntmps7
  go_wp2_with (at_make; refine wpList_make_full _ rfl _ _ 22 rfl w.heap.size 5 i0 (.int .u8 0) 1 Try.underlying22 hi hz0 hz1 _ _ _ _ n rfl rfl (by omega) (by omega) (by rw [hz2]; omega) (by unfold maxLen; omega) (by omega) ?_; intro w1 hown hgrow)
  have hl1 : Below w.heap.size w w1 := (Below.refl _ _).grown hgrow (by omega) (by simp)
  have hown1 := own_made zs HN.out.symm hown
  clear hown hgrow hz0 hz1 hz2 hi hnil
  go_loopw [4] (fun iv wr => ∃ j : Nat, j ≤ n ∧ iv = .int .i64 j ∧ wr.ownsRow w.heap.size 5 1 (.slice (some ⟨w.heap.size, 0, none⟩) n n) n (copied (zs.map (Value.int .u8)) (.int .u8 0) j) ∧ Below w.heap.size w wr) (fun iv _ => n - (intOf iv).toNat)
  case atStart => exact ⟨0, by omega, rfl, hown1, hl1⟩
  case round =>
    clear hown1 hl1
    obtain ⟨j, hj, rfl, hown, hbel⟩ := hrel
    by_cases c : j < n
    · have hcell := (hbel.cell (p := ⟨b, off + j, none⟩) hbl).trans (hc j c)
      obtain ⟨u, hu⟩ : ∃ u, wr.cell? ⟨w.heap.size, j, none⟩ = some u := by
        rw [hown.cellAt j (by omega)]
        exact ⟨_, List.getElem?_eq_getElem (by rw [hown.1]; omega)⟩
      have hf := hown.frozenAt j
      have st := (hown.stored j (.int .u8 (zs.getD j 0))).1
      rw [copied_ints zs j (by rw [← HN.out]; exact c)] at st
      have HS : Hid _ := st
      clear st hc
      obtain ⟨x, hx⟩ : ∃ x, x = zs.getD j 0 := ⟨_, rfl⟩
      rw [← hx] at hcell HS
      clear hx
      go_wp2
      go_roundw
      case rel => exact ⟨j + 1, by omega, by go_num, HS.out, hbel.setCell (Nat.le_refl _) _⟩
      case measure => simp [intOf]; omega
    · go_wp2
      go_ret
      have ej : j = n := by omega
      subst ej
      refine ⟨_, rfl, row_of_own (base := w.heap.size) hb HN.out.symm ?_, hbel⟩
      rwa [copied_all _ _ _ (by rw [List.length_map]; exact HN.out.symm)] at hown

/-- The clone of a slice that leads to 'zs': the same bytes, in new memory (a nil one: nil). -/
theorem clone_any (a : Option Addr) (cap : Nat) (zs : List Int) (w : World) (hm : zs.length ≤ 1048576) (hr : Row8 w a zs) (hn : a = none → cap = 0) :
    Calls Try.prog 7 #[.slice a zs.length cap] w fun e w' => ∃ a' cap', e = .returned (.slice a' zs.length cap') ∧ Row8 w' a' zs ∧ Below w.heap.size w w' := by
  obtain ⟨hb, h⟩ := hr
  by_cases h0 : zs = []
  · subst h0
    cases a with
    | none =>
      rw [hn rfl]
      refine (clone_nil w).mono fun e w' ⟨he, hw⟩ => ?_
      exact ⟨none, 0, he, ⟨hb, .inl rfl⟩, hw ▸ Below.refl _ _⟩
    | some x =>
      refine (clone_empty x cap w).mono fun e w' ⟨g, he, hw⟩ => ?_
      exact ⟨_, _, he, ⟨hb, .inl rfl⟩, hw⟩
  · rcases h with h | ⟨b, off, rfl, hc⟩
    · exact absurd h h0
    · have hl : 0 < zs.length := List.length_pos_iff.2 h0
      refine (clone_some b off cap zs w hm hb ?_ hc).mono fun e w' ⟨g, he, hr, hw⟩ => ⟨_, _, he, hr, hw⟩
      exact World.block_lt_of_cell? _ _ (hc 0 hl)
end Go.Proofs.Qxb6606160a
