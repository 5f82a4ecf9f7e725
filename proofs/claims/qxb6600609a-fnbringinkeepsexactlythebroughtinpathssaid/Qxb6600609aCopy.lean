/-
  The clones: 'make', then element by element.
-/
import Derived.Test.Qxb6600609aPths
namespace Go.Proofs.Qxb6600609a
open Go.RowKit

/-- The first j of L, the rest still z. -/
def copied (L : List Value) (z : Value) (j : Nat) : List Value := L.take j ++ List.replicate (L.length - j) z
theorem copied_zero (L : List Value) (z : Value) : copied L z 0 = List.replicate L.length z := by simp [copied]
theorem copied_all (L : List Value) (z : Value) (j : Nat) (h : L.length = j) : copied L z j = L := by subst h; simp [copied]
theorem copied_set (L : List Value) (z : Value) (j : Nat) (h : j < L.length) : (copied L z j).set j (L.getD j z) = copied L z (j + 1) := by
  have hr : L.length - j = (L.length - (j + 1)) + 1 := by omega
  unfold copied
  rw [List.take_succ_eq_append_getElem h, hr, List.replicate_succ, List.set_append_right _ _ (by simp; omega)]
  have e0 : j - (L.take j).length = 0 := by simp; omega
  rw [e0, List.set_cons_zero, List.append_assoc]
  simp [List.getD, h]
theorem copied_of {α : Type} (f : α → Value) (d : α) (zs : List α) (j : Nat) (h : j < zs.length) : (copied (zs.map f) (f d) j).set j (f (zs.getD j d)) = copied (zs.map f) (f d) (j + 1) := by
  rw [← copied_set _ _ _ (by rw [List.length_map]; exact h)]
  congr 1
  simp [List.getD, h]
theorem own_made {α : Type} (f : α → Value) (d : α) {w1 : World} {base n e : Nat} {v : Value} (zs : List α) (hl : zs.length = n) (hc : (f d).cells = #[f d])
    (hown : w1.ownsRow base e 1 v n (madeCells (f d).cells (n * 1)).toList) : w1.ownsRow base e 1 v n (copied (zs.map f) (f d) 0) := by
  rw [copied_zero, List.length_map, hl]
  have h : (madeCells (f d).cells (n * 1)).toList = List.replicate n (f d) := by rw [Nat.mul_one, hc]; exact toList_madeCells_one _ _
  rwa [h] at hown

theorem Try.info9 : (Try.prog.info? 9).map (fun i => (i.zero, i.size, i.bytes)) = some (some (.string ByteArray.empty), 1, 16) := by kernel_rfl
theorem clS_nil (w : World) : Calls Try.prog 8 #[.slice none 0 0] w fun e w' => e = .returned (.slice none 0 0) ∧ w' = w := by
  have hnil := fun w => Lib.run_eql_slice_nil (P := Try.prog) w 22 9 none 0 0 0 0 Try.underlying22
  go_enter Try.func8, Try.ntmps8
  go_wp2
  go_ret
  exact ⟨rfl, rfl⟩

theorem clS_empty (x : Addr) (cap : Nat) (w : World) :
    Calls Try.prog 8 #[.slice (some x) 0 cap] w fun e w' => e = .returned (.slice (some ⟨w.heap.size, 0, none⟩) 0 0) ∧ Below w.heap.size w w' := by
  have hnil := fun w => Lib.run_eql_slice_nil (P := Try.prog) w 22 9 (some x) 0 cap 0 0 Try.underlying22
  obtain ⟨i0, hi, hz0, hz1, hz2⟩ := info_parts Try.info9
  go_enter Try.func8, Try.ntmps8
  go_wp2_with (at_make; refine wpList_make_full _ rfl _ _ 22 rfl w.heap.size 9 i0 (Value.string ByteArray.empty) 1 Try.underlying22 hi hz0 hz1 _ _ _ _ 0 rfl rfl (by omega) (by omega) (by rw [hz2]; omega) (by unfold maxLen; omega) (by omega) ?_; intro w1 hown hgrow)
  have hl1 : Below w.heap.size w w1 := (Below.refl _ _).grown hgrow (by omega) (by simp)
  clear hown hgrow hz0 hz1 hz2 hi hnil
  refine wp_loop_rounds 1 ?_
  rw [rounds_succ]
  go_wp2
  go_ret
  exact ⟨rfl, hl1⟩

set_option maxHeartbeats 400000 in
theorem clS_some (b off cap : Nat) (zs : List ByteArray) (w : World) (hm : zs.length ≤ 1048576) (hbl : b < w.heap.size)
    (hc : ∀ i, i < zs.length → w.cell? ⟨b, off + i, none⟩ = some (Value.string (zs.getD i ByteArray.empty))) :
    Calls Try.prog 8 #[.slice (some ⟨b, off, none⟩) zs.length cap] w fun e w' => e = .returned (.slice (some ⟨w.heap.size, 0, none⟩) zs.length zs.length) ∧ w'.ownsRow w.heap.size 9 1 (.slice (some ⟨w.heap.size, 0, none⟩) zs.length zs.length) zs.length (zs.map Value.string) ∧ Below w.heap.size w w' := by
  have hnil := fun w n => Lib.run_eql_slice_nil (P := Try.prog) w 22 9 (some ⟨b, off, none⟩) n cap 0 0 Try.underlying22
  obtain ⟨i0, hi, hz0, hz1, hz2⟩ := info_parts Try.info9
  obtain ⟨n, hn⟩ : ∃ n, n = zs.length := ⟨_, rfl⟩
  have HN : Hid (n = zs.length) := hn
  rw [← hn] at hm hc ⊢
  clear hn
  go_enter Try.func8, Try.ntmps8
  go_wp2_with (at_make; refine wpList_make_full _ rfl _ _ 22 rfl w.heap.size 9 i0 (Value.string ByteArray.empty) 1 Try.underlying22 hi hz0 hz1 _ _ _ _ n rfl rfl (by omega) (by omega) (by rw [hz2]; omega) (by unfold maxLen; omega) (by omega) ?_; intro w1 hown hgrow)
  have hl1 : Below w.heap.size w w1 := (Below.refl _ _).grown hgrow (by omega) (by simp)
  have hown1 := own_made (Value.string) ByteArray.empty zs HN.out.symm rfl hown
  clear hown hgrow hz0 hz1 hz2 hi hnil
  go_loopw [4] (fun iv wr => ∃ j : Nat, j ≤ n ∧ iv = .int .i64 j ∧ wr.ownsRow w.heap.size 9 1 (.slice (some ⟨w.heap.size, 0, none⟩) n n) n (copied (zs.map Value.string) (Value.string ByteArray.empty) j) ∧ Below w.heap.size w wr) (fun iv _ => n - (intOf iv).toNat)
  case atStart => exact ⟨0, by omega, rfl, hown1, hl1⟩
  case round =>
    clear hown1 hl1
    obtain ⟨j, hj, rfl, hown, hbel⟩ := hrel
    by_cases c : j < n
    · have hcell := (hbel.cell (p := ⟨b, off + j, none⟩) hbl).trans (hc j c)
      obtain ⟨u, hu⟩ : ∃ u, wr.cell? ⟨w.heap.size, j, none⟩ = some u := by
        rw [hown.cellAt j (by omega)]
        exact ⟨_, List.getElem?_eq_getElem (by rw [hown.1]; omega)⟩
      have hf := hown.frozenAt j
      have st := (hown.stored j (Value.string (zs.getD j ByteArray.empty))).1
      rw [copied_of (Value.string) ByteArray.empty zs j (by rw [← HN.out]; exact c)] at st
      have HS : Hid _ := st
      clear st hc
      obtain ⟨x, hx⟩ : ∃ x, x = zs.getD j ByteArray.empty := ⟨_, rfl⟩
      rw [← hx] at hcell HS
      clear hx
      go_wp2
      go_roundw
      case rel => exact ⟨j + 1, by omega, by go_num, HS.out, hbel.setCell (Nat.le_refl _) _⟩
      case measure => simp [intOf]; omega
    · go_wp2
      go_ret
      have ej : j = n := by omega
      subst ej
      refine ⟨rfl, ?_, hbel⟩
      rwa [copied_all _ _ _ (by rw [List.length_map]; exact HN.out.symm)] at hown

/-- The clone, in new memory (a nil one: nil). -/
theorem clS_any (a : Option Addr) (cap : Nat) (zs : List ByteArray) (w : World) (hm : zs.length ≤ 1048576) (hr : Strs w a zs) (hn : a = none → cap = 0) :
    Calls Try.prog 8 #[.slice a zs.length cap] w fun e w' => ∃ a' cap', e = .returned (.slice a' zs.length cap') ∧ Strs w' a' zs ∧ Below w.heap.size w w' ∧ (∀ x, a' = some x → w.heap.size ≤ x.block) ∧ (a' = none → cap' = 0) := by
  by_cases h0 : zs = []
  · subst h0
    cases a with
    | none =>
      rw [hn rfl]
      refine (clS_nil w).mono fun e w' ⟨he, hw⟩ => ?_
      exact ⟨none, 0, he, fun j hj => by simp at hj, hw ▸ Below.refl _ _, ⟨fun x h => (by cases h), fun _ => rfl⟩⟩
    | some x =>
      refine (clS_empty x cap w).mono fun e w' ⟨he, hw⟩ => ?_
      exact ⟨_, _, he, fun j hj => by simp at hj, hw, ⟨fun x h => (by cases h; exact Nat.le_refl _), fun h => (by cases h)⟩⟩
  · have hl : 0 < zs.length := List.length_pos_iff.2 h0
    obtain ⟨b, off, rfl, hc0⟩ := hr 0 hl
    refine (clS_some b off cap zs w hm (World.block_lt_of_cell? _ _ hc0) (fun i hi => ?_)).mono fun e w' ⟨he, hown, hw⟩ => ⟨_, _, he, fun i hi => ⟨_, _, rfl, ?_⟩, hw, ⟨fun x h => (by cases h; exact Nat.le_refl _), fun h => (by cases h)⟩⟩
    · obtain ⟨b', off', e', hc⟩ := hr i hi
      cases e'
      exact hc
    · rw [Nat.zero_add, hown.cellAt i (by omega)]
      simp [List.getD, hi]
end Go.Proofs.Qxb6600609a
