/-
  The clones: 'make', then element by element.
-/
import Derived.Test.Qxb6600608aBase
namespace Go.Proofs.Qxb6600608a
open Go.RowKit

/-- The first j of L, the rest still z. -/
def copied (L : List Value) (z : Value) (j : Nat) : List Value := L.take j ++ List.replicate (L.length - j) z
theorem copied_zero (L : List Value) (z : Value) : copied L z 0 = List.replicate L.length z := by simp [copied]
theorem copied_all (L : List Value) (z : Value) (j : Nat) (h : L.length = j) : copied L z j = L := by subst h; simp [copied]
theorem copied_set (L : List Value) (z : Value) (j : Nat) (h : j < L.length) : (copied L z j).set j (L.getD j z) = copied L z (j + 1) := by
  have hr : L.length - j = (L.length - (j + 1)) + 1 := by omega
  unfold copied
  rw [List.take_succ_eq_append_getElem h, hr, List.replicate_succ, List.set_append_right _ _ (by simp; omega)]
  have e0 : j - (L.take j).length = 0 := by simp; omega
  rw [e0, List.set_cons_zero, List.append_assoc]
  simp [List.getD, h]
theorem copied_of {α : Type} (f : α → Value) (d : α) (zs : List α) (j : Nat) (h : j < zs.length) : (copied (zs.map f) (f d) j).set j (f (zs.getD j d)) = copied (zs.map f) (f d) (j + 1) := by
  rw [← copied_set _ _ _ (by rw [List.length_map]; exact h)]
  congr 1
  simp [List.getD, h]
theorem own_made {α : Type} (f : α → Value) (d : α) {w1 : World} {base n e : Nat} {v : Value} (zs : List α) (hl : zs.length = n) (hc : (f d).cells = #[f d])
    (hown : w1.ownsRow base e 1 v n (madeCells (f d).cells (n * 1)).toList) : w1.ownsRow base e 1 v n (copied (zs.map f) (f d) 0) := by
  rw [copied_zero, List.length_map, hl]
  have h : (madeCells (f d).cells (n * 1)).toList = List.replicate n (f d) := by rw [Nat.mul_one, hc]; exact toList_madeCells_one _ _
  rwa [h] at hown

/-- The slice of the elements zs lies at a, if there are any. -/
def RowAt {α : Type} (f : α → Value) (d : α) (w : World) (a : Option Addr) (zs : List α) : Prop :=
  zs = [] ∨ ∃ b off, a = some ⟨b, off, none⟩ ∧ ∀ i, i < zs.length → w.cell? ⟨b, off + i, none⟩ = some (f (zs.getD i d))
theorem RowAt.below {α : Type} {f : α → Value} {d : α} {w w1 : World} {a : Option Addr} {zs : List α} (h : RowAt f d w a zs) (hb : Below w.heap.size w w1) : RowAt f d w1 a zs := by
  rcases h with h' | ⟨b, off, ha, hc⟩
  · exact .inl h'
  · exact .inr ⟨b, off, ha, fun i hi => (hb.cell (p := ⟨b, off + i, none⟩) (World.block_lt_of_cell? _ _ (hc i hi))).trans (hc i hi)⟩

theorem Try.info5 : (Try.prog.info? 5).map (fun i => (i.zero, i.size, i.bytes)) = some (some (.int .u8 0), 1, 1) := by kernel_rfl
theorem clU_nil (w : World) : Calls Try.prog 20 #[.slice none 0 0] w fun e w' => e = .returned (.slice none 0 0) ∧ w' = w := by
  have hnil := fun w => Lib.run_eql_slice_nil (P := Try.prog) w 33 5 none 0 0 0 0 Try.underlying33
  go_enter Try.func20, Try.ntmps20
  go_wp2
  go_ret
  exact ⟨rfl, rfl⟩

theorem clU_empty (x : Addr) (cap : Nat) (w : World) :
    Calls Try.prog 20 #[.slice (some x) 0 cap] w fun e w' => ∃ g : Nat, e = .returned (.slice (some ⟨g, 0, none⟩) 0 0) ∧ Below w.heap.size w w' := by
  have hnil := fun w => Lib.run_eql_slice_nil (P := Try.prog) w 33 5 (some x) 0 cap 0 0 Try.underlying33
  obtain ⟨i0, hi, hz0, hz1, hz2⟩ := info_parts Try.info5
  go_enter Try.func20, Try.ntmps20
  go_wp2_with (at_make; refine wpList_make_full _ rfl _ _ 33 rfl w.heap.size 5 i0 ((Value.int .u8) 0) 1 Try.underlying33 hi hz0 hz1 _ _ _ _ 0 rfl rfl (by omega) (by omega) (by rw [hz2]; omega) (by unfold maxLen; omega) (by omega) ?_; intro w1 hown hgrow)
  have hl1 : Below w.heap.size w w1 := (Below.refl _ _).grown hgrow (by omega) (by simp)
  clear hown hgrow hz0 hz1 hz2 hi hnil
  refine wp_loop_rounds 1 ?_
  rw [rounds_succ]
  go_wp2
  go_ret
  exact ⟨_, rfl, hl1⟩

set_option maxHeartbeats 400000 in
theorem clU_some (b off cap : Nat) (zs : List Int) (w : World) (hm : zs.length ≤ 1048576) (hbl : b < w.heap.size)
    (hc : ∀ i, i < zs.length → w.cell? ⟨b, off + i, none⟩ = some ((Value.int .u8) (zs.getD i 0))) :
    Calls Try.prog 20 #[.slice (some ⟨b, off, none⟩) zs.length cap] w fun e w' => e = .returned (.slice (some ⟨w.heap.size, 0, none⟩) zs.length zs.length) ∧ w'.ownsRow w.heap.size 5 1 (.slice (some ⟨w.heap.size, 0, none⟩) zs.length zs.length) zs.length (zs.map (Value.int .u8)) ∧ Below w.heap.size w w' := by
  have hnil := fun w n => Lib.run_eql_slice_nil (P := Try.prog) w 33 5 (some ⟨b, off, none⟩) n cap 0 0 Try.underlying33
  obtain ⟨i0, hi, hz0, hz1, hz2⟩ := info_parts Try.info5
  obtain ⟨n, hn⟩ : ∃ n, n = zs.length := ⟨_, rfl⟩
  have HN : Hid (n = zs.length) := hn
  rw [← hn] at hm hc ⊢
  clear hn
  go_enter Try.func20, Try.ntmps20
  go_wp2_with (at_make; refine wpList_make_full _ rfl _ _ 33 rfl w.heap.size 5 i0 ((Value.int .u8) 0) 1 Try.underlying33 hi hz0 hz1 _ _ _ _ n rfl rfl (by omega) (by omega) (by rw [hz2]; omega) (by unfold maxLen; omega) (by omega) ?_; intro w1 hown hgrow)
  have hl1 : Below w.heap.size w w1 := (Below.refl _ _).grown hgrow (by omega) (by simp)
  have hown1 := own_made ((Value.int .u8)) 0 zs HN.out.symm rfl hown
  clear hown hgrow hz0 hz1 hz2 hi hnil
  go_loopw [4] (fun iv wr => ∃ j : Nat, j ≤ n ∧ iv = .int .i64 j ∧ wr.ownsRow w.heap.size 5 1 (.slice (some ⟨w.heap.size, 0, none⟩) n n) n (copied (zs.map (Value.int .u8)) ((Value.int .u8) 0) j) ∧ Below w.heap.size w wr) (fun iv _ => n - (intOf iv).toNat)
  case atStart => exact ⟨0, by omega, rfl, hown1, hl1⟩
  case round =>
    clear hown1 hl1
    obtain ⟨j, hj, rfl, hown, hbel⟩ := hrel
    by_cases c : j < n
    · have hcell := (hbel.cell (p := ⟨b, off + j, none⟩) hbl).trans (hc j c)
      obtain ⟨u, hu⟩ : ∃ u, wr.cell? ⟨w.heap.size, j, none⟩ = some u := by
        rw [hown.cellAt j (by omega)]
        exact ⟨_, List.getElem?_eq_getElem (by rw [hown.1]; omega)⟩
      have hf := hown.frozenAt j
      have st := (hown.stored j ((Value.int .u8) (zs.getD j 0))).1
      rw [copied_of ((Value.int .u8)) 0 zs j (by rw [← HN.out]; exact c)] at st
      have HS : Hid _ := st
      clear st hc
      obtain ⟨x, hx⟩ : ∃ x, x = zs.getD j 0 := ⟨_, rfl⟩
      rw [← hx] at hcell HS
      clear hx
      go_wp2
      go_roundw
      case rel => exact ⟨j + 1, by omega, by go_num, HS.out, hbel.setCell (Nat.le_refl _) _⟩
      case measure => simp [intOf]; omega
    · go_wp2
      go_ret
      have ej : j = n := by omega
      subst ej
      refine ⟨rfl, ?_, hbel⟩
      rwa [copied_all _ _ _ (by rw [List.length_map]; exact HN.out.symm)] at hown

/-- The clone, in new memory (a nil one: nil). -/
theorem clU_any (a : Option Addr) (cap : Nat) (zs : List Int) (w : World) (hm : zs.length ≤ 1048576) (hr : RowAt ((Value.int .u8)) 0 w a zs) (hn : a = none → cap = 0) :
    Calls Try.prog 20 #[.slice a zs.length cap] w fun e w' => ∃ a' cap', e = .returned (.slice a' zs.length cap') ∧ RowAt ((Value.int .u8)) 0 w' a' zs ∧ Below w.heap.size w w' ∧ (zs ≠ [] → ∃ g, a' = some ⟨g, 0, none⟩) := by
  by_cases h0 : zs = []
  · subst h0
    cases a with
    | none =>
      rw [hn rfl]
      refine (clU_nil w).mono fun e w' ⟨he, hw⟩ => ?_
      exact ⟨none, 0, he, .inl rfl, hw ▸ Below.refl _ _, fun h => absurd rfl h⟩
    | some x =>
      refine (clU_empty x cap w).mono fun e w' ⟨g, he, hw⟩ => ?_
      exact ⟨_, _, he, .inl rfl, hw, fun h => absurd rfl h⟩
  · rcases hr with h | ⟨b, off, rfl, hc⟩
    · exact absurd h h0
    · have hl : 0 < zs.length := List.length_pos_iff.2 h0
      refine (clU_some b off cap zs w hm ?_ hc).mono fun e w' ⟨he, hown, hw⟩ => ⟨_, _, he, .inr ⟨_, _, rfl, fun i hi => ?_⟩, hw, fun _ => ⟨_, rfl⟩⟩
      · exact World.block_lt_of_cell? _ _ (hc 0 hl)
      · rw [Nat.zero_add, hown.cellAt i (by omega)]
        simp [List.getD, hi]

theorem Try.info2 : (Try.prog.info? 2).map (fun i => (i.zero, i.size, i.bytes)) = some (some (.int .i64 0), 1, 8) := by kernel_rfl
theorem clN_nil (w : World) : Calls Try.prog 29 #[.slice none 0 0] w fun e w' => e = .returned (.slice none 0 0) ∧ w' = w := by
  have hnil := fun w => Lib.run_eql_slice_nil (P := Try.prog) w 44 2 none 0 0 0 0 Try.underlying44
  go_enter Try.func29, Try.ntmps29
  go_wp2
  go_ret
  exact ⟨rfl, rfl⟩

theorem clN_empty (x : Addr) (cap : Nat) (w : World) :
    Calls Try.prog 29 #[.slice (some x) 0 cap] w fun e w' => ∃ g : Nat, e = .returned (.slice (some ⟨g, 0, none⟩) 0 0) ∧ Below w.heap.size w w' := by
  have hnil := fun w => Lib.run_eql_slice_nil (P := Try.prog) w 44 2 (some x) 0 cap 0 0 Try.underlying44
  obtain ⟨i0, hi, hz0, hz1, hz2⟩ := info_parts Try.info2
  go_enter Try.func29, Try.ntmps29
  go_wp2_with (at_make; refine wpList_make_full _ rfl _ _ 44 rfl w.heap.size 2 i0 ((Value.int .i64) 0) 1 Try.underlying44 hi hz0 hz1 _ _ _ _ 0 rfl rfl (by omega) (by omega) (by rw [hz2]; omega) (by unfold maxLen; omega) (by omega) ?_; intro w1 hown hgrow)
  have hl1 : Below w.heap.size w w1 := (Below.refl _ _).grown hgrow (by omega) (by simp)
  clear hown hgrow hz0 hz1 hz2 hi hnil
  refine wp_loop_rounds 1 ?_
  rw [rounds_succ]
  go_wp2
  go_ret
  exact ⟨_, rfl, hl1⟩

set_option maxHeartbeats 400000 in
theorem clN_some (b off cap : Nat) (zs : List Int) (w : World) (hm : zs.length ≤ 1048576) (hbl : b < w.heap.size)
    (hc : ∀ i, i < zs.length → w.cell? ⟨b, off + i, none⟩ = some ((Value.int .i64) (zs.getD i 0))) :
    Calls Try.prog 29 #[.slice (some ⟨b, off, none⟩) zs.length cap] w fun e w' => e = .returned (.slice (some ⟨w.heap.size, 0, none⟩) zs.length zs.length) ∧ w'.ownsRow w.heap.size 2 1 (.slice (some ⟨w.heap.size, 0, none⟩) zs.length zs.length) zs.length (zs.map (Value.int .i64)) ∧ Below w.heap.size w w' := by
  have hnil := fun w n => Lib.run_eql_slice_nil (P := Try.prog) w 44 2 (some ⟨b, off, none⟩) n cap 0 0 Try.underlying44
  obtain ⟨i0, hi, hz0, hz1, hz2⟩ := info_parts Try.info2
  obtain ⟨n, hn⟩ : ∃ n, n = zs.length := ⟨_, rfl⟩
  have HN : Hid (n = zs.length) := hn
  rw [← hn] at hm hc ⊢
  clear hn
  go_enter Try.func29, Try.ntmps29
  go_wp2_with (at_make; refine wpList_make_full _ rfl _ _ 44 rfl w.heap.size 2 i0 ((Value.int .i64) 0) 1 Try.underlying44 hi hz0 hz1 _ _ _ _ n rfl rfl (by omega) (by omega) (by rw [hz2]; omega) (by unfold maxLen; omega) (by omega) ?_; intro w1 hown hgrow)
  have hl1 : Below w.heap.size w w1 := (Below.refl _ _).grown hgrow (by omega) (by simp)
  have hown1 := own_made ((Value.int .i64)) 0 zs HN.out.symm rfl hown
  clear hown hgrow hz0 hz1 hz2 hi hnil
  go_loopw [4] (fun iv wr => ∃ j : Nat, j ≤ n ∧ iv = .int .i64 j ∧ wr.ownsRow w.heap.size 2 1 (.slice (some ⟨w.heap.size, 0, none⟩) n n) n (copied (zs.map (Value.int .i64)) ((Value.int .i64) 0) j) ∧ Below w.heap.size w wr) (fun iv _ => n - (intOf iv).toNat)
  case atStart => exact ⟨0, by omega, rfl, hown1, hl1⟩
  case round =>
    clear hown1 hl1
    obtain ⟨j, hj, rfl, hown, hbel⟩ := hrel
    by_cases c : j < n
    · have hcell := (hbel.cell (p := ⟨b, off + j, none⟩) hbl).trans (hc j c)
      obtain ⟨u, hu⟩ : ∃ u, wr.cell? ⟨w.heap.size, j, none⟩ = some u := by
        rw [hown.cellAt j (by omega)]
        exact ⟨_, List.getElem?_eq_getElem (by rw [hown.1]; omega)⟩
      have hf := hown.frozenAt j
      have st := (hown.stored j ((Value.int .i64) (zs.getD j 0))).1
      rw [copied_of ((Value.int .i64)) 0 zs j (by rw [← HN.out]; exact c)] at st
      have HS : Hid _ := st
      clear st hc
      obtain ⟨x, hx⟩ : ∃ x, x = zs.getD j 0 := ⟨_, rfl⟩
      rw [← hx] at hcell HS
      clear hx
      go_wp2
      go_roundw
      case rel => exact ⟨j + 1, by omega, by go_num, HS.out, hbel.setCell (Nat.le_refl _) _⟩
      case measure => simp [intOf]; omega
    · go_wp2
      go_ret
      have ej : j = n := by omega
      subst ej
      refine ⟨rfl, ?_, hbel⟩
      rwa [copied_all _ _ _ (by rw [List.length_map]; exact HN.out.symm)] at hown

/-- The clone, in new memory (a nil one: nil). -/
theorem clN_any (a : Option Addr) (cap : Nat) (zs : List Int) (w : World) (hm : zs.length ≤ 1048576) (hr : RowAt ((Value.int .i64)) 0 w a zs) (hn : a = none → cap = 0) :
    Calls Try.prog 29 #[.slice a zs.length cap] w fun e w' => ∃ a' cap', e = .returned (.slice a' zs.length cap') ∧ RowAt ((Value.int .i64)) 0 w' a' zs ∧ Below w.heap.size w w' ∧ (zs ≠ [] → ∃ g, a' = some ⟨g, 0, none⟩) := by
  by_cases h0 : zs = []
  · subst h0
    cases a with
    | none =>
      rw [hn rfl]
      refine (clN_nil w).mono fun e w' ⟨he, hw⟩ => ?_
      exact ⟨none, 0, he, .inl rfl, hw ▸ Below.refl _ _, fun h => absurd rfl h⟩
    | some x =>
      refine (clN_empty x cap w).mono fun e w' ⟨g, he, hw⟩ => ?_
      exact ⟨_, _, he, .inl rfl, hw, fun h => absurd rfl h⟩
  · rcases hr with h | ⟨b, off, rfl, hc⟩
    · exact absurd h h0
    · have hl : 0 < zs.length := List.length_pos_iff.2 h0
      refine (clN_some b off cap zs w hm ?_ hc).mono fun e w' ⟨he, hown, hw⟩ => ⟨_, _, he, .inr ⟨_, _, rfl, fun i hi => ?_⟩, hw, fun _ => ⟨_, rfl⟩⟩
      · exact World.block_lt_of_cell? _ _ (hc 0 hl)
      · rw [Nat.zero_add, hown.cellAt i (by omega)]
        simp [List.getD, hi]
end Go.Proofs.Qxb6600608a

