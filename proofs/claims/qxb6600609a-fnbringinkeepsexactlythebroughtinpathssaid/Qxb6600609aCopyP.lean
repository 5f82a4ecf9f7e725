/-
  'zzqCopyPaths' (9).
-/
import Derived.Test.Qxb6600609aCopy
namespace Go.Proofs.Qxb6600609a
open Go.RowKit
open Plain
set_option linter.unusedVariables false

theorem Try.info22 : (Try.prog.info? 22).map (fun i => (i.zero, i.size, i.bytes)) = some (some (.slice none 0 0), 1, 24) := by kernel_rfl
theorem clP_nil (w : World) : Calls Try.prog 9 #[.slice none 0 0] w fun e w' => e = .returned (.slice none 0 0) ∧ w' = w := by
  have hnil := fun w => Lib.run_eql_slice_nil (P := Try.prog) w 23 22 none 0 0 0 0 Try.underlying23
  go_enter Try.func9, Try.ntmps9
  go_wp2
  go_ret
  exact ⟨rfl, rfl⟩

theorem clP_empty (x : Addr) (cap : Nat) (w : World) :
    Calls Try.prog 9 #[.slice (some x) 0 cap] w fun e w' => e = .returned (.slice (some ⟨w.heap.size, 0, none⟩) 0 0) ∧ Below w.heap.size w w' := by
  have hnil := fun w => Lib.run_eql_slice_nil (P := Try.prog) w 23 22 (some x) 0 cap 0 0 Try.underlying23
  obtain ⟨i0, hi, hz0, hz1, hz2⟩ := info_parts Try.info22
  go_enter Try.func9, Try.ntmps9
  go_wp2_with (at_make; refine wpList_make_full _ rfl _ _ 23 rfl w.heap.size 22 i0 (.slice none 0 0) 1 Try.underlying23 hi hz0 hz1 _ _ _ _ 0 rfl rfl (by omega) (by omega) (by rw [hz2]; omega) (by unfold maxLen; omega) (by omega) ?_; intro w1 hown hgrow)
  have hl1 : Below w.heap.size w w1 := (Below.refl _ _).grown hgrow (by omega) (by simp)
  clear hown hgrow hz0 hz1 hz2 hi hnil
  refine wp_loop_rounds 1 ?_
  rw [rounds_succ]
  go_wp2
  go_ret
  exact ⟨rfl, hl1⟩

/-- Ahead of round j: the first j are copied. -/
structure Cp (w wr : World) (n j : Nat) (pss : List (List ByteArray)) : Prop where
  cell : ∀ k, k < n → ∃ u, wr.cell? ⟨w.heap.size, k, none⟩ = some u
  free : ∀ k, wr.frozen? ⟨w.heap.size, k, none⟩ = false
  got : ∀ k, k < j → ∃ aj cj, wr.cell? ⟨w.heap.size, k, none⟩ = some (.slice aj (pss.getD k []).length cj) ∧ Strs wr aj (pss.getD k []) ∧ (∀ x, aj = some x → w.heap.size < x.block) ∧ (aj = none → cj = 0)
  bel : Below w.heap.size w wr
  lt : w.heap.size < wr.heap.size

theorem Cp.call {w wr w2 : World} {n j : Nat} {pss : List (List ByteArray)} (h : Cp w wr n j pss) (hb : Below wr.heap.size wr w2) : Cp w w2 n j pss := by
  have hl := h.lt
  refine ⟨fun k hk => ?_, fun k => ?_, fun k hk => ?_, h.bel.trans (hb.mono (by omega)), Nat.lt_of_lt_of_le hl hb.size⟩
  · obtain ⟨u, hu⟩ := h.cell k hk
    exact ⟨u, (hb.cell (p := ⟨w.heap.size, k, none⟩) hl).trans hu⟩
  · rw [World.frozen?_of_block (w := wr) (a := ⟨w.heap.size, k, none⟩) (hb.block _ hl)]; exact h.free k
  · obtain ⟨aj, cj, h1, h2, h3, h4⟩ := h.got k hk
    exact ⟨aj, cj, (hb.cell (p := ⟨w.heap.size, k, none⟩) hl).trans h1, h2.below hb, h3, h4⟩

theorem Cp.store {w w2 : World} {n j : Nat} {pss : List (List ByteArray)} {a : Option Addr} {c : Nat} (h : Cp w w2 n j pss) (hj : j < n) (hs : Strs w2 a (pss.getD j [])) (ha : ∀ x, a = some x → w.heap.size < x.block) (hn : a = none → c = 0) :
    Cp w (w2.setCell ⟨w.heap.size, j, none⟩ (.slice a (pss.getD j []).length c)) n (j + 1) pss := by
  obtain ⟨u0, hu0⟩ := h.cell j hj
  have hstr : ∀ a' ps, Strs w2 a' ps → (∀ x, a' = some x → w.heap.size < x.block) → Strs (w2.setCell ⟨w.heap.size, j, none⟩ (.slice a (pss.getD j []).length c)) a' ps := by
    intro a' ps hs' ha'
    refine hs'.upd (F := fun k => k = w.heap.size) (Upd.set (F := fun k => k = w.heap.size) (Upd.refl _ w2) (a := ⟨w.heap.size, j, none⟩) rfl _) (fun x hx e => ?_)
    have := ha' x hx
    omega
  refine ⟨fun k hk => ?_, fun k => by rw [World.frozen?_setCell]; exact h.free k, fun k hk => ?_, h.bel.setCell (Nat.le_refl _) _, by simpa using h.lt⟩
  · by_cases e : k = j
    · subst e; exact ⟨_, World.cell?_setCell_same _ _ _ hu0⟩
    · obtain ⟨u, hu⟩ := h.cell k hk
      exact ⟨u, by rw [World.cell?_setCell_other _ _ _ _ (by intro e'; injection e'; omega)]; exact hu⟩
  · by_cases e : k = j
    · subst e
      exact ⟨a, c, World.cell?_setCell_same _ _ _ hu0, hstr _ _ hs ha, ha, hn⟩
    · obtain ⟨aj, cj, h1, h2, h3, h4⟩ := h.got k (by omega)
      exact ⟨aj, cj, by rw [World.cell?_setCell_other _ _ _ _ (by intro e'; injection e'; omega)]; exact h1, hstr _ _ h2 h3, h3, h4⟩

set_option maxHeartbeats 400000 in
theorem clP_some (b off cap : Nat) (pss : List (List ByteArray)) (w : World) (hm : pss.length ≤ 1048576) (hin : ∀ k, k < pss.length → (pss.getD k []).length ≤ 1048576) (hbl : b < w.heap.size)
    (hp : Pths w (some ⟨b, off, none⟩) pss) :
    Calls Try.prog 9 #[.slice (some ⟨b, off, none⟩) pss.length cap] w fun e w' => e = .returned (.slice (some ⟨w.heap.size, 0, none⟩) pss.length pss.length) ∧ Pths w' (some ⟨w.heap.size, 0, none⟩) pss ∧ Below w.heap.size w w' := by
  have hnil := fun w n => Lib.run_eql_slice_nil (P := Try.prog) w 23 22 (some ⟨b, off, none⟩) n cap 0 0 Try.underlying23
  obtain ⟨i0, hi, hz0, hz1, hz2⟩ := info_parts Try.info22
  obtain ⟨n, hn⟩ : ∃ n, n = pss.length := ⟨_, rfl⟩
  have HN : Hid (n = pss.length) := hn
  rw [← hn] at hm hin ⊢
  clear hn
  go_enter Try.func9, Try.ntmps9
  go_wp2_with (at_make; refine wpList_make_full _ rfl _ _ 23 rfl w.heap.size 22 i0 (.slice none 0 0) 1 Try.underlying23 hi hz0 hz1 _ _ _ _ n rfl rfl (by omega) (by omega) (by rw [hz2]; omega) (by unfold maxLen; omega) (by omega) ?_; intro w1 hown hgrow)
  have hC1 : Cp w w1 n 0 pss := by
    refine ⟨fun k hk => ?_, fun k => hown.frozenAt k, fun k hk => by omega, (Below.refl _ _).grown hgrow (by omega) (by simp), (hown.lt _ rfl).2⟩
    rw [hown.cellAt k (by omega)]
    exact ⟨_, List.getElem?_eq_getElem (by rw [hown.1]; omega)⟩
  clear hown hgrow hz0 hz1 hz2 hi hnil
  go_loopw [4] (fun iv wr => ∃ j : Nat, j ≤ n ∧ iv = .int .i64 j ∧ Cp w wr n j pss) (fun iv _ => n - (intOf iv).toNat)
  case atStart => exact ⟨0, by omega, rfl, hC1⟩
  case round =>
    clear hC1
    obtain ⟨j, hj, rfl, hC⟩ := hrel
    by_cases c : j < n
    · obtain ⟨B, o, aj, cj, ha, hc, hs, hn⟩ := hp j (by rw [← HN.out]; exact c)
      cases ha
      have hcell := (hC.bel.cell (p := ⟨b, off + j, none⟩) hbl).trans hc
      have key := clS_any aj cj (pss.getD j []) wr (hin j c) (hs.below hC.bel) hn
      have HC : Hid (Cp w wr n j pss) := hC
      have HS : Hid (∀ (w2 : World) (a : Option Addr) (c : Nat), Cp w w2 n j pss → Strs w2 a (pss.getD j []) → (∀ x, a = some x → w.heap.size < x.block) → (a = none → c = 0) → Cp w (w2.setCell ⟨w.heap.size, j, none⟩ (.slice a (pss.getD j []).length c)) n (j + 1) pss) := fun w2 a c' h h1 h2 h3 => h.store c h1 h2 h3
      clear hC hc hs hn hp hin
      obtain ⟨zs, hx⟩ : ∃ x, x = pss.getD j [] := ⟨_, rfl⟩
      rw [← hx] at hcell HS key
      clear hx
      go_wp2_with (go_at_call 8; go_must (refine key.mono ?_; rintro e w2 ⟨a', c', rfl, hs2, hb2, hf2, hn2⟩; have HC2 : Hid (Cp w w2 n j pss) := HC.out.call hb2; obtain ⟨u, hu⟩ := HC2.out.cell j c; have hfr := HC2.out.free j; have HF : Hid (∀ x, a' = some x → w.heap.size < x.block) := (fun x hx => Nat.lt_of_lt_of_le HC.out.lt (hf2 x hx)); have HNN : Hid (a' = none → c' = 0) := hn2; have HSS : Hid (Strs w2 a' zs) := hs2; clear hs2 hb2 hf2 hn2 key))
      go_roundw
      case rel => exact ⟨j + 1, by omega, by go_num, HS.out _ _ _ HC2.out HSS.out HF.out HNN.out⟩
      case measure => simp [intOf]; omega
    · go_wp2
      go_ret
      have ej : j = n := by omega
      subst ej
      refine ⟨rfl, fun k hk => ?_, hC.bel⟩
      obtain ⟨aj, cj, h1, h2, h3, h4⟩ := hC.got k (by rw [HN.out]; exact hk)
      exact ⟨_, _, aj, cj, rfl, by rw [Nat.zero_add]; exact h1, h2, h4⟩

/-- The copy, in new memory (a nil one: nil). -/
theorem clP_any (a : Option Addr) (cap : Nat) (pss : List (List ByteArray)) (w : World) (hm : pss.length ≤ 1048576) (hin : ∀ k, k < pss.length → (pss.getD k []).length ≤ 1048576) (hr : Pths w a pss) (hn : a = none → cap = 0) :
    Calls Try.prog 9 #[.slice a pss.length cap] w fun e w' => ∃ a' cap', e = .returned (.slice a' pss.length cap') ∧ Pths w' a' pss ∧ Below w.heap.size w w' := by
  by_cases h0 : pss = []
  · subst h0
    cases a with
    | none =>
      rw [hn rfl]
      refine (clP_nil w).mono fun e w' ⟨he, hw⟩ => ?_
      exact ⟨none, 0, he, fun j hj => by simp at hj, hw ▸ Below.refl _ _⟩
    | some x =>
      refine (clP_empty x cap w).mono fun e w' ⟨he, hw⟩ => ?_
      exact ⟨_, _, he, fun j hj => by simp at hj, hw⟩
  · have hl : 0 < pss.length := List.length_pos_iff.2 h0
    obtain ⟨b, off, aj, cj, rfl, hc0, _⟩ := hr 0 hl
    exact (clP_some b off cap pss w hm hin (World.block_lt_of_cell? _ _ hc0) hr).mono fun e w' ⟨he, hp, hw⟩ => ⟨_, _, he, hp, hw⟩
end Go.Proofs.Qxb6600609a
