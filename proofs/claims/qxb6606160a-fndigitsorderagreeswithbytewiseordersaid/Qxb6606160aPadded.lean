/-
  'zzPaddedDecimal' (function 10): the text of n at K places, in new memory.
-/
import Derived.Test.Qxb6606160aDigits
import Derived.OwnWalk
import Derived.Laws.OwnMore
namespace Go.Proofs.Qxb6606160a
open Go.RowKit
open Plain

theorem Try.info5 : (Try.prog.info? 5).map (fun i => (i.zero, i.size, i.bytes)) = some (some (.int .u8 0), 1, 1) := by kernel_rfl

/-- The buffer of nine bytes in block B: its last k are the digits of n. -/
structure Buf (w : World) (B k : Nat) (n : Int) : Prop where
  there : ∀ j, j < 9 → ∃ v, w.cell? ⟨B, j, none⟩ = some (.int .u8 v)
  last : ∀ j, j < k → w.cell? ⟨B, 8 - j, none⟩ = some (.int .u8 (dig n j))
  free : ∀ j, w.frozen? ⟨B, j, none⟩ = false

theorem Buf.store {w : World} {B k : Nat} {n : Int} (h : Buf w B k n) (hk : k < 9) {v : Int} (hv : v = dig n k) : Buf (w.setCell ⟨B, 8 - k, none⟩ (.int .u8 v)) B (k + 1) n := by
  subst hv
  obtain ⟨u, hu⟩ := h.there (8 - k) (by omega)
  refine ⟨fun j hj => ?_, fun j hj => ?_, fun j => ?_⟩
  · by_cases e : j = 8 - k
    · subst e; exact ⟨_, World.cell?_setCell_same _ _ _ hu⟩
    · rw [World.cell?_setCell_other _ _ _ _ (by intro e'; injection e'; omega)]; exact h.there j hj
  · by_cases e : j = k
    · subst e; exact World.cell?_setCell_same _ _ _ hu
    · rw [World.cell?_setCell_other _ _ _ _ (by intro e'; injection e'; omega)]; exact h.last j (by omega)
  · rw [World.frozen?_setCell]; exact h.free j

theorem Buf.same {w w' : World} {B k : Nat} {n : Int} (h : Buf w B k n) (e : w'.heap[B]? = w.heap[B]?) : Buf w' B k n :=
  ⟨fun j hj => by rw [World.cell?_of_block (w := w) (a := ⟨B, j, none⟩) e]; exact h.there j hj, fun j hj => by rw [World.cell?_of_block (w := w) (a := ⟨B, 8 - j, none⟩) e]; exact h.last j hj,
    fun j => by rw [World.frozen?_of_block (w := w) (a := ⟨B, j, none⟩) e]; exact h.free j⟩

/-- The first j of L, the rest still z. -/
def copied (L : List Value) (z : Value) (j : Nat) : List Value := L.take j ++ List.replicate (L.length - j) z
theorem copied_zero (L : List Value) (z : Value) : copied L z 0 = List.replicate L.length z := by simp [copied]
theorem copied_all (L : List Value) (z : Value) (j : Nat) (h : L.length = j) : copied L z j = L := by subst h; simp [copied]
theorem copied_length (L : List Value) (z : Value) (j : Nat) (h : j ≤ L.length) : (copied L z j).length = L.length := by simp [copied]; omega
theorem copied_set (L : List Value) (z : Value) (j : Nat) (h : j < L.length) : (copied L z j).set j (L.getD j z) = copied L z (j + 1) := by
  have hr : L.length - j = (L.length - (j + 1)) + 1 := by omega
  unfold copied
  rw [List.take_succ_eq_append_getElem h, hr, List.replicate_succ, List.set_append_right _ _ (by simp; omega)]
  have e0 : j - (L.take j).length = 0 := by simp; omega
  rw [e0, List.set_cons_zero, List.append_assoc]
  simp [List.getD, h]

theorem div9 (n : Int) (h0 : 0 ≤ n) (h : n ≤ 999999999) (k : Nat) (hk : 9 ≤ k) : n / ten k = 0 := by
  have h9 : n / ten 9 = 0 := by
    rw [show ten 9 = 1000000000 from rfl]; omega
  obtain ⟨d, rfl⟩ : ∃ d, k = 9 + d := ⟨k - 9, by omega⟩
  induction d with
  | zero => exact h9
  | succ d ih => rw [← Nat.add_assoc, div_ten_succ, ih (by omega)]; rfl

theorem div_bd (n : Int) (h0 : 0 ≤ n) (h : n ≤ 999999999) (k : Nat) : 0 ≤ n / ten k ∧ n / ten k ≤ 999999999 := by
  have hp := ten_pos k
  refine ⟨Int.ediv_nonneg h0 (Int.le_of_lt hp), ?_⟩
  have := Int.ediv_le_self (ten k) h0
  omega

set_option maxHeartbeats 800000 in
theorem padded_any (n d : Int) (w : World) (hn0 : 0 ≤ n) (hn9 : n ≤ 999999999) (hd0 : 0 ≤ d) (hd9 : d ≤ 9) :
    Calls Try.prog 10 #[.int .i64 n, .int .i64 d] w fun e w' => ∃ K g : Nat, 1 ≤ K ∧ K ≤ 9 ∧ n / ten K = 0 ∧ e = .returned (.slice (some ⟨g, 0, none⟩) K K) ∧
      Row8 w' (some ⟨g, 0, none⟩) (spell n K) ∧ Below w.heap.size w w' := by
  obtain ⟨i0, hi, hz0, hz1, hz2⟩ := info_parts Try.info5
  go_enter Try.func10, Try.ntmps10
  go_wp2
  go_loopw [6, 7] (fun kv mv wr => ∃ k : Nat, k ≤ 8 ∧ kv = .int .i64 k ∧ mv = .int .i64 (n / ten k) ∧ Buf wr w.heap.size k n ∧ wr.heap.size = w.heap.size + 1 ∧ Below w.heap.size w wr) (fun kv _ _ => 9 - (intOf kv).toNat)
  case atStart =>
    refine ⟨0, by omega, rfl, by simp [ten], ⟨fun j hj => ?_, fun j hj => by omega, fun j => by simp⟩, by simp, (Below.refl _ _).alloc (Nat.le_refl _) _⟩
    refine ⟨0, ?_⟩
    rw [World.cell?_alloc_at _ _ _ _ rfl]
    have : j = 0 ∨ j = 1 ∨ j = 2 ∨ j = 3 ∨ j = 4 ∨ j = 5 ∨ j = 6 ∨ j = 7 ∨ j = 8 := by omega
    rcases this with rfl | rfl | rfl | rfl | rfl | rfl | rfl | rfl | rfl <;> rfl
  case round =>
    obtain ⟨k, hk, rfl, rfl, hbuf, hsz, hbel⟩ := hrel
    have hqb := div_bd n hn0 hn9 k
    have hqs := div_ten_succ n k
    obtain ⟨v0, hcell⟩ := hbuf.there (8 - k) (by omega)
    have hfree := hbuf.free (8 - k)
    have HB : Hid (Buf (wr.setCell ⟨w.heap.size, 8 - k, none⟩ (.int .u8 (48 + n / ten k % 10))) w.heap.size (k + 1) n) := hbuf.store (by omega) rfl
    have h9 := div9 n hn0 hn9 (k + 1)
    rw [hqs] at h9
    obtain ⟨q, hq⟩ : ∃ q, q = n / ten k := ⟨_, rfl⟩
    have HQ : Hid (n / ten (k + 1) = q / 10) := by rw [hq]; exact hqs
    rw [← hq] at HB h9 hqb ⊢
    clear hq hqs
    by_cases c : q < 10
    · clear h9
      go_wp2
      have hz : n / ten (k + 1) = 0 := by rw [HQ.out]; omega
      go_loopw [6] (fun kv wr2 => ∃ k2 : Nat, 1 ≤ k2 ∧ k2 ≤ 9 ∧ n / ten k2 = 0 ∧ kv = .int .i64 k2 ∧ Buf wr2 w.heap.size k2 n ∧ wr2.heap.size = w.heap.size + 1 ∧ Below w.heap.size w wr2) (fun kv _ => 9 - (intOf kv).toNat)
      case atStart => exact ⟨k + 1, by omega, by omega, hz, by go_num, HB.out, by simpa using hsz, hbel.setCell (Nat.le_refl _) _⟩
      case round =>
        clear hz HQ HB hfree hcell hbel hsz hbuf
        obtain ⟨k2, hk1, hk9, hz2', rfl, hbuf, hsz, hbel⟩ := hrel
        have HZ : Hid (n / ten k2 = 0) := hz2'
        clear hz2'
        by_cases c2 : (k2 : Int) < d
        · obtain ⟨v0, hcell⟩ := hbuf.there (8 - k2) (by omega)
          have hfree := hbuf.free (8 - k2)
          go_wp2
          go_roundw
          case rel =>
            refine ⟨k2 + 1, by omega, by omega, by rw [div_ten_succ, HZ.out]; rfl, by go_num, hbuf.store (by omega) (by rw [dig, HZ.out]; rfl), by simpa using hsz, hbel.setCell (Nat.le_refl _) _⟩
          case measure => simp [intOf]; omega
        · go_wp2_with (at_make; refine wpList_make_full _ rfl _ _ 22 rfl (w.heap.size + 1) 5 i0 (.int .u8 0) 1 Try.underlying22 hi hz0 hz1 _ _ _ _ k2 rfl rfl (by omega) (by omega) (by rw [hz2]; omega) (by unfold maxLen; omega) (by omega) ?_; intro w1 hown hgrow)
          have hb1 : Buf w1 w.heap.size k2 n := hbuf.same (hgrow.block _ (by omega) (by simp))
          have hl1 : Below w.heap.size w w1 := hbel.grown hgrow (by omega) (by simp)
          have hL : (spell n k2).length = k2 := spell_length n k2
          have hown1 : w1.ownsRow (w.heap.size + 1) 5 1 (.slice (some ⟨w.heap.size + 1, 0, none⟩) k2 k2) k2 (copied ((spell n k2).map (Value.int .u8)) (.int .u8 0) 0) := by
            rw [copied_zero, List.length_map, hL]
            have e : (madeCells (Value.int IntKind.u8 0).cells (k2 * 1)).toList = List.replicate k2 (Value.int .u8 0) := by rw [Nat.mul_one]; exact toList_madeCells_one _ _
            rw [e, hsz] at hown
            exact hown
          have HL : Hid ((spell n k2).length = k2) := hL
          clear hbuf hbel hown hgrow hL hz0 hz1 hz2 hi
          go_loopw [9] (fun iv wr3 => ∃ j : Nat, j ≤ k2 ∧ iv = .int .i64 j ∧ wr3.ownsRow (w.heap.size + 1) 5 1 (.slice (some ⟨w.heap.size + 1, 0, none⟩) k2 k2) k2 (copied ((spell n k2).map (Value.int .u8)) (.int .u8 0) j) ∧ Buf wr3 w.heap.size k2 n ∧ Below w.heap.size w wr3) (fun iv _ => k2 - (intOf iv).toNat)
          case atStart => exact ⟨0, by omega, rfl, hown1, hb1, hl1⟩
          case round =>
            clear hown1 hb1 hl1
            obtain ⟨j, hj, rfl, hown, hbuf, hbel⟩ := hrel
            by_cases c3 : j < k2
            · have hcell : wr.cell? ⟨w.heap.size, 9 - k2 + j, none⟩ = some (.int .u8 (dig n (k2 - 1 - j))) := by
                have := hbuf.last (k2 - 1 - j) (by omega)
                rwa [show 8 - (k2 - 1 - j) = 9 - k2 + j by omega] at this
              obtain ⟨u, hu⟩ : ∃ u, wr.cell? ⟨w.heap.size + 1, j, none⟩ = some u := by
                have := hown.cellAt j (by omega)
                rw [this]
                exact ⟨_, List.getElem?_eq_getElem (by rw [hown.1]; omega)⟩
              have hf := hown.frozenAt j
              have st := hown.stored j (.int .u8 (dig n (k2 - 1 - j)))
              have hs : Hid ((copied ((spell n k2).map (Value.int .u8)) (.int .u8 0) j).set j (.int .u8 (dig n (k2 - 1 - j))) = copied ((spell n k2).map (Value.int .u8)) (.int .u8 0) (j + 1)) := by
                have := copied_set ((spell n k2).map (Value.int .u8)) (.int .u8 0) j (by rw [List.length_map, HL.out]; exact c3)
                rw [← this]
                congr 1
                rw [← spell_getD n k2 j c3]
                simp [List.getD, HL.out, c3]
              have HS : Hid _ := st.1
              clear st
              obtain ⟨x, hx⟩ : ∃ x, x = dig n (k2 - 1 - j) := ⟨_, rfl⟩
              rw [← hx] at hcell hs HS
              clear hx
              go_wp2
              go_roundw
              case rel =>
                refine ⟨j + 1, by omega, by go_num, ?_, hbuf.same (Below.heap_setCell _ _ _ _ (by simp)), hbel.setCell (by simp) _⟩
                rw [← hs.out]; exact HS.out
              case measure => simp [intOf]; omega
            · go_wp2
              go_ret
              have ej : j = k2 := by omega
              subst ej
              refine ⟨j, _, hk1, hk9, HZ.out, rfl, ⟨?_, .inr ⟨_, _, rfl, fun i hi => ?_⟩⟩, hbel⟩
              · intro c hc
                obtain ⟨i, hi, rfl⟩ := List.getElem_of_mem hc
                have h := spell_getD n j i (by rw [HL.out] at hi; exact hi)
                rw [List.getD_eq_getElem?_getD, List.getElem?_eq_getElem hi, Option.getD_some] at h
                rw [h]
                have := dig_bd n (j - 1 - i)
                omega
              · rw [Nat.zero_add, hown.cellAt i (by rw [HL.out] at hi; omega)]
                have hl : ((spell n j).map (Value.int .u8)).length = j := by rw [List.length_map, HL.out]
                rw [copied_all _ _ _ hl]
                simp [List.getD, hi]
    · go_wp2
      go_roundw
      case rel =>
        refine ⟨k + 1, by omega, by go_num, by rw [HQ.out], HB.out, by simpa using hsz, hbel.setCell (Nat.le_refl _) _⟩
      case measure => simp [intOf]; omega
end Go.Proofs.Qxb6606160a
