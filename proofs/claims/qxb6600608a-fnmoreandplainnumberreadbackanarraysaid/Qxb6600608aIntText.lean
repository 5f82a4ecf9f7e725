/-
  'appendInt' (32).
-/
import Derived.Test.Qxb6600608aText
import Derived.Test.Qxb6600608aArr
import Derived.Deep.DeepCutAuto
namespace Go.Proofs.Qxb6600608a
open Go.RowKit
open Plain
set_option linter.unusedVariables false

theorem Upd.setNew {F : Nat → Prop} {w w' : World} (h : Upd F w w') {a : Addr} (hb : w.heap.size ≤ a.block) (u : Value) : Upd F w (w'.setCell a u) :=
  ⟨h.os, h.tape, h.output, by simpa using h.size, fun k hk hn => (Below.heap_setCell w' a u k (by omega)).trans (h.block k hk hn)⟩

/-- The digits of U, least first, in block D. -/
structure Dig (w : World) (D U j : Nat) : Prop where
  made : ∀ i, i < j → w.cell? ⟨D, i, none⟩ = some (.int .u8 ((48 + U / 10 ^ i % 10 : Nat) : Int))
  all : ∀ i, i < 20 → ∃ z : Int, w.cell? ⟨D, i, none⟩ = some (.int .u8 z)
  free : ∀ i, w.frozen? ⟨D, i, none⟩ = false
theorem Dig.set {w : World} {D U j : Nat} (h : Dig w D U j) (hj : j < 20) : Dig (w.setCell ⟨D, j, none⟩ (.int .u8 ((48 + U / 10 ^ j % 10 : Nat) : Int))) D U (j + 1) := by
  obtain ⟨z, hz⟩ := h.all j hj
  have same := World.cell?_setCell_same w ⟨D, j, none⟩ (.int .u8 ((48 + U / 10 ^ j % 10 : Nat) : Int)) hz
  have other : ∀ i, i ≠ j → (w.setCell ⟨D, j, none⟩ (.int .u8 ((48 + U / 10 ^ j % 10 : Nat) : Int))).cell? ⟨D, i, none⟩ = w.cell? ⟨D, i, none⟩ := fun i hi =>
    World.cell?_setCell_other _ _ _ _ (by intro e; injection e; omega)
  refine ⟨fun i hi => ?_, fun i hi => ?_, fun i => ?_⟩
  · by_cases e : i = j
    · subst e; exact same
    · rw [other i e]; exact h.made i (by omega)
  · by_cases e : i = j
    · subst e; exact ⟨_, same⟩
    · rw [other i e]; exact h.all i hi
  · rw [World.frozen?_setCell]; exact h.free i

/-- The digits, greatest first. -/
def dd (U : Nat) : Nat → List Int
  | 0 => []
  | n + 1 => ((48 + U / 10 ^ n % 10 : Nat) : Int) :: dd U n
theorem dd_len (U n : Nat) : (dd U n).length = n := by
  induction n with
  | zero => rfl
  | succ n ih => simp [dd, ih]
theorem dd_dg (U n : Nat) : ∀ d ∈ dd U n, isDg d = true := by
  induction n with
  | zero => intro d hd; cases hd
  | succ n ih =>
    intro d hd
    rcases List.mem_cons.1 hd with rfl | h
    · rw [isDg_iff]; omega
    · exact ih d h

/-- The text of an integer. -/
def IsInt (ds : List Int) : Prop := ∃ sg D : List Int, ds = sg ++ D ∧ (sg = [] ∨ sg = [45]) ∧ D ≠ [] ∧ D.length ≤ 20 ∧ (∀ d ∈ D, isDg d = true) ∧ (1 < D.length → D.getD 0 0 ≠ 48)

theorem isInt_dd {sg : List Int} {U n y : Nat} (hs : sg = [] ∨ sg = [45]) (hn : n < 20) (hy : y = U / 10 ^ n) (h0 : y ≠ 0 ∨ n = 0) (h1 : U / 10 ^ (n + 1) = 0) : IsInt (sg ++ dd U (n + 1)) := by
  subst hy
  refine ⟨sg, dd U (n + 1), rfl, hs, by simp [dd], by rw [dd_len]; omega, dd_dg U _, ?_⟩
  rw [dd_len]
  intro h
  have h2 : U / 10 ^ n / 10 = 0 := by rw [Nat.div_div_eq_div_mul, ← Nat.pow_succ]; exact h1
  simp only [dd, List.getD_cons_zero]
  omega

def IntPost (T cap : Nat) (xs : List Int) (w : World) (e : Ending) (w' : World) : Prop := ∃ ds, IsInt ds ∧ AppPost T cap xs ds w e w'

set_option maxRecDepth 100000 in
set_option maxHeartbeats 1600000 in
theorem int_any (T cap n : Nat) (xs : List Int) (x : Int) (w : World) (hn : n = xs.length) (h : w.ownsRow T 5 1 (.slice (some ⟨T, 0, none⟩) n cap) n (xs.map (Value.int .u8))) (hr : n + 21 ≤ cap) (hx : x < 9223372036854775808) (hx2 : -9223372036854775808 ≤ x) :
    Calls Try.prog 32 #[.slice (some ⟨T, 0, none⟩) n cap, .int .i64 x] w (IntPost T cap xs w) := by
  obtain ⟨i0, hi, hz0, hz1, hz2⟩ := info_parts Try.info5
  have hlt : T < w.heap.size := (h.lt T rfl).2
  have HN : Hid (n = xs.length) := hn
  clear hn
  go_enter Try.func32, Try.ntmps32
  go_upto_if 12 with fail
  go_cut [0, 5] (fun v0 v5 wx => ∃ (n1 U : Nat) (sg : List Int), v0 = .slice (some ⟨T, 0, none⟩) n1 cap ∧ v5 = .int .u64 (U : Int) ∧ U < 18446744073709551616 ∧ (sg = [] ∨ sg = [45]) ∧ n1 = (xs ++ sg).length ∧ n1 + 20 ≤ cap ∧ wx.ownsRow T 5 1 (.slice (some ⟨T, 0, none⟩) n1 cap) n1 ((xs ++ sg).map (Value.int .u8)) ∧ Upd (fun k => k = T) w wx)
  case first =>
    by_cases hneg : x < 0
    · go_wp2_with (at_builtin; refine wpList_append_fits _ rfl _ _ 33 rfl T 5 i0 1 Try.underlying33 hi hz1 T n cap (xs.map (Value.int .u8)) rfl (h.alloc _) ⟨w.heap.size, 0, none⟩ 1 1 [.int .u8 45] rfl rfl (new_cells w [.int .u8 45] 5) (by simp [Value.oneCell']) (by omega) ?_; intro w2 own2 g2)
      go_meet
      case rel => exact ⟨n + 1, (-x).toNat, [45], rfl, by congr 1; omega, by omega, .inr rfl, by rw [List.length_append, ← HN.out]; rfl, by omega, by rw [List.map_append]; exact own2, ((Upd.refl _ w).alloc _).grown g2 rfl⟩
    · have hw : IntKind.u64.wrap x = x := by
        have : IntKind.u64.wrap x = x % 18446744073709551616 := by simp [IntKind.wrap, IntKind.bits, IntKind.signed]
        rw [this]; omega
      have hU : x = ((x.toNat : Nat) : Int) := by omega
      rw [hw]
      have HU : Hid (x = ((x.toNat : Nat) : Int)) := hU
      have HL : Hid (x < 9223372036854775808) := hx
      clear hw hx2 hU
      go_wp2
      go_meet
      case rel => exact ⟨n, x.toNat, [], rfl, by rw [← HU.out], by have := HU.out; have := HL.out; omega, .inl rfl, by rw [List.append_nil]; exact HN.out, by omega, by rw [List.append_nil]; exact h, Upd.refl _ _⟩
  case rest =>
  obtain ⟨n1, U, sg, rfl, rfl, hU, hsg, hn1, hr1, own1, hu1⟩ := hcut
  have HS : Hid (n1 = (xs ++ sg).length) := hn1
  have HG : Hid (sg = [] ∨ sg = [45]) := hsg
  have HU : Hid (U < 18446744073709551616) := hU
  have hd0 : Dig (wc.alloc (.cells (Array.replicate 20 (.int .u8 0)) 80)) wc.heap.size U 0 := by
    have hc : ∀ i, (wc.alloc (.cells (Array.replicate 20 (.int .u8 0)) 80)).cell? ⟨wc.heap.size, i, none⟩ = (Array.replicate 20 (Value.int .u8 0))[i]? := fun i => World.cell?_alloc_at _ _ _ _ rfl
    refine ⟨fun i hi => absurd hi (by omega), fun i hi => ⟨0, ?_⟩, fun i => World.frozen?_alloc_at _ _ _ _ rfl⟩
    rw [hc, Array.getElem?_replicate, if_pos hi]
  have own2 := own1.alloc (.cells (Array.replicate 20 (.int .u8 0)) 80)
  have hu2 := hu1.alloc (.cells (Array.replicate 20 (.int .u8 0)) 80)
  have hDT : T < wc.heap.size := (own1.lt T rfl).2
  have hDw : w.heap.size ≤ wc.heap.size := hu1.size
  obtain ⟨D, hD⟩ : ∃ D, D = wc.heap.size := ⟨_, rfl⟩
  obtain ⟨w2, hw2⟩ : ∃ w2, w2 = wc.alloc (.cells (Array.replicate 20 (.int .u8 0)) 80) := ⟨_, rfl⟩
  rw [← hD, ← hw2] at hd0
  rw [← hw2] at own2 hu2
  rw [← hD] at hDT hDw
  clear hn1 hsg hU own1 hu1 hx hx2 h hlt
  have hw2' : wc.alloc (.cells #[.int .u8 0, .int .u8 0, .int .u8 0, .int .u8 0, .int .u8 0, .int .u8 0, .int .u8 0, .int .u8 0, .int .u8 0, .int .u8 0, .int .u8 0, .int .u8 0, .int .u8 0, .int .u8 0, .int .u8 0, .int .u8 0, .int .u8 0, .int .u8 0, .int .u8 0, .int .u8 0] 80) = w2 := hw2.symm
  clear hw2
  go_wp2
  rw [← hD]
  clear hw2' hD
  go_loopw [5, 7, 8] (fun u nv kv wr => ∃ j y : Nat, j < 20 ∧ y = U / 10 ^ j ∧ (y ≠ 0 ∨ j = 0) ∧ u = .int .u64 (y : Int) ∧ nv = .int .i64 j ∧ kv = .int .i64 j ∧ Dig wr D U j ∧ wr.ownsRow T 5 1 (.slice (some ⟨T, 0, none⟩) n1 cap) n1 ((xs ++ sg).map (Value.int .u8)) ∧ Upd (fun k => k = T) w wr) (fun _ _ kv _ => 20 - (intOf kv).toNat)
  case atStart => exact ⟨0, U, by omega, by simp, .inr rfl, rfl, rfl, rfl, hd0, own2, hu2⟩
  case round =>
    clear hd0 own2 hu2
    obtain ⟨j, y, hj, hy, hy0, rfl, rfl, rfl, hd, own, hu⟩ := hrel
    have HY : Hid (y = U / 10 ^ j) := hy
    have HY0 : Hid (y ≠ 0 ∨ j = 0) := hy0
    obtain ⟨z, hz⟩ := hd.all j hj
    have hf := hd.free j
    have hj1 : (j : Int) < 20 := by omega
    have hyl : (y : Int) < 18446744073709551616 := by
      have := Nat.div_le_self U (10 ^ j)
      have := HU.out
      omega
    clear hy hy0
    obtain ⟨Y, hY⟩ : ∃ Y : Int, Y = (y : Int) := ⟨_, rfl⟩
    rw [← hY] at hyl ⊢
    have hY0 : 0 ≤ Y := by omega
    have HYY : Hid (Y = (y : Int)) := hY
    clear hY
    have HYL : Hid (Y < 18446744073709551616) := hyl
    clear hyl
    have hyb : y < 18446744073709551616 := by
      have := Nat.div_le_self U (10 ^ j)
      have := HU.out
      have := HY.out
      omega
    obtain ⟨Q, hQ⟩ : ∃ Q : Int, IntKind.u64.wrap (Y.tdiv 10) = Q := ⟨_, rfl⟩
    have HQ : Hid (Q = ((y / 10 : Nat) : Int)) := by
      have e1 : IntKind.u64.wrap (Y.tdiv 10) = (Y.tdiv 10) % 18446744073709551616 := by simp [IntKind.wrap, IntKind.bits, IntKind.signed]
      have e2 : Y.tdiv 10 = ((y / 10 : Nat) : Int) := by rw [HYY.out]; rfl
      rw [← hQ, e1, e2]
      show _ = _
      omega
    have HD : Hid (Dig (wr.setCell ⟨D, j, none⟩ (.int .u8 (48 + Y % 10))) D U (j + 1)) := by
      have e : (48 + Y % 10 : Int) = ((48 + U / 10 ^ j % 10 : Nat) : Int) := by rw [HYY.out, HY.out]; omega
      rw [e]; exact hd.set hj
    have own' : (wr.setCell ⟨D, j, none⟩ (.int .u8 (48 + Y % 10))).ownsRow T 5 1 (.slice (some ⟨T, 0, none⟩) n1 cap) n1 ((xs ++ sg).map (Value.int .u8)) := by
      refine own.kept (row := some D) ⟨rfl, rfl, rfl, by simp, fun k _ hk => Below.heap_setCell wr _ _ k (fun e => hk (by rw [e]))⟩ (.inr ?_)
      intro e
      simp [Value.ownBlock] at e
      omega
    have HUP : Hid (Upd (fun k => k = T) w (wr.setCell ⟨D, j, none⟩ (.int .u8 (48 + Y % 10)))) := hu.setNew hDw _
    clear own hd hyb hu
    by_cases hq : (Q == 0) = true
    · have HZ : Hid (U / 10 ^ (j + 1) = 0) := by
        have h0 : Q = 0 := by simpa using hq
        have := HQ.out
        have e : U / 10 ^ (j + 1) = y / 10 := by rw [HY.out, Nat.div_div_eq_div_mul, ← Nat.pow_succ]
        show U / 10 ^ (j + 1) = 0
        rw [e]; omega
      have hDl : D < (wr.setCell ⟨D, j, none⟩ (.int .u8 (48 + Y % 10))).heap.size := World.block_lt_of_cell? _ _ (HD.out.made 0 (by omega))
      go_wp2
      clear hz hf HQ hQ
      obtain ⟨w4, hw4⟩ : ∃ w4, wr.setCell ⟨D, j, none⟩ (.int .u8 (48 + Y % 10)) = w4 := ⟨_, rfl⟩
      rw [hw4] at own' hDl ⊢
      have HD4 : Hid (Dig w4 D U (j + 1)) := by rw [← hw4]; exact HD.out
      have HU4 : Hid (Upd (fun k => k = T) w w4) := by rw [← hw4]; exact HUP.out
      clear hw4 HD HUP
      go_loopw [0, 7] (fun tx nv wx => ∃ (m n2 : Nat) (ys : List Int), m ≤ j + 1 ∧ tx = .slice (some ⟨T, 0, none⟩) n2 cap ∧ nv = .int .i64 (m : Int) ∧ n2 = ys.length ∧ ys ++ dd U m = (xs ++ sg) ++ dd U (j + 1) ∧ wx.ownsRow T 5 1 (.slice (some ⟨T, 0, none⟩) n2 cap) n2 (ys.map (Value.int .u8)) ∧ Upd (fun k => k = T) w wx ∧ wx.heap[D]? = w4.heap[D]? ∧ D < wx.heap.size) (fun _ nv _ => (intOf nv).toNat)
      case atStart => exact ⟨j + 1, n1, xs ++ sg, Nat.le_refl _, rfl, rfl, HS.out, rfl, own', HU4.out, rfl, hDl⟩
      case round =>
        clear own' hDl
        obtain ⟨m, n2, ys, hm, rfl, rfl, hn2, hys, own5, hu5, hb5, hl5⟩ := hrel
        have HN2 : Hid (n2 = ys.length) := hn2
        have HYS : Hid (ys ++ dd U m = (xs ++ sg) ++ dd U (j + 1)) := hys
        have hlen : n2 + m = n1 + (j + 1) := by
          have := congrArg List.length hys
          rw [List.length_append, List.length_append, dd_len, dd_len, ← HN2.out, ← HS.out] at this
          exact this
        clear hn2 hys
        have HB5 : Hid (wr.heap[D]? = w4.heap[D]?) := hb5
        cases m with
        | zero =>
          clear hb5
          go_wp2
          go_ret
          refine ⟨sg ++ dd U (j + 1), isInt_dd HG.out hj HY.out HY0.out HZ.out, ?_⟩
          have e : xs ++ (sg ++ dd U (j + 1)) = ys := by
            have := HYS.out
            rw [dd, List.append_nil, List.append_assoc] at this
            exact this.symm
          unfold AppPost Txt
          rw [e, ← HN2.out]
          exact ⟨rfl, own5, hu5⟩
        | succ m' =>
          have hc : wr.cell? ⟨D, m', none⟩ = some (.int .u8 ((48 + U / 10 ^ m' % 10 : Nat) : Int)) := by
            rw [World.cell?_of_block (w := w4) (a := ⟨D, m', none⟩) hb5]
            exact HD4.out.made m' (by omega)
          obtain ⟨dg, hdg⟩ : ∃ dg : Int, dg = ((48 + U / 10 ^ m' % 10 : Nat) : Int) := ⟨_, rfl⟩
          rw [← hdg] at hc
          have HDG : Hid (dg = ((48 + U / 10 ^ m' % 10 : Nat) : Int)) := hdg
          clear hdg hb5
          have hm1 : (m' : Int) < 20 := by omega
          go_wp2_with (at_builtin; refine wpList_append_fits _ rfl _ _ 33 rfl T 5 i0 1 Try.underlying33 hi hz1 T n2 cap (ys.map (Value.int .u8)) rfl (own5.alloc _) ⟨wr.heap.size, 0, none⟩ 1 1 [.int .u8 dg] rfl rfl (new_cells wr [.int .u8 dg] 5) (by simp [Value.oneCell']) (by omega) ?_; intro w6 own6 g6)
          go_roundw
          case rel =>
            refine ⟨m', n2 + 1, ys ++ [dg], by omega, rfl, by go_num, by rw [List.length_append, HN2.out]; rfl, ?_, by rw [List.map_append]; exact own6, (hu5.alloc _).grown g6 rfl, ?_, ?_⟩
            · rw [List.append_assoc, ← HYS.out, HDG.out]; rfl
            · rw [g6.block D (by simp; omega) (by intro e; injection e; omega), ← HB5.out]
              exact ((Below.refl wr.heap.size wr).alloc (Nat.le_refl _) _).block D hl5
            · have := g6.size; simp at this; omega
          case measure => simp [intOf]
    · have hq' : (Q == 0) = false := by simpa using hq
      clear hq
      have hne : Q ≠ 0 := by simpa using hq'
      have HE : Hid (U / 10 ^ (j + 1) = y / 10) := by
        show _ = _
        rw [HY.out, Nat.div_div_eq_div_mul, ← Nat.pow_succ]
      have HNE : Hid (Q ≠ 0) := hne
      clear hne
      go_wp2
      go_roundw
      case rel =>
        have a1 := HQ.out
        have a2 := HNE.out
        have a3 := HE.out
        have hj20 : j + 1 < 20 := by
          by_cases e : j = 19
          · subst e
            have := HU.out
            rw [show (19 + 1) = 20 from rfl] at a3
            have : U / 10 ^ 20 = 0 := Nat.div_eq_of_lt (by omega)
            omega
          · omega
        exact ⟨j + 1, y / 10, hj20, a3.symm, .inl (by omega), by rw [a1], rfl, rfl, HD.out, own', HUP.out⟩
      case measure => simp [intOf]; omega
end Go.Proofs.Qxb6600608a
