/-
  'scanNumber' (function 41).
-/
import Derived.Test.Qxb6600608aBase
import Derived.Deep.DeepCutAuto
namespace Go.Proofs.Qxb6600608a
open Go.RowKit
open Plain

/-- Blocks outside F, and nothing else of what was there, stay as they were. -/
structure Upd (F : Nat → Prop) (w w' : World) : Prop where
  os : w'.os = w.os
  tape : w'.tape = w.tape
  output : w'.output = w.output
  size : w.heap.size ≤ w'.heap.size
  block : ∀ k, k < w.heap.size → ¬ F k → w'.heap[k]? = w.heap[k]?

theorem Upd.refl (F : Nat → Prop) (w : World) : Upd F w w := ⟨rfl, rfl, rfl, Nat.le_refl _, fun _ _ _ => rfl⟩
theorem Upd.trans {F : Nat → Prop} {a b c : World} (h : Upd F a b) (k : Upd F b c) : Upd F a c :=
  ⟨k.os.trans h.os, k.tape.trans h.tape, k.output.trans h.output, Nat.le_trans h.size k.size, fun x hx hF =>
    (k.block x (Nat.lt_of_lt_of_le hx h.size) hF).trans (h.block x hx hF)⟩
theorem Upd.mono {F G : Nat → Prop} {w w' : World} (h : Upd F w w') (hG : ∀ x, F x → G x) : Upd G w w' := ⟨h.os, h.tape, h.output, h.size, fun k hk hn => h.block k hk (fun f => hn (hG k f))⟩
theorem Upd.set {F : Nat → Prop} {w w' : World} (h : Upd F w w') {a : Addr} (hF : F a.block) (u : Value) : Upd F w (w'.setCell a u) :=
  h.trans ⟨rfl, rfl, rfl, by simp, fun k _ hk => Below.heap_setCell w' a u k (fun e => hk (e ▸ hF))⟩
theorem Upd.drewN {F : Nat → Prop} {w w' : World} (h : Upd F w w') (n : Nat) : Upd F w (w'.drewN n) := h.trans ⟨rfl, rfl, rfl, Nat.le_refl _, fun _ _ _ => rfl⟩
theorem Upd.below {F : Nat → Prop} {w w' : World} {B : Nat} (h : Upd F w w') (hB : B ≤ w.heap.size) (hF : ∀ k, F k → B ≤ k) : Below B w w' :=
  ⟨h.os, h.tape, h.output, h.size, fun k hk => h.block k (by omega) (fun f => by have := hF k f; omega)⟩

/-- The struct of a number's parts, in block N. -/
structure Parts (w : World) (N : Nat) : Prop where
  ints : ∀ j, j < 6 → ∃ z, w.cell? ⟨N, j, none⟩ = some (.int .i64 z)
  flt : ∃ z, w.cell? ⟨N, 6, none⟩ = some (.int .u8 z)
  free : ∀ j, w.frozen? ⟨N, j, none⟩ = false

theorem Parts.setI {w : World} {N : Nat} (h : Parts w N) {j : Nat} (hj : j < 6) (z : Int) : Parts (w.setCell ⟨N, j, none⟩ (.int .i64 z)) N := by
  refine ⟨fun i hi => ?_, ?_, fun i => by rw [World.frozen?_setCell]; exact h.free i⟩
  · by_cases e : i = j
    · subst e
      obtain ⟨u, hu⟩ := h.ints i hi
      exact ⟨z, World.cell?_setCell_same _ _ _ hu⟩
    · rw [World.cell?_setCell_other _ _ _ _ (by intro e'; injection e'; omega)]; exact h.ints i hi
  · rw [World.cell?_setCell_other _ _ _ _ (by intro e'; injection e'; omega)]; exact h.flt
theorem Parts.setF {w : World} {N : Nat} (h : Parts w N) (z : Int) : Parts (w.setCell ⟨N, 6, none⟩ (.int .u8 z)) N := by
  obtain ⟨u, hu⟩ := h.flt
  refine ⟨fun i hi => ?_, ⟨z, World.cell?_setCell_same _ _ _ hu⟩, fun i => by rw [World.frozen?_setCell]; exact h.free i⟩
  rw [World.cell?_setCell_other _ _ _ _ (by intro e'; injection e'; omega)]; exact h.ints i hi
theorem Parts.drewN {w : World} {N : Nat} (h : Parts w N) (n : Nat) : Parts (w.drewN n) N := ⟨h.ints, h.flt, h.free⟩

/-- The struct's own memory; all else as it was. -/
def Own (w : World) (N : Nat) (wx : World) : Prop := Parts wx N ∧ Upd (fun k => k = N) w wx
theorem Own.setI {w wx : World} {N : Nat} (h : Own w N wx) {j : Nat} (hj : j < 6) (z : Int) : Own w N (wx.setCell ⟨N, j, none⟩ (.int .i64 z)) := ⟨h.1.setI hj z, h.2.set rfl _⟩
theorem Own.setF {w wx : World} {N : Nat} (h : Own w N wx) (z : Int) : Own w N (wx.setCell ⟨N, 6, none⟩ (.int .u8 z)) := ⟨h.1.setF z, h.2.set rfl _⟩
theorem Own.drewN {w wx : World} {N : Nat} (h : Own w N wx) (n : Nat) : Own w N (wx.drewN n) := ⟨h.1.drewN n, h.2.drewN n⟩

/-- What 'scanNumber' leaves. -/
def ScanPost (c : Nat → Int) (m N : Nat) (w : World) (e : Ending) (w' : World) : Prop :=
  e = .returned (.tuple #[]) ∧ ∃ (E : Nat) (F : Int), Own w N w' ∧ w'.cell? ⟨N, 5, none⟩ = some (.int .i64 E) ∧ w'.cell? ⟨N, 6, none⟩ = some (.int .u8 F) ∧ E ≤ m ∧
    (((scan c m).2 = true ∧ F = 0 ∧ E = (scan c m).1) ∨ ((scan c m).2 = false ∧ (F != 0) = true))

theorem vb {a b : Bool} (h : a = true ↔ b = true) : Value.bool a = Value.bool b := by rw [Bool.eq_iff_iff.2 h]

theorem scan_end1 {c : Nat → Int} {m N : Nat} {w wx : World} {E : Nat} {F : Int} (h : Own w N wx) (hE : E ≤ m) (hs : (scan c m).2 = false) (hF : (F != 0) = true) :
    ScanPost c m N w (.returned (.tuple #[])) ((wx.setCell ⟨N, 6, none⟩ (.int .u8 F)).setCell ⟨N, 5, none⟩ (.int .i64 E)) := by
  obtain ⟨u, hu⟩ := (h.setF F).1.ints 5 (by omega)
  obtain ⟨z, hz⟩ := h.1.flt
  refine ⟨rfl, E, F, (h.setF F).setI (by omega) _, World.cell?_setCell_same _ _ _ hu, ?_, hE, .inr ⟨hs, hF⟩⟩
  rw [World.cell?_setCell_other _ _ _ _ (by intro e'; injection e'; omega)]
  exact World.cell?_setCell_same _ _ _ hz

theorem scan_end0 {c : Nat → Int} {m N : Nat} {w wx : World} {E : Nat} (h : Own w N wx) (hE : E ≤ m) (hs : scan c m = (E, true)) :
    ScanPost c m N w (.returned (.tuple #[])) ((wx.setCell ⟨N, 5, none⟩ (.int .i64 E)).setCell ⟨N, 6, none⟩ (.int .u8 0)) := by
  obtain ⟨u, hu⟩ := h.1.ints 5 (by omega)
  obtain ⟨z, hz⟩ := (h.setI (j := 5) (by omega) E).1.flt
  refine ⟨rfl, E, 0, (h.setI (by omega) _).setF 0, ?_, World.cell?_setCell_same _ _ _ hz, hE, .inl ⟨by rw [hs], rfl, by rw [hs]⟩⟩
  rw [World.cell?_setCell_other _ _ _ _ (by intro e'; injection e'; omega)]
  exact World.cell?_setCell_same _ _ _ hu

section
variable {w wx : World} {N B o m : Nat} {c : Nat → Int}
theorem cell_own (h : Own w N wx) (hN : B ≠ N) (hc : ∀ j, j < m → w.cell? ⟨B, o + j, none⟩ = some (.int .u8 (c j))) (j : Nat) (hj : j < m) : wx.cell? ⟨B, o + j, none⟩ = some (.int .u8 (c j)) := by
  have hl := World.block_lt_of_cell? _ _ (hc j hj)
  rw [World.cell?_of_block (w := w) (a := ⟨B, o + j, none⟩) (h.2.block B hl hN)]
  exact hc j hj
theorem byt_own (h : Own w N wx) (hN : B ≠ N) (hb : ∀ i, 0 ≤ c i ∧ c i ≤ 255) (hc : ∀ j, j < m → w.cell? ⟨B, o + j, none⟩ = some (.int .u8 (c j))) : Byt wx (some ⟨B, o, none⟩) m c :=
  ⟨hb, fun j hj => ⟨B, o, rfl, cell_own h hN hc j hj⟩⟩
end

set_option maxRecDepth 100000 in
set_option maxHeartbeats 3200000 in
theorem scan_pos (B o m cp N : Nat) (c : Nat → Int) (w : World) (h0 : 0 < m) (hm : m ≤ 4194304) (hN : B ≠ N) (hb : ∀ i, 0 ≤ c i ∧ c i ≤ 255)
    (hc : ∀ j, j < m → w.cell? ⟨B, o + j, none⟩ = some (.int .u8 (c j))) (hp : Parts w N) :
    Calls Try.prog 41 #[.slice (some ⟨B, o, none⟩) m cp, .int .i64 0, .pointer (some ⟨N, 0, none⟩)] w (ScanPost c m N w) := by
  have kd := fun wx (h : Own w N wx) (i : Nat) (hi : i ≤ m) => digs_any (some ⟨B, o, none⟩) m cp c i wx (byt_own h hN hb hc) hi hm
  have HC : Hid _ := hc
  have HB : Hid _ := hb
  have hO : Own w N w := ⟨hp, Upd.refl _ _⟩
  clear hp
  have h0' : (0 : Int) < (m : Int) := by omega
  go_enter Try.func41, Try.ntmps41
  -- THE SIGN
  go_upto_region 0 with fail
  go_cut [1, 17] (fun v1 v17 wx => v1 = .int .i64 0 ∧ v17 = .bool (decide (c 0 = 45)) ∧ w = wx)
  case first =>
    as_aux_lemma =>
      have c0 : w.cell? ⟨B, o, none⟩ = some (.int .u8 (c 0)) := by simpa using hc 0 h0
      clear hc hb kd
      by_cases h : c 0 = 45
      · rw [h] at c0
        go_wp2
        go_meet
        case rel => exact ⟨rfl, by simp [h], rfl⟩
      · have h' : (c 0 == 45) = false := by simpa using h
        obtain ⟨x, hx⟩ : ∃ x, x = c 0 := ⟨_, rfl⟩
        rw [← hx] at c0 h'
        go_wp2
        go_meet
        case rel => exact ⟨rfl, by simp [h], rfl⟩
  case rest =>
  obtain ⟨rfl, rfl, rfl⟩ := hcut
  go_upto_if 17 with fail
  go_cut [1] (fun v1 wx => (∃ i0 : Nat, v1 = .int .i64 i0 ∧ i0 ≤ 1 ∧ scan c m = intg c m i0) ∧ w = wx)
  case first =>
    as_aux_lemma =>
      clear hc hb kd
      by_cases h : c 0 = 45
      · have HS : Hid (scan c m = intg c m 1) := by unfold scan; rw [if_pos ⟨h0, h⟩]; exact rfl
        go_wp2
        go_meet
        case rel => exact ⟨⟨1, rfl, by omega, HS.out⟩, rfl⟩
      · have HS : Hid (scan c m = intg c m 0) := by unfold scan; rw [if_neg (fun x => h x.2)]; exact rfl
        go_wp2
        go_meet
        case rel => exact ⟨⟨0, rfl, by omega, HS.out⟩, rfl⟩
  case rest =>
  obtain ⟨⟨i0, rfl, hi0, hsc⟩, rfl⟩ := hcut
  have HS : Hid (scan c m = intg c m i0) := hsc
  clear hsc
  -- THE INTEGER PART
  have hi0m : i0 ≤ m := by omega
  have hr1 : i0 ≤ run isDg c m i0 := run_ge
  have hr2 : run isDg c m i0 ≤ m := run_le hi0m
  obtain ⟨i1, hi1⟩ : ∃ i1, i1 = run isDg c m i0 := ⟨_, rfl⟩
  have HI : Hid (i1 = run isDg c m i0) := hi1
  have kd1 := kd _ (hO.setI (j := 0) (by omega) i0) i0 hi0m
  rw [← hi1] at hr1 hr2 kd1
  clear hi1
  obtain ⟨u0, hu0⟩ := hO.1.ints 0 (by omega)
  obtain ⟨u1, hu1⟩ := hO.1.ints 1 (by omega)
  have f0 := hO.1.free 0
  have f1 := hO.1.free 1
  go_upto_region 5 with (go_at_call 43; refine kd1.mono ?_; rintro e w' ⟨rfl, rfl⟩)
  obtain ⟨t0, ht0⟩ : ∃ t : Bool, t = ((i1 : Int) == (i0 : Int)) := ⟨_, rfl⟩
  have HT0 : Hid (t0 = ((i1 : Int) == (i0 : Int))) := ht0
  clear ht0
  go_cut [31] (fun v wx => v = .bool t0 ∧ Own w N wx ∧ wx.cell? ⟨N, 0, none⟩ = some (.int .i64 i0) ∧ wx.cell? ⟨N, 1, none⟩ = some (.int .i64 i1))
  case first =>
    as_aux_lemma =>
      have HO2 : Hid (Own w N ((w.setCell ⟨N, 0, none⟩ (.int .i64 i0)).setCell ⟨N, 1, none⟩ (.int .i64 i1))) := (hO.setI (by omega) _).setI (by omega) _
      have q0 : ((w.setCell ⟨N, 0, none⟩ (.int .i64 i0)).setCell ⟨N, 1, none⟩ (.int .i64 i1)).cell? ⟨N, 0, none⟩ = some (.int .i64 i0) := by
        rw [World.cell?_setCell_other _ _ _ _ (by intro e'; injection e'; omega)]
        exact World.cell?_setCell_same _ _ _ hu0
      have q1 : ((w.setCell ⟨N, 0, none⟩ (.int .i64 i0)).setCell ⟨N, 1, none⟩ (.int .i64 i1)).cell? ⟨N, 1, none⟩ = some (.int .i64 i1) := by
        refine World.cell?_setCell_same _ _ _ (u := .int .i64 u1) ?_
        rw [World.cell?_setCell_other _ _ _ _ (by intro e'; injection e'; omega)]; exact hu1
      have Q0 : Hid _ := q0
      have Q1 : Hid _ := q1
      clear hc hb kd kd1
      go_quiet (fail)
      go_wp2
      go_meet
      case rel => exact ⟨by rw [HT0.out], HO2.out.drewN _, Q0.out, Q1.out⟩
  case rest =>
  obtain ⟨rfl, hO1, hc0, hc1⟩ := hcut
  clear kd1 hu0 hu1 f0 f1
  cases t0
  case true =>
    have hA : i1 = i0 := by have := HT0.out; simp at this; omega
    have HE : Hid ((scan c m).2 = false) := by
      rw [HS.out, intg, ← HI.out, if_pos hA]; exact rfl
    clear kd hc hb hA
    obtain ⟨z5, hz5⟩ := hO1.1.ints 5 (by omega)
    have g5 := hO1.1.free 5
    obtain ⟨z6, hz6⟩ := hO1.1.flt
    have g6 := hO1.1.free 6
    go_wp2
    go_end0
    exact scan_end1 hO1 hr2 HE.out (by decide)
  have hA : i1 ≠ i0 := by have := HT0.out; simp at this; omega
  clear HT0
  obtain ⟨t1, ht1⟩ : ∃ t : Bool, t = decide (1 < i1 - i0 ∧ c i0 = 48) := ⟨_, rfl⟩
  have HT1 : Hid (t1 = decide (1 < i1 - i0 ∧ c i0 = 48)) := ht1
  clear ht1
  go_upto_region 7 with fail
  go_cut [48] (fun v wx => v = .bool t1 ∧ Own w N wx)
  case first =>
    as_aux_lemma =>
      have hx := cell_own hO1 hN hc i0 (by omega)
      clear hc hb kd
      by_cases h1 : 1 < i1 - i0
      · have h1' : (1 : Int) < (i1 : Int) - (i0 : Int) := by omega
        have h2' : (i0 : Int) < (m : Int) := by omega
        obtain ⟨x, hxv⟩ : ∃ x, x = c i0 := ⟨_, rfl⟩
        have HX : Hid (x = c i0) := hxv
        rw [← hxv] at hx
        clear hxv
        go_quiet (fail)
        go_wp2
        go_meet
        case rel => exact ⟨vb (by rw [HT1.out, ← HX.out]; simp [h1]), hO1.drewN _⟩
      · have h1' : decide ((1 : Int) < (i1 : Int) - (i0 : Int)) = false := by simp; omega
        clear hx
        go_quiet (fail)
        go_wp2
        go_meet
        case rel => exact ⟨vb (by rw [HT1.out]; simp [h1]), hO1.drewN _⟩
  case rest =>
  clear hO1 hc0 hc1
  obtain ⟨rfl, hO2⟩ := hcut
  cases t1
  case true =>
    have hB : 1 < i1 - i0 ∧ c i0 = 48 := by have := HT1.out; simpa using this.symm
    have HE : Hid ((scan c m).2 = false) := by
      rw [HS.out, intg, ← HI.out, if_neg hA, if_pos hB]; exact rfl
    clear kd hc hb hB
    obtain ⟨z5, hz5⟩ := hO2.1.ints 5 (by omega)
    have g5 := hO2.1.free 5
    obtain ⟨z6, hz6⟩ := hO2.1.flt
    have g6 := hO2.1.free 6
    go_wp2
    go_end0
    exact scan_end1 hO2 hr2 HE.out (by decide)
  have hB : ¬ (1 < i1 - i0 ∧ c i0 = 48) := by have := HT1.out; simpa using this.symm
  have HS1 : Hid (scan c m = frac c m i1) := by
    rw [HS.out, intg, ← HI.out, if_neg hA, if_neg hB]; exact rfl
  clear hA hB HS HI HT1
  -- THE FRACTION
  obtain ⟨t2, ht2⟩ : ∃ t : Bool, t = decide (i1 < m ∧ c i1 = 46) := ⟨_, rfl⟩
  have HT2 : Hid (t2 = decide (i1 < m ∧ c i1 = 46)) := ht2
  clear ht2
  obtain ⟨z2, hz2⟩ := hO2.1.ints 2 (by omega)
  have g2 := hO2.1.free 2
  obtain ⟨z3, hz3⟩ := hO2.1.ints 3 (by omega)
  have g3 := hO2.1.free 3
  go_upto_region 10 with fail
  go_cut [94] (fun v wx => v = .bool t2 ∧ Own w N wx)
  case first =>
    as_aux_lemma =>
      have hO3 := (hO2.setI (j := 2) (by omega) i1).setI (j := 3) (by omega) i1
      have hx := cell_own hO3 hN hc i1
      have HO3 : Hid (Own w N _) := hO3
      clear hc hb kd hO3
      by_cases h1 : i1 < m
      · have hx' := hx h1
        clear hx
        obtain ⟨x, hxv⟩ : ∃ x, x = c i1 := ⟨_, rfl⟩
        have HX : Hid (x = c i1) := hxv
        rw [← hxv] at hx'
        clear hxv
        have h1' : (i1 : Int) < (m : Int) := by omega
        go_wp2
        go_meet
        case rel => exact ⟨vb (by rw [HT2.out, ← HX.out]; simp [h1]), HO3.out⟩
      · clear hx
        have h1' : ¬ (i1 : Int) < (m : Int) := by omega
        go_wp2
        go_meet
        case rel => exact ⟨vb (by rw [HT2.out]; simp [h1]), HO3.out⟩
  case rest =>
  clear hO2 hz2 hz3 g2 g3
  obtain ⟨rfl, hO3⟩ := hcut
  go_upto_if 94 with fail
  go_cut [1] (fun v wx => (∃ i2 : Nat, v = .int .i64 i2 ∧ i2 ≤ m ∧ scan c m = expo c m i2) ∧ Own w N wx)
  case first =>
    as_aux_lemma =>
      cases t2
      case false =>
        have hF : ¬ (i1 < m ∧ c i1 = 46) := by have := HT2.out; simpa using this.symm
        have HS2 : Hid (scan c m = expo c m i1) := by rw [HS1.out, frac, if_neg hF]; exact rfl
        clear hc hb kd hF
        go_wp2
        go_meet
        case rel => exact ⟨⟨i1, rfl, hr2, HS2.out⟩, hO3⟩
      have hF : i1 < m ∧ c i1 = 46 := by have := HT2.out; simpa using this.symm
      obtain ⟨i2, hi2⟩ : ∃ i2, i2 = run isDg c m (i1 + 1) := ⟨_, rfl⟩
      have hr3 : i2 ≤ m := by rw [hi2]; exact run_le (by omega)
      have kd2 := kd _ (hO3.setI (j := 2) (by omega) ((i1 : Int) + 1)) (i1 + 1) (by omega)
      have HS2 : Hid (scan c m = if i2 = i1 + 1 then (i1 + 1, false) else expo c m i2) := by
        rw [HS1.out, frac, if_pos hF, ← hi2]; exact rfl
      rw [← hi2, show ((i1 + 1 : Nat) : Int) = (i1 : Int) + 1 from rfl] at kd2
      have hb1 : (i1 : Int) + 1 ≤ 4194305 := by omega
      clear hc hb kd hi2 hF HS1
      obtain ⟨z2, hz2⟩ := hO3.1.ints 2 (by omega)
      have g2 := hO3.1.free 2
      obtain ⟨z3, hz3⟩ := hO3.1.ints 3 (by omega)
      have g3 := hO3.1.free 3
      by_cases hE : i2 = i1 + 1
      · have hE' : ((i2 : Int) == (i1 : Int) + 1) = true := by simp; omega
        have HE : Hid ((scan c m).2 = false) := by rw [HS2.out, if_pos hE]; exact rfl
        obtain ⟨z5, hz5⟩ := hO3.1.ints 5 (by omega)
        have g5 := hO3.1.free 5
        obtain ⟨z6, hz6⟩ := hO3.1.flt
        have g6 := hO3.1.free 6
        have HO4 : Hid (Own w N _) := (hO3.setI (j := 2) (by omega) ((i1 : Int) + 1)).setI (j := 3) (by omega) (i2 : Int)
        clear hE
        go_wp2_with (go_at_call 43; go_must (refine kd2.mono ?_; rintro e w' ⟨rfl, rfl⟩))
        go_quiet (fail)
        go_wp2
        go_end0
        exact scan_end1 (HO4.out.drewN _) hr3 HE.out (by decide)
      · have hE' : ((i2 : Int) == (i1 : Int) + 1) = false := by simp; omega
        have HE : Hid (scan c m = expo c m i2) := by rw [HS2.out, if_neg hE]; exact rfl
        have HO4 : Hid (Own w N _) := (hO3.setI (j := 2) (by omega) ((i1 : Int) + 1)).setI (j := 3) (by omega) (i2 : Int)
        clear hE
        go_wp2_with (go_at_call 43; go_must (refine kd2.mono ?_; rintro e w' ⟨rfl, rfl⟩))
        go_quiet (fail)
        go_wp2
        go_meet
        case rel => exact ⟨⟨i2, rfl, hr3, HE.out⟩, HO4.out.drewN _⟩
  case rest =>
  clear hO3 HT2 HS1 hr1 hr2
  obtain ⟨⟨i2, rfl, hr2, hsc⟩, hO4⟩ := hcut
  have HS2 : Hid (scan c m = expo c m i2) := hsc
  clear hsc
  -- THE EXPONENT
  obtain ⟨t3, ht3⟩ : ∃ t : Bool, t = decide (i2 < m ∧ (c i2 = 101 ∨ c i2 = 69)) := ⟨_, rfl⟩
  have HT3 : Hid (t3 = decide (i2 < m ∧ (c i2 = 101 ∨ c i2 = 69))) := ht3
  clear ht3
  obtain ⟨z4, hz4⟩ := hO4.1.ints 4 (by omega)
  have g4 := hO4.1.free 4
  go_upto_region 17 with fail
  go_cut [147] (fun v wx => v = .bool t3 ∧ Own w N wx)
  case first =>
    as_aux_lemma =>
      have hO5 := hO4.setI (j := 4) (by omega) (i2 : Int)
      have hx := cell_own hO5 hN hc i2
      have HO5 : Hid (Own w N _) := hO5
      clear hc hb kd hO5
      by_cases h1 : i2 < m
      · have hx' := hx h1
        clear hx
        obtain ⟨x, hxv⟩ : ∃ x, x = c i2 := ⟨_, rfl⟩
        have HX : Hid (x = c i2) := hxv
        rw [← hxv] at hx'
        clear hxv
        have h1' : (i2 : Int) < (m : Int) := by omega
        by_cases h2 : x = 101
        · have h2' : (x == 101) = true := by simpa using h2
          go_wp2
          go_meet
          case rel => exact ⟨vb (by rw [HT3.out, ← HX.out]; simp [h1, h2]), HO5.out⟩
        · have h2' : (x == 101) = false := by simpa using h2
          go_wp2
          go_meet
          case rel => exact ⟨vb (by rw [HT3.out, ← HX.out]; simp [h1, h2]), HO5.out⟩
      · clear hx
        have h1' : ¬ (i2 : Int) < (m : Int) := by omega
        go_wp2
        go_meet
        case rel => exact ⟨vb (by rw [HT3.out]; simp [h1]), HO5.out⟩
  case rest =>
  clear hO4 hz4 g4
  obtain ⟨rfl, hO5⟩ := hcut
  cases t3
  case false =>
    have hF : ¬ (i2 < m ∧ (c i2 = 101 ∨ c i2 = 69)) := by have := HT3.out; simpa using this.symm
    have HE : Hid (scan c m = (i2, true)) := by rw [HS2.out, expo, if_neg hF]; exact rfl
    clear kd hc hb hF
    obtain ⟨z5, hz5⟩ := hO5.1.ints 5 (by omega)
    have g5 := hO5.1.free 5
    obtain ⟨z6, hz6⟩ := hO5.1.flt
    have g6 := hO5.1.free 6
    go_wp2
    go_end0
    exact scan_end0 hO5 hr2 HE.out
  have hF : i2 < m ∧ (c i2 = 101 ∨ c i2 = 69) := by have := HT3.out; simpa using this.symm
  obtain ⟨t4, ht4⟩ : ∃ t : Bool, t = decide (i2 + 1 < m ∧ (c (i2 + 1) = 43 ∨ c (i2 + 1) = 45)) := ⟨_, rfl⟩
  have HT4 : Hid (t4 = decide (i2 + 1 < m ∧ (c (i2 + 1) = 43 ∨ c (i2 + 1) = 45))) := ht4
  have HS3 : Hid (scan c m = (run isDg c m (if t4 = true then i2 + 2 else i2 + 1), decide (run isDg c m (if t4 = true then i2 + 2 else i2 + 1) ≠ (if t4 = true then i2 + 2 else i2 + 1)))) := by
    rw [HS2.out, expo, if_pos hF, ht4]
    by_cases h : i2 + 1 < m ∧ (c (i2 + 1) = 43 ∨ c (i2 + 1) = 45)
    · rw [if_pos h, decide_eq_true h, if_pos rfl]; exact rfl
    · rw [if_neg h, decide_eq_false h, if_neg (by simp)]; exact rfl
  have hlt2 : i2 < m := hF.1
  clear ht4 hF HS2 HT3
  obtain ⟨z4, hz4⟩ := hO5.1.ints 4 (by omega)
  have g4 := hO5.1.free 4
  go_upto_region 20 with fail
  go_cut [174] (fun v wx => v = .bool t4 ∧ Own w N wx)
  case first =>
    as_aux_lemma =>
      have hO6 := hO5.setI (j := 4) (by omega) ((i2 : Int) + 1)
      have hx := cell_own hO6 hN hc (i2 + 1)
      have HO6 : Hid (Own w N _) := hO6
      clear hc hb kd hO6
      by_cases h1 : i2 + 1 < m
      · have hx' := hx h1
        clear hx
        obtain ⟨x, hxv⟩ : ∃ x, x = c (i2 + 1) := ⟨_, rfl⟩
        have HX : Hid (x = c (i2 + 1)) := hxv
        rw [← hxv] at hx'
        clear hxv
        have h1' : (i2 : Int) + 1 < (m : Int) := by omega
        by_cases h2 : x = 43
        · have h2' : (x == 43) = true := by simpa using h2
          go_wp2
          go_meet
          case rel => exact ⟨vb (by rw [HT4.out, ← HX.out]; simp [h1, h2]), HO6.out⟩
        · have h2' : (x == 43) = false := by simpa using h2
          go_wp2
          go_meet
          case rel => exact ⟨vb (by rw [HT4.out, ← HX.out]; simp [h1, h2]), HO6.out⟩
      · clear hx
        have h1' : ¬ (i2 : Int) + 1 < (m : Int) := by omega
        go_wp2
        go_meet
        case rel => exact ⟨vb (by rw [HT4.out]; simp [h1]), HO6.out⟩
  case rest =>
  clear hO5 hz4 g4
  obtain ⟨rfl, hO6⟩ := hcut
  go_upto_if 174 with fail
  go_cut [1] (fun v wx => (∃ k : Nat, v = .int .i64 k ∧ k ≤ m ∧ scan c m = (run isDg c m k, decide (run isDg c m k ≠ k))) ∧ Own w N wx)
  case first =>
    as_aux_lemma =>
      clear hc hb kd
      cases t4
      case false =>
        go_wp2
        go_meet
        case rel => exact ⟨⟨i2 + 1, by go_num, by omega, by have := HS3.out; simpa using this⟩, hO6⟩
      have h2 : i2 + 1 < m := by have := HT4.out; simp at this; exact this.1
      go_wp2
      go_meet
      case rel => exact ⟨⟨i2 + 2, by go_num, by omega, by have := HS3.out; simpa using this⟩, hO6⟩
  case rest =>
  clear hO6 HT4 HS3
  obtain ⟨⟨k, rfl, hk, hsc⟩, hO7⟩ := hcut
  obtain ⟨i3, hi3⟩ : ∃ i3, i3 = run isDg c m k := ⟨_, rfl⟩
  have hr3 : i3 ≤ m := by rw [hi3]; exact run_le hk
  have kd3 := kd _ hO7 k hk
  rw [← hi3] at kd3 hsc
  have HS4 : Hid (scan c m = (i3, decide (i3 ≠ k))) := hsc
  clear hsc hi3 kd hc hb
  obtain ⟨z5, hz5⟩ := hO7.1.ints 5 (by omega)
  have g5 := hO7.1.free 5
  obtain ⟨z6, hz6⟩ := hO7.1.flt
  have g6 := hO7.1.free 6
  by_cases hE : i3 = k
  · have hE' : ((i3 : Int) == (k : Int)) = true := by simp; omega
    have HE : Hid ((scan c m).2 = false) := by rw [HS4.out]; exact decide_eq_false (fun h => h hE)
    clear hE
    go_wp2_with (go_at_call 43; go_must (refine kd3.mono ?_; rintro e w' ⟨rfl, rfl⟩))
    go_end0
    exact scan_end1 hO7 hr3 HE.out (by decide)
  · have hE' : ((i3 : Int) == (k : Int)) = false := by simp; omega
    have HE : Hid (scan c m = (i3, true)) := by rw [HS4.out, decide_eq_true hE]; exact rfl
    clear hE
    go_wp2_with (go_at_call 43; go_must (refine kd3.mono ?_; rintro e w' ⟨rfl, rfl⟩))
    go_end0
    exact scan_end0 hO7 hr3 HE.out
end Go.Proofs.Qxb6600608a
