/-
  The text under the law's hand: 'appendSpace' (31), 'flagAt' (30).
-/
import Derived.Test.Qxb6600608aSame
namespace Go.Proofs.Qxb6600608a
open Go.RowKit
open Plain
set_option linter.unusedVariables false

/-- The bytes xs lie in block T, with room for cap. -/
def Txt (w : World) (T cap : Nat) (xs : List Int) : Prop :=
  w.ownsRow T 5 1 (.slice (some ⟨T, 0, none⟩) xs.length cap) xs.length (xs.map (Value.int .u8))

theorem Upd.alloc {F : Nat → Prop} {w w' : World} (h : Upd F w w') (o : Obj) : Upd F w (w'.alloc o) :=
  h.trans ⟨rfl, rfl, rfl, by simp, fun k hk _ => ((Below.refl w'.heap.size w').alloc (Nat.le_refl _) o).block k hk⟩
theorem Upd.grown {F : Nat → Prop} {w w1 w2 : World} (h : Upd F w w1) {T : Nat} (g : w1.grownBy w2 (some T)) (hT : F T) : Upd F w w2 :=
  h.trans ⟨g.os, g.tape, g.output, g.size, fun k hk hn => g.block k hk (fun e => by cases e; exact hn hT)⟩

theorem new_cells (w : World) (vs : List Value) (t : TypeId) : ∀ j u, vs[j]? = some u → (w.alloc (.cells vs.toArray t)).cell? ((⟨w.heap.size, 0, none⟩ : Addr).add j) = some u := by
  intro j u h
  have : ((⟨w.heap.size, 0, none⟩ : Addr).add j) = ⟨w.heap.size, j, none⟩ := by simp [Addr.add]; omega
  rw [this, World.cell?_alloc_at _ _ _ _ rfl]
  simpa using h

theorem Txt.app {w' : World} {T cap n m : Nat} {xs ys : List Int} {news : List Value} (hn : n = xs.length) (h : w'.ownsRow T 5 1 (.slice (some ⟨T, 0, none⟩) (n + m) cap) (n + m) (xs.map (Value.int .u8) ++ news)) (hm : m = ys.length) (hy : news = ys.map (Value.int .u8)) : Txt w' T cap (xs ++ ys) := by
  subst hn; subst hm; subst hy
  unfold Txt
  rw [List.length_append, List.map_append]
  exact h

/-- The text behind an append of ys. -/
def AppPost (T cap : Nat) (xs ys : List Int) (w : World) (e : Ending) (w' : World) : Prop :=
  e = .returned (.slice (some ⟨T, 0, none⟩) (xs ++ ys).length cap) ∧ Txt w' T cap (xs ++ ys) ∧ Upd (fun k => k = T) w w'

theorem ret_text {T cap n m : Nat} {xs ys : List Int} (hn : n = xs.length) (hm : m = ys.length) : Ending.returned (.slice (some ⟨T, 0, none⟩) (n + m) cap) = .returned (.slice (some ⟨T, 0, none⟩) (xs ++ ys).length cap) := by
  rw [List.length_append, hn, hm]

def spc (sel : Int) : List Int := if sel = 1 then [32] else if sel = 2 then [10, 9] else if sel = 3 then [13, 32] else []
theorem spc_sp (sel : Int) : ∀ y ∈ spc sel, isSp y = true := by
  unfold spc
  intro y hy
  split at hy
  · simp at hy; subst hy; decide
  · split at hy
    · simp at hy; rcases hy with rfl | rfl <;> decide
    · split at hy
      · simp at hy; rcases hy with rfl | rfl <;> decide
      · cases hy
theorem spc_len (sel : Int) : (spc sel).length ≤ 2 := by
  unfold spc; split
  · decide
  · split
    · decide
    · split <;> decide

set_option maxHeartbeats 800000 in
theorem space_1 (T cap n : Nat) (xs : List Int) (w : World) (hn : n = xs.length) (h : w.ownsRow T 5 1 (.slice (some ⟨T, 0, none⟩) n cap) n (xs.map (Value.int .u8))) (hr : n + 2 ≤ cap) :
    Calls Try.prog 31 #[.slice (some ⟨T, 0, none⟩) n cap, .int .u8 1] w (AppPost T cap xs [32] w) := by
  obtain ⟨i0, hi, hz0, hz1, hz2⟩ := info_parts Try.info5
  have HN : Hid (n = xs.length) := hn
  clear hn
  go_enter Try.func31, Try.ntmps31
  go_wp2_with (at_builtin; refine wpList_append_fits _ rfl _ _ 33 rfl T 5 i0 1 Try.underlying33 hi hz1 T n cap (xs.map (Value.int .u8)) rfl (h.alloc _) ⟨w.heap.size, 0, none⟩ 1 1 [.int .u8 32] rfl rfl (new_cells w [.int .u8 32] 5) (by simp [Value.oneCell']) (by omega) ?_; intro w2 own2 g2)
  go_ret
  exact ⟨ret_text HN.out rfl, Txt.app HN.out own2 rfl rfl, ((Upd.refl _ w).alloc _).grown g2 rfl⟩
set_option maxHeartbeats 800000 in
theorem space_2 (T cap n : Nat) (xs : List Int) (w : World) (hn : n = xs.length) (h : w.ownsRow T 5 1 (.slice (some ⟨T, 0, none⟩) n cap) n (xs.map (Value.int .u8))) (hr : n + 2 ≤ cap) :
    Calls Try.prog 31 #[.slice (some ⟨T, 0, none⟩) n cap, .int .u8 2] w (AppPost T cap xs [10, 9] w) := by
  obtain ⟨i0, hi, hz0, hz1, hz2⟩ := info_parts Try.info5
  have HN : Hid (n = xs.length) := hn
  clear hn
  go_enter Try.func31, Try.ntmps31
  go_wp2_with (at_builtin; refine wpList_append_fits _ rfl _ _ 33 rfl T 5 i0 1 Try.underlying33 hi hz1 T n cap (xs.map (Value.int .u8)) rfl (h.alloc _) ⟨w.heap.size, 0, none⟩ 2 2 [.int .u8 10, .int .u8 9] rfl rfl (new_cells w [.int .u8 10, .int .u8 9] 5) (by simp [Value.oneCell']) (by omega) ?_; intro w2 own2 g2)
  go_ret
  exact ⟨ret_text HN.out rfl, Txt.app HN.out own2 rfl rfl, ((Upd.refl _ w).alloc _).grown g2 rfl⟩
set_option maxHeartbeats 800000 in
theorem space_3 (T cap n : Nat) (xs : List Int) (w : World) (hn : n = xs.length) (h : w.ownsRow T 5 1 (.slice (some ⟨T, 0, none⟩) n cap) n (xs.map (Value.int .u8))) (hr : n + 2 ≤ cap) :
    Calls Try.prog 31 #[.slice (some ⟨T, 0, none⟩) n cap, .int .u8 3] w (AppPost T cap xs [13, 32] w) := by
  obtain ⟨i0, hi, hz0, hz1, hz2⟩ := info_parts Try.info5
  have HN : Hid (n = xs.length) := hn
  clear hn
  go_enter Try.func31, Try.ntmps31
  go_wp2_with (at_builtin; refine wpList_append_fits _ rfl _ _ 33 rfl T 5 i0 1 Try.underlying33 hi hz1 T n cap (xs.map (Value.int .u8)) rfl (h.alloc _) ⟨w.heap.size, 0, none⟩ 2 2 [.int .u8 13, .int .u8 32] rfl rfl (new_cells w [.int .u8 13, .int .u8 32] 5) (by simp [Value.oneCell']) (by omega) ?_; intro w2 own2 g2)
  go_ret
  exact ⟨ret_text HN.out rfl, Txt.app HN.out own2 rfl rfl, ((Upd.refl _ w).alloc _).grown g2 rfl⟩
theorem space_0 (T cap n : Nat) (xs : List Int) (sel : Int) (w : World) (hn : n = xs.length) (h : w.ownsRow T 5 1 (.slice (some ⟨T, 0, none⟩) n cap) n (xs.map (Value.int .u8))) (h1 : (sel == 1) = false) (h2 : (sel == 2) = false) (h3 : (sel == 3) = false) :
    Calls Try.prog 31 #[.slice (some ⟨T, 0, none⟩) n cap, .int .u8 sel] w (AppPost T cap xs [] w) := by
  have HN : Hid (n = xs.length) := hn
  clear hn
  go_enter Try.func31, Try.ntmps31
  go_wp2
  go_ret
  refine ⟨by rw [List.append_nil, ← HN.out]; rfl, ?_, Upd.refl _ _⟩
  rw [List.append_nil, Txt, ← HN.out]
  exact h

/-- 'appendSpace' -/
theorem space_any (T cap n : Nat) (xs : List Int) (sel : Int) (w : World) (hn : n = xs.length) (h : Txt w T cap xs) (hr : n + 2 ≤ cap) :
    Calls Try.prog 31 #[.slice (some ⟨T, 0, none⟩) n cap, .int .u8 sel] w (AppPost T cap xs (spc sel) w) := by
  have h' : w.ownsRow T 5 1 (.slice (some ⟨T, 0, none⟩) n cap) n (xs.map (Value.int .u8)) := by rw [hn]; exact h
  unfold spc
  by_cases h1 : sel = 1
  · subst h1; exact space_1 T cap n xs w hn h' hr
  · rw [if_neg h1]
    by_cases h2 : sel = 2
    · subst h2; exact space_2 T cap n xs w hn h' hr
    · rw [if_neg h2]
      by_cases h3 : sel = 3
      · subst h3; exact space_3 T cap n xs w hn h' hr
      · rw [if_neg h3]; exact space_0 T cap n xs sel w hn h' (by simpa using h1) (by simpa using h2) (by simpa using h3)

/-- 'flagAt': some byte. -/
theorem flag_any (a : Option Addr) (m cp : Nat) (c : Nat → Int) (k : Nat) (w : World) (hb : Byt w a m c) : Calls Try.prog 30 #[.slice a m cp, .int .i64 k] w fun e w' => (∃ z : Int, 0 ≤ z ∧ z ≤ 255 ∧ e = .returned (.int .u8 z)) ∧ w = w' := by
  by_cases hk : k < m
  · obtain ⟨B, o, ha, hc⟩ := hb.2 k hk
    have hz := hb.1 k
    subst ha
    have hk' : (k : Int) < (m : Int) := by omega
    obtain ⟨z, hzv⟩ : ∃ z, z = c k := ⟨_, rfl⟩
    rw [← hzv] at hc hz
    clear hb hzv
    go_enter Try.func30, Try.ntmps30
    go_wp2
    go_ret
    exact ⟨⟨z, hz.1, hz.2, rfl⟩, rfl⟩
  · have hk' : ¬ (k : Int) < (m : Int) := by omega
    clear hb
    go_enter Try.func30, Try.ntmps30
    go_wp2
    go_ret
    exact ⟨⟨0, by omega, by omega, rfl⟩, rfl⟩
end Go.Proofs.Qxb6600608a
