/-
  The imports of this seat's walks; bytes in memory.
-/
import Derived.Test.Qxb6600608aRows
import Derived.Test.Qxb6600608aPlain
import Derived.WalkKit
import Derived.WalkSpells
import Derived.WalkLawsBesides
import Derived.Below
import Derived.OwnWalk
import Derived.Laws.OwnMore
import Derived.Deep.QuietTactic
import Derived.BigQuiet
namespace Go.Proofs.Qxb6600608a
open Go.RowKit
open Plain

/-- The m bytes c 0, c 1, .. lie at a. -/
def Byt (w : World) (a : Option Addr) (m : Nat) (c : Nat → Int) : Prop :=
  (∀ i, 0 ≤ c i ∧ c i ≤ 255) ∧ ∀ j, j < m → ∃ B o, a = some ⟨B, o, none⟩ ∧ w.cell? ⟨B, o + j, none⟩ = some (.int .u8 (c j))

theorem ret_int {k : IntKind} {a b : Int} (h : a = b) : Ending.returned (.int k a) = .returned (.int k b) := by rw [h]

theorem Byt.below {w w1 : World} {a : Option Addr} {m : Nat} {c : Nat → Int} (h : Byt w a m c) (hb : Below w.heap.size w w1) : Byt w1 a m c := by
  refine ⟨h.1, fun j hj => ?_⟩
  obtain ⟨B, o, ha, hc⟩ := h.2 j hj
  exact ⟨B, o, ha, (hb.cell (p := ⟨B, o + j, none⟩) (World.block_lt_of_cell? _ _ hc)).trans hc⟩

theorem space_yes (x : Int) (h : isSp x = true) (w : World) : Calls Try.prog 36 #[.int .u8 x] w fun e w' => e = .returned (.bool true) ∧ w' = w := by
  rw [isSp_iff] at h
  rcases h with rfl | rfl | rfl | rfl
  all_goals
    go_enter Try.func36, Try.ntmps36
    go_wp2
    go_ret
    exact ⟨rfl, rfl⟩

theorem space_no (x : Int) (h : isSp x = false) (w : World) : Calls Try.prog 36 #[.int .u8 x] w fun e w' => e = .returned (.bool false) ∧ w' = w := by
  have h' : ¬ (x = 32 ∨ x = 9 ∨ x = 10 ∨ x = 13) := by rw [← isSp_iff]; simp [h]
  have h1 : (x == 32) = false := by simp; omega
  have h2 : (x == 9) = false := by simp; omega
  have h3 : (x == 10) = false := by simp; omega
  have h4 : (x == 13) = false := by simp; omega
  clear h h'
  go_enter Try.func36, Try.ntmps36
  go_wp2
  go_ret
  exact ⟨rfl, rfl⟩

theorem digit_yes (x : Int) (h : isDg x = true) (w : World) : Calls Try.prog 37 #[.int .u8 x] w fun e w' => e = .returned (.bool true) ∧ w' = w := by
  rw [isDg_iff] at h
  obtain ⟨h1, h2⟩ := h
  go_enter Try.func37, Try.ntmps37
  go_wp2
  go_ret
  exact ⟨by first | rfl | (simp; done) | (simp; omega), rfl⟩

theorem digit_no (x : Int) (h : isDg x = false) (w : World) : Calls Try.prog 37 #[.int .u8 x] w fun e w' => e = .returned (.bool false) ∧ w' = w := by
  have h' : x < 48 ∨ (¬ x < 48 ∧ 57 < x) := by
    have : ¬ (48 ≤ x ∧ x ≤ 57) := by rw [← isDg_iff]; simp [h]
    omega
  clear h
  rcases h' with h | ⟨h, h2⟩
  · go_enter Try.func37, Try.ntmps37
    go_wp2
    go_ret
    exact ⟨by first | rfl | (simp; done) | (simp; omega), rfl⟩
  · go_enter Try.func37, Try.ntmps37
    go_wp2
    go_ret
    exact ⟨by first | rfl | (simp; done) | (simp; omega), rfl⟩

/-- 'skipSpace' -/
theorem skip_any (a : Option Addr) (m cp : Nat) (c : Nat → Int) (i : Nat) (w : World) (hb : Byt w a m c) (hi : i ≤ m) (hm : m ≤ 1048576) :
    Calls Try.prog 21 #[.slice a m cp, .int .i64 i] w fun e w' => e = .returned (.int .i64 (run isSp c m i)) ∧ w' = w := by
  obtain ⟨b1, b2⟩ := hb
  go_enter Try.func21, Try.ntmps21
  go_wp2
  go_loop [1] (fun v => ∃ k : Nat, k ≤ m ∧ v = .int .i64 k ∧ run isSp c m i = run isSp c m k) (fun v => m - (intOf v).toNat)
  case atStart => exact ⟨i, hi, rfl, rfl⟩
  case round =>
    obtain ⟨k, hk, rfl, hr⟩ := hrel
    have HR : Hid (run isSp c m i = run isSp c m k) := hr
    clear hr
    by_cases hlt : k < m
    · obtain ⟨B, o, ha, hcell⟩ := b2 k hlt
      subst ha
      have hlt' : (k : Int) < (m : Int) := by omega
      have hx := b1 k
      obtain ⟨x, hxv⟩ : ∃ x, x = c k := ⟨_, rfl⟩
      rw [← hxv] at hcell hx
      have HX : Hid (x = c k) := hxv
      clear hxv b1 b2
      by_cases hs : isSp x = true
      · have key := space_yes x hs
        have HS : Hid (run isSp c m k = run isSp c m (k + 1)) := run_step hlt (by rw [← HX.out]; exact hs)
        clear hs
        go_wp2_with (go_at_call 36; refine (key _).mono ?_; rintro e w' ⟨rfl, rfl⟩)
        go_round
        case rel => exact ⟨k + 1, by omega, by go_num, HR.out.trans HS.out⟩
        case measure => simp [intOf]; omega
      · have hs' : isSp x = false := by simpa using hs
        have key := space_no x hs'
        have HS : Hid (run isSp c m k = k) := run_stop (by rw [← HX.out]; exact hs')
        clear hs hs'
        go_wp2_with (go_at_call 36; refine (key _).mono ?_; rintro e w' ⟨rfl, rfl⟩)
        go_ret
        exact ⟨ret_int (by rw [HR.out, HS.out]), rfl⟩
    · clear b1 b2
      have hlt' : ¬ (k : Int) < (m : Int) := by omega
      go_wp2
      go_ret
      exact ⟨ret_int (by rw [HR.out, run_out (by omega)]), rfl⟩

/-- 'skipDigits' -/
theorem digs_any (a : Option Addr) (m cp : Nat) (c : Nat → Int) (i : Nat) (w : World) (hb : Byt w a m c) (hi : i ≤ m) (hm : m ≤ 4194304) :
    Calls Try.prog 43 #[.slice a m cp, .int .i64 i] w fun e w' => e = .returned (.int .i64 (run isDg c m i)) ∧ w' = w := by
  obtain ⟨b1, b2⟩ := hb
  go_enter Try.func43, Try.ntmps43
  go_wp2
  go_loop [1] (fun v => ∃ k : Nat, k ≤ m ∧ v = .int .i64 k ∧ run isDg c m i = run isDg c m k) (fun v => m - (intOf v).toNat)
  case atStart => exact ⟨i, hi, rfl, rfl⟩
  case round =>
    obtain ⟨k, hk, rfl, hr⟩ := hrel
    have HR : Hid (run isDg c m i = run isDg c m k) := hr
    clear hr
    by_cases hlt : k < m
    · obtain ⟨B, o, ha, hcell⟩ := b2 k hlt
      subst ha
      have hlt' : (k : Int) < (m : Int) := by omega
      have hx := b1 k
      obtain ⟨x, hxv⟩ : ∃ x, x = c k := ⟨_, rfl⟩
      rw [← hxv] at hcell hx
      have HX : Hid (x = c k) := hxv
      clear hxv b1 b2
      by_cases hs : isDg x = true
      · have HS : Hid (run isDg c m k = run isDg c m (k + 1)) := run_step hlt (by rw [← HX.out]; exact hs)
        obtain ⟨h1, h2⟩ := (isDg_iff x).1 hs
        clear hs
        go_wp2
        go_round
        case rel => exact ⟨k + 1, by omega, by go_num, HR.out.trans HS.out⟩
        case measure => simp [intOf]; omega
      · have hs' : isDg x = false := by simpa using hs
        have HS : Hid (run isDg c m k = k) := run_stop (by rw [← HX.out]; exact hs')
        have hx' : x < 48 ∨ 57 < x := by
          have : ¬ (48 ≤ x ∧ x ≤ 57) := by rw [← isDg_iff]; exact hs
          omega
        clear hs hs'
        rcases hx' with h1 | h1
        · go_wp2
          go_ret
          exact ⟨ret_int (by rw [HR.out, HS.out]), rfl⟩
        · go_wp2
          go_ret
          exact ⟨ret_int (by rw [HR.out, HS.out]), rfl⟩
    · clear b1 b2
      have hlt' : ¬ (k : Int) < (m : Int) := by omega
      go_wp2
      go_ret
      exact ⟨ret_int (by rw [HR.out, run_out (by omega)]), rfl⟩
end Go.Proofs.Qxb6600608a
