/-
  'zzCompareBytes' (function 12), 'zzCompareInts' (function 13).
-/
import Derived.Test.Qxb6606160aDigits
import Derived.Deep.QuietTactic
import Derived.BigQuiet
namespace Go.Proofs.Qxb6606160a
open Go.RowKit
open Plain

theorem ints_any (x y : Int) (w : World) : Calls Try.prog 13 #[.int .i64 x, .int .i64 y] w fun e w' => e = .returned (.int .i64 (cmpI x y)) ∧ w' = w := by
  by_cases h1 : x < y
  · go_enter Try.func13, Try.ntmps13
    go_wp2
    go_ret
    exact ⟨ret_int (by rw [cmpI, if_pos h1]), rfl⟩
  · by_cases h2 : y < x
    · go_enter Try.func13, Try.ntmps13
      go_wp2
      go_ret
      exact ⟨ret_int (by rw [cmpI, if_neg (Int.not_lt.2 (by omega)), if_pos h2]), rfl⟩
    · go_enter Try.func13, Try.ntmps13
      go_wp2
      go_ret
      exact ⟨ret_int (by rw [cmpI, if_neg (Int.not_lt.2 (by omega)), if_neg (Int.not_lt.2 (by omega))]), rfl⟩

theorem drews1 (w : World) (q a : Nat) : ∃ r, (w.drewN q).drewN a = w.drewN r := ⟨_, World.drewN_drewN _ _ _⟩
theorem drews2 (w : World) (q a b : Nat) : ∃ r, ((w.drewN q).drewN a).drewN b = w.drewN r := ⟨_, by rw [World.drewN_drewN, World.drewN_drewN]⟩

theorem drop_at (zs : List Int) (k : Nat) (h : k < zs.length) : zs.drop k = zs.getD k 0 :: zs.drop (k + 1) := by
  rw [List.drop_eq_getElem_cons h]
  simp [List.getD, h]

theorem bytes_none (a b : Option Addr) (ca cb : Nat) (w : World) :
    Calls Try.prog 12 #[.slice a 0 ca, .slice b 0 cb] w fun e w' => e = .returned (.int .i64 0) ∧ ∃ q, w' = w.drewN q := by
  go_enter Try.func12, Try.ntmps12
  go_wp2
  refine wp_loop_rounds 1 ?_
  rw [rounds_succ]
  go_wp2
  go_ret
  exact ⟨rfl, 0, rfl⟩

set_option maxHeartbeats 400000 in
theorem bytes_some (a oa ca b ob cb : Nat) (xs ys : List Int) (w : World) (hl : xs.length = ys.length) (hm : xs.length ≤ 1048576)
    (hx : ∀ i, i < xs.length → w.cell? ⟨a, oa + i, none⟩ = some (.int .u8 (xs.getD i 0)))
    (hy : ∀ i, i < ys.length → w.cell? ⟨b, ob + i, none⟩ = some (.int .u8 (ys.getD i 0))) :
    Calls Try.prog 12 #[.slice (some ⟨a, oa, none⟩) xs.length ca, .slice (some ⟨b, ob, none⟩) xs.length cb] w fun e w' => e = .returned (.int .i64 (cmpB xs ys)) ∧ ∃ q, w' = w.drewN q := by
  obtain ⟨n, hn⟩ : ∃ n, n = xs.length := ⟨_, rfl⟩
  have HX : Hid (n = xs.length) := hn
  have HY : Hid (n = ys.length) := hn.trans hl
  rw [← hl] at hy
  rw [← hn] at hm hx hy ⊢
  clear hn hl
  go_enter Try.func12, Try.ntmps12
  go_wp2
  go_loopw [6] (fun i wr => ∃ k q : Nat, k ≤ n ∧ i = .int .i64 k ∧ wr = w.drewN q ∧ cmpB xs ys = cmpB (xs.drop k) (ys.drop k)) (fun i _ => n - (intOf i).toNat)
  case atStart => exact ⟨0, 0, Nat.zero_le _, rfl, rfl, rfl⟩
  case round =>
    obtain ⟨k, q, hk, rfl, rfl, hcmp⟩ := hrel
    have HC : Hid (cmpB xs ys = cmpB (xs.drop k) (ys.drop k)) := hcmp
    clear hcmp
    by_cases hlt : k < n
    · have hlt' : (k : Int) < (n : Int) := by omega
      have gx : w.cell? ⟨a, oa + k, none⟩ = some (.int .u8 (xs.getD k 0)) := hx k hlt
      have gy : w.cell? ⟨b, ob + k, none⟩ = some (.int .u8 (ys.getD k 0)) := hy k hlt
      have dx := drop_at xs k (by rw [← HX.out]; exact hlt)
      have dy := drop_at ys k (by rw [← HY.out]; exact hlt)
      obtain ⟨x, hxv⟩ : ∃ x, x = xs.getD k 0 := ⟨_, rfl⟩
      obtain ⟨y, hyv⟩ : ∃ y, y = ys.getD k 0 := ⟨_, rfl⟩
      rw [← hxv] at gx dx
      rw [← hyv] at gy dy
      have HS : Hid (cmpB xs ys = if x < y then -1 else if y < x then 1 else cmpB (xs.drop (k + 1)) (ys.drop (k + 1))) := by
        rw [HC.out, dx, dy]; rfl
      clear dx dy hx hy hxv hyv
      by_cases c1 : x < y
      · go_wp2
        go_quiet (fail)
        go_wp2
        go_ret
        exact ⟨ret_int (by rw [HS.out, if_pos c1]), drews1 _ _ _⟩
      · by_cases c2 : y < x
        · go_wp2
          go_quiet (fail)
          go_wp2
          go_quiet (fail)
          go_wp2
          go_ret
          refine ⟨ret_int (by rw [HS.out, if_neg (Int.not_lt.2 (by omega)), if_pos c2]), ?_⟩
          first | exact drews1 _ _ _ | exact drews2 _ _ _ _
        · go_wp2
          go_quiet (fail)
          go_wp2
          go_quiet (fail)
          go_wp2
          go_roundw
          case rel => exact ⟨k + 1, _, by omega, by go_num, rfl, by rw [HS.out, if_neg (Int.not_lt.2 (by omega)), if_neg (Int.not_lt.2 (by omega))]⟩
          case measure => simp [intOf]; omega
    · go_wp2
      go_ret
      refine ⟨ret_int ?_, _, rfl⟩
      have e : k = n := by omega
      rw [HC.out, List.drop_of_length_le (by rw [e, HX.out]; exact Nat.le_refl _), List.drop_of_length_le (by rw [e, HY.out]; exact Nat.le_refl _)]
      rfl

theorem bytes_any (a : Option Addr) (ca : Nat) (b : Option Addr) (cb : Nat) (xs ys : List Int) (w : World) (hl : xs.length = ys.length) (hm : xs.length ≤ 1048576) (hx : Row8 w a xs) (hy : Row8 w b ys) :
    Calls Try.prog 12 #[.slice a xs.length ca, .slice b xs.length cb] w fun e w' => e = .returned (.int .i64 (cmpB xs ys)) ∧ ∃ q, w' = w.drewN q := by
  by_cases h0 : xs = []
  · subst h0
    have h1 : ys = [] := List.length_eq_zero_iff.1 hl.symm
    subst h1
    exact bytes_none a b ca cb w
  · obtain ⟨_, rfl | ⟨b1, o1, rfl, hc1⟩⟩ := hx
    · exact absurd rfl h0
    · obtain ⟨_, rfl | ⟨b2, o2, rfl, hc2⟩⟩ := hy
      · exact absurd (List.length_eq_zero_iff.1 hl) h0
      · exact bytes_some b1 o1 ca b2 o2 cb xs ys w hl hm hc1 hc2
end Go.Proofs.Qxb6606160a
