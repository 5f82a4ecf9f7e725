/-
  'zzPlaceValueDigits' (function 9): it answers 'digF' too.
-/
import Derived.Test.Qxb6606160aDigits
namespace Go.Proofs.Qxb6606160a
open Go.RowKit
open Plain

theorem place_short (a : Option Addr) (n cap : Nat) (h : n = 0 ∨ 9 < n) (hm : n ≤ maxLen) (w : World) :
    Calls Try.prog 9 #[.slice a n cap] w fun e w' => e = .returned (.int .i64 (-1)) ∧ w' = w := by
  unfold maxLen at hm
  rcases h with rfl | h
  · go_enter Try.func9, Try.ntmps9
    go_wp2
    go_ret
    exact ⟨rfl, rfl⟩
  · have h0 : ((n : Int) == 0) = false := by simp; omega
    have h1 : (9 : Int) < (n : Int) := by omega
    go_enter Try.func9, Try.ntmps9
    go_wp2
    go_ret
    exact ⟨rfl, rfl⟩

theorem drop_one (zs : List Int) (m : Nat) (h0 : 1 ≤ m) (h : m ≤ zs.length) : zs.drop (m - 1) = zs.getD (m - 1) 0 :: zs.drop m := by
  obtain ⟨k, rfl⟩ : ∃ k, m = k + 1 := ⟨m - 1, by omega⟩
  rw [Nat.add_sub_cancel, List.drop_eq_getElem_cons (by omega)]
  simp [List.getD, show k < zs.length by omega]

set_option maxHeartbeats 400000 in
theorem place_long (b off cap : Nat) (zs : List Int) (w : World) (h0 : zs.length ≠ 0) (h9 : zs.length ≤ 9) (hb : ∀ n ∈ zs, 0 ≤ n ∧ n ≤ 255)
    (hc : ∀ i, i < zs.length → w.cell? ⟨b, off + i, none⟩ = some (.int .u8 (zs.getD i 0))) :
    Calls Try.prog 9 #[.slice (some ⟨b, off, none⟩) zs.length cap] w fun e w' => e = .returned (.int .i64 (digF zs)) ∧ w' = w := by
  obtain ⟨n, hn⟩ : ∃ n, n = zs.length := ⟨_, rfl⟩
  have HN : Hid (n = zs.length) := hn
  rw [← hn] at h0 h9 ⊢
  have e0 : ((n : Int) == 0) = false := by simp; omega
  clear hn
  go_enter Try.func9, Try.ntmps9
  go_wp2
  go_loop [3, 4, 5, 6] (fun t p i _ => ∃ m : Nat, m ≤ n ∧ i = .int .i64 ((m : Int) - 1) ∧ t = .int .i64 (pval (zs.drop m)) ∧ p = .int .i64 (ten (n - m)) ∧ dall (zs.drop m) = true) (fun _ _ i _ => (intOf i + 1).toNat)
  case atStart => exact ⟨n, Nat.le_refl _, rfl, by rw [HN.out, List.drop_length]; rfl, by rw [Nat.sub_self]; rfl, by rw [HN.out, List.drop_length]; rfl⟩
  case round =>
    obtain ⟨m, hm, rfl, rfl, rfl, hall⟩ := hrel
    have hd := pval_bd _ hall
    have hp := ten_pos (n - m)
    have ht := ten_le (n - m) (by omega)
    have hl : (zs.drop m).length = n - m := by rw [List.length_drop, ← HN.out]
    rw [hl] at hd
    have HA : Hid (dall (zs.drop m) = true) := hall
    have HL : Hid ((zs.drop m).length = n - m) := hl
    clear hall hl
    obtain ⟨t, htv⟩ : ∃ t, t = pval (zs.drop m) := ⟨_, rfl⟩
    have HT : Hid (t = pval (zs.drop m)) := htv
    rw [← htv] at hd ⊢
    clear htv
    have h1 : 0 ≤ t := hd.1
    have h2 : t ≤ 1000000000 := by omega
    have hp1 : m = 0 ∨ ten (n - m) ≤ 100000000 := by
      by_cases e : m = 0
      · exact .inl e
      · right
        have := ten_succ (n - m)
        have := ten_le (n - m + 1) (by omega)
        omega
    obtain ⟨p, hpv⟩ : ∃ p, p = ten (n - m) := ⟨_, rfl⟩
    have HP : Hid (p = ten (n - m)) := hpv
    rw [← hpv] at hd hp ht hp1 ⊢
    clear hpv hd
    by_cases hlt : 1 ≤ m
    · have hlt' : m - 1 < zs.length := by rw [← HN.out]; omega
      have hcell := hc (m - 1) hlt'
      have hcb := byte_bd hb (m - 1)
      have hdr := drop_one zs m hlt (by rw [← HN.out]; exact hm)
      obtain ⟨c, hcv⟩ : ∃ c, c = zs.getD (m - 1) 0 := ⟨_, rfl⟩
      have HC : Hid (c = zs.getD (m - 1) 0) := hcv
      rw [← hcv] at hcell hcb hdr
      clear hcv hc hb
      have HD : Hid (zs.drop (m - 1) = c :: zs.drop m) := hdr
      clear hdr
      by_cases c1 : c < 48
      · go_wp2
        go_ret
        refine ⟨ret_int ?_, rfl⟩
        have hz : dall zs = false := dall_stop hlt' (by rw [← HC.out]; simp [isD]; omega)
        simp [digF, hz]
      · by_cases c2 : 57 < c
        · go_wp2
          go_ret
          refine ⟨ret_int ?_, rfl⟩
          have hz : dall zs = false := dall_stop hlt' (by rw [← HC.out]; simp [isD]; omega)
          simp [digF, hz]
        · have b1 : 0 ≤ (c - 48) * p := Int.mul_nonneg (by omega) (by omega)
          have b2 : (c - 48) * p ≤ 9 * p := Int.mul_le_mul_of_nonneg_right (by omega) (by omega)
          go_wp2
          go_round
          case rel =>
            refine ⟨m - 1, by omega, by go_num, ?_, ?_, ?_⟩
            · rw [HD.out, pval, ← HT.out, HL.out, ← HP.out]
            · rw [show n - (m - 1) = n - m + 1 by omega, ten_succ, ← HP.out, Int.mul_comm]
            · rw [HD.out, dall, List.all_cons]
              have := HA.out
              rw [dall] at this
              rw [this]; simp [isD]; omega
          case measure => simp [intOf]; omega
    · go_wp2
      go_ret
      refine ⟨ret_int ?_, rfl⟩
      have hm0 : m = 0 := by omega
      have ha := HA.out
      rw [hm0, List.drop_zero] at ha
      rw [HT.out, hm0, List.drop_zero, digF, if_neg (by rw [ha, ← HN.out]; simp; omega), dval_eq_pval]

theorem place_any (a : Option Addr) (cap : Nat) (zs : List Int) (w : World) (hr : Row8 w a zs) (hm : zs.length ≤ maxLen) :
    Calls Try.prog 9 #[.slice a zs.length cap] w fun e w' => e = .returned (.int .i64 (digF zs)) ∧ w' = w := by
  by_cases h : zs.length = 0 ∨ 9 < zs.length
  · have e : digF zs = -1 := by unfold digF; rw [if_pos (by rcases h with h | h <;> simp [h])]
    rw [e]
    exact place_short a zs.length cap h hm w
  · obtain ⟨hb, rfl | ⟨b, off, rfl, hc⟩⟩ := hr
    · simp at h
    · exact place_long b off cap zs w (by omega) (by omega) hb hc
end Go.Proofs.Qxb6606160a
