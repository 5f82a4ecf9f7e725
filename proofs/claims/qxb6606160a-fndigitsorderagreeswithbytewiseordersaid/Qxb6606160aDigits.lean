/-
  'digits' (function 14) and 'ZZDigits' (function 8): each answers 'digF' of the bytes of its argument, and turns nothing.
-/
import Derived.Test.Qxb6606160aRows
import Derived.Test.Qxb6606160aPlain
import Derived.WalkKit
import Derived.WalkSpells
import Derived.WalkLawsBesides
import Derived.Below
namespace Go.Proofs.Qxb6606160a
open Go.RowKit
open Plain

/-- The slice's address leads to the bytes 'zs' (nothing is said of the address of an empty one). -/
def Row8 (w : World) (a : Option Addr) (zs : List Int) : Prop :=
  (∀ n ∈ zs, 0 ≤ n ∧ n ≤ 255) ∧ (zs = [] ∨ ∃ b off, a = some ⟨b, off, none⟩ ∧ ∀ i, i < zs.length → w.cell? ⟨b, off + i, none⟩ = some (.int .u8 (zs.getD i 0)))

theorem ret_int {k : IntKind} {a b : Int} (h : a = b) : Ending.returned (.int k a) = .returned (.int k b) := by rw [h]

theorem byte_bd {zs : List Int} (h : ∀ n ∈ zs, 0 ≤ n ∧ n ≤ 255) (k : Nat) : 0 ≤ zs.getD k 0 ∧ zs.getD k 0 ≤ 255 := by
  rw [List.getD_eq_getElem?_getD]
  rcases hk : zs[k]? with _ | x
  · simp
  · simpa using h x (List.mem_of_getElem? hk)

theorem digits_short (a : Option Addr) (n cap : Nat) (h : n = 0 ∨ 9 < n) (hm : n ≤ maxLen) (w : World) :
    Calls Try.prog 14 #[.slice a n cap] w fun e w' => e = .returned (.int .i64 (-1)) ∧ w' = w := by
  unfold maxLen at hm
  rcases h with rfl | h
  · go_enter Try.func14, Try.ntmps14
    go_wp2
    go_ret
    exact ⟨rfl, rfl⟩
  · have h0 : ((n : Int) == 0) = false := by simp; omega
    have h1 : (9 : Int) < (n : Int) := by omega
    go_enter Try.func14, Try.ntmps14
    go_wp2
    go_ret
    exact ⟨rfl, rfl⟩

theorem dall_stop {zs : List Int} {k : Nat} (hk : k < zs.length) (h : isD (zs.getD k 0) = false) : dall zs = false := by
  rw [List.getD_eq_getElem?_getD, List.getElem?_eq_getElem hk, Option.getD_some] at h
  rw [Bool.eq_false_iff]
  intro hd
  rw [dall, List.all_eq_true] at hd
  have := hd _ (List.getElem_mem hk)
  rw [h] at this
  cases this

theorem digits_long (b off cap : Nat) (zs : List Int) (w : World) (h0 : zs.length ≠ 0) (h9 : zs.length ≤ 9) (hb : ∀ n ∈ zs, 0 ≤ n ∧ n ≤ 255)
    (hc : ∀ i, i < zs.length → w.cell? ⟨b, off + i, none⟩ = some (.int .u8 (zs.getD i 0))) :
    Calls Try.prog 14 #[.slice (some ⟨b, off, none⟩) zs.length cap] w fun e w' => e = .returned (.int .i64 (digF zs)) ∧ w' = w := by
  obtain ⟨n, hn⟩ : ∃ n, n = zs.length := ⟨_, rfl⟩
  have HN : Hid (n = zs.length) := hn
  rw [← hn] at h0 h9 ⊢
  have e0 : ((n : Int) == 0) = false := by simp; omega
  clear hn
  go_enter Try.func14, Try.ntmps14
  go_wp2
  go_loop [3, 16] (fun t i => ∃ k : Nat, k ≤ n ∧ i = .int .i64 k ∧ t = .int .i64 (dval (zs.take k)) ∧ dall (zs.take k) = true) (fun _ i => n - (intOf i).toNat)
  case atStart => exact ⟨0, Nat.zero_le _, rfl, rfl, rfl⟩
  case round =>
    obtain ⟨k, hk, rfl, rfl, hall⟩ := hrel
    have hd := dval_bd _ hall
    have ht := ten_le k (by omega)
    have hl : (zs.take k).length = k := by rw [List.length_take, ← HN.out]; omega
    rw [hl] at hd
    have HA : Hid (dall (zs.take k) = true) := hall
    clear hall hl
    obtain ⟨t, htv⟩ : ∃ t, t = dval (zs.take k) := ⟨_, rfl⟩
    have HT : Hid (t = dval (zs.take k)) := htv
    rw [← htv] at hd ⊢
    clear htv
    have h1 : 0 ≤ t := hd.1
    have h2 : t ≤ 1000000000 := by omega
    clear hd ht
    by_cases hlt : k < n
    · have hlt' := HN.out ▸ hlt
      have hcell := hc k hlt'
      have hcb := byte_bd hb k
      obtain ⟨c, hcv⟩ : ∃ c, c = zs.getD k 0 := ⟨_, rfl⟩
      have HC : Hid (c = zs.getD k 0) := hcv
      rw [← hcv] at hcell hcb
      clear hcv hc hb
      have hts : Hid (zs.take (k + 1) = zs.take k ++ [c]) := by
        have := take_succ zs k hlt'
        rw [← HC.out] at this; exact this
      by_cases c1 : c < 48
      · go_wp2
        go_ret
        refine ⟨ret_int ?_, rfl⟩
        have hz : dall zs = false := dall_stop hlt' (by rw [← HC.out]; simp [isD]; omega)
        simp [digF, hz]
      · by_cases c2 : 57 < c
        · go_wp2
          go_ret
          refine ⟨ret_int ?_, rfl⟩
          have hz : dall zs = false := dall_stop hlt' (by rw [← HC.out]; simp [isD]; omega)
          simp [digF, hz]
        · go_wp2
          go_round
          case rel =>
            refine ⟨k + 1, by omega, by go_num, ?_, ?_⟩
            · rw [hts.out, dval_snoc, ← HT.out]
            · rw [hts.out, dall_snoc, HA.out]; simp [isD]; omega
          case measure => simp [intOf]; omega
    · go_wp2
      go_ret
      refine ⟨ret_int ?_, rfl⟩
      have hkn : k = n := by omega
      have hf : zs.take k = zs := by rw [hkn, HN.out]; exact List.take_length
      have ha := HA.out
      rw [hf] at ha
      rw [HT.out, hf, digF, if_neg (by rw [ha, ← HN.out]; simp; omega)]

theorem digits_any (a : Option Addr) (cap : Nat) (zs : List Int) (w : World) (hr : Row8 w a zs) (hm : zs.length ≤ maxLen) :
    Calls Try.prog 14 #[.slice a zs.length cap] w fun e w' => e = .returned (.int .i64 (digF zs)) ∧ w' = w := by
  by_cases h : zs.length = 0 ∨ 9 < zs.length
  · have e : digF zs = -1 := by unfold digF; rw [if_pos (by rcases h with h | h <;> simp [h])]
    rw [e]
    exact digits_short a zs.length cap h hm w
  · obtain ⟨hb, rfl | ⟨b, off, rfl, hc⟩⟩ := hr
    · simp at h
    · exact digits_long b off cap zs w (by omega) (by omega) hb hc

theorem zzdigits_any (a : Option Addr) (cap : Nat) (zs : List Int) (w : World) (hr : Row8 w a zs) (hm : zs.length ≤ maxLen) :
    Calls Try.prog 8 #[.slice a zs.length cap] w fun e w' => e = .returned (.int .i64 (digF zs)) ∧ w' = w := by
  have key := digits_any a cap zs w hr hm
  obtain ⟨d, hd⟩ : ∃ d, d = digF zs := ⟨_, rfl⟩
  rw [← hd] at key ⊢
  clear hd
  go_enter Try.func8, Try.ntmps8
  go_wp2_with (go_at_call 14; refine key.mono ?_; rintro e w' ⟨rfl, rfl⟩)
  go_ret
  exact ⟨rfl, rfl⟩
end Go.Proofs.Qxb6606160a
