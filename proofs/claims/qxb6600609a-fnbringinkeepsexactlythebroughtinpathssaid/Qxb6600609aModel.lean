/-
  'zzqModelKept' (13).
-/
import Derived.Test.Qxb6600609aKept
namespace Go.Proofs.Qxb6600609a
open Go.RowKit
open Plain
set_option linter.unusedVariables false

theorem led_mono (pss : List (List ByteArray)) (qs : List ByteArray) (j : Nat) (h : led (pss.take j) qs = true) : led pss qs = true := by
  unfold led at h ⊢
  rw [List.any_eq_true] at h ⊢
  obtain ⟨x, hx, h⟩ := h
  exact ⟨x, List.mem_of_mem_take hx, h⟩
theorem led_snoc (pss : List (List ByteArray)) (qs : List ByteArray) (i : Nat) (h : i < pss.length) : led (pss.take (i + 1)) qs = (led (pss.take i) qs || (decide (pss.getD i [] ≠ []) && begins (pss.getD i []) qs)) := by
  have e : pss.getD i [] = pss[i] := by simp [List.getD, h]
  unfold led
  rw [List.take_succ_eq_append_getElem h, List.any_append, List.any_cons, List.any_nil, Bool.or_false, e]

open Classical in
set_option maxHeartbeats 1600000 in
theorem model_any (r : Bool) (a0 : Option Addr) (n0 c0 : Nat) (ls : List ByteArray) (a1 : Option Addr) (n1 c1 : Nat) (pss : List (List ByteArray)) (a2 : Option Addr) (n2 c2 : Nat) (qs : List ByteArray) (w : World)
    (hn0 : n0 = ls.length) (hs0 : Strs w a0 ls) (hm0 : n0 ≤ 1048576) (hn1 : n1 = pss.length) (hs1 : Pths w a1 pss) (hm1 : n1 ≤ 1048576) (hin : ∀ j, j < pss.length → (pss.getD j []).length ≤ 1048576) (hn2 : n2 = qs.length) (hs2 : Strs w a2 qs) (hm2 : n2 ≤ 1048576) :
    Calls Try.prog 13 #[.bool r, .slice a0 n0 c0, .slice a1 n1 c1, .slice a2 n2 c2] w fun e w' => e = .returned (.bool (model r ls pss qs)) ∧ ∃ k, w' = w.drewN k := by
  have HN0 : Hid (n0 = ls.length) := hn0
  have HN1 : Hid (n1 = pss.length) := hn1
  have HN2 : Hid (n2 = qs.length) := hn2
  clear hn0 hn1 hn2
  cases r with
  | false =>
    have HB : Hid (bare false ls qs = false) := by
      cases qs with
      | nil => exact (rfl : bare false ls [] = false)
      | cons y q => exact (rfl : bare false ls (y :: q) = false)
    go_enter Try.func13, Try.ntmps13
    go_wp2
    go_loopw [9, 10] (fun v9 v10 wr => ∃ i k : Nat, i ≤ n1 ∧ v9 = .int .i64 (i : Int) ∧ wr = w.drewN k ∧ led (pss.take i) qs = false) (fun v9 _ _ => n1 - (intOf v9).toNat)
    case atStart => exact ⟨0, 0, Nat.zero_le _, rfl, rfl, rfl⟩
    case round =>
      obtain ⟨i, k, hi, rfl, rfl, hL⟩ := hrel
      have HL : Hid (led (pss.take i) qs = false) := hL
      clear hL
      by_cases hlt : i < n1
      · have hlp : i < pss.length := by rw [← HN1.out]; exact hlt
        obtain ⟨B, o, aj, cj, hae, hc, hsj, _⟩ := hs1 i hlp
        subst hae
        have key := prefix_any aj _ cj (pss.getD i []) a2 n2 c2 qs (w.drewN k) rfl hsj (hin i hlp) HN2.out hs2 hm2
        have HT : Hid (led (pss.take (i + 1)) qs = (decide (pss.getD i [] ≠ []) && begins (pss.getD i []) qs)) := by
          have e := led_snoc pss qs i hlp
          rw [HL.out, Bool.false_or] at e
          exact e
        have HI' : Hid (led (pss.take (i + 1)) qs = true → led pss qs = true) := fun h => led_mono pss qs _ h
        obtain ⟨zs, hz⟩ : ∃ x, x = pss.getD i [] := ⟨_, rfl⟩
        rw [← hz] at hc key HT
        have hbz : zs.length ≤ 1048576 := by rw [hz]; exact hin i hlp
        clear hz hs0 hs1 hs2 hin hsj
        by_cases hz0 : zs.length = 0
        · have HE : Hid (led (pss.take (i + 1)) qs = false) := by
            have : zs = [] := List.length_eq_zero_iff.1 hz0
            have e := HT.out
            rw [this] at e
            exact (show led (pss.take (i + 1)) qs = false by simpa using e)
          clear HT HI'
          rw [hz0] at hc
          clear key
          go_wp2
          go_roundw
          case rel => exact ⟨i + 1, k, by omega, by go_num, rfl, HE.out⟩
          case measure => simp [intOf]; omega
        · have hz1 : zs ≠ [] := fun e => hz0 (by rw [e]; rfl)
          have HT2 : Hid (led (pss.take (i + 1)) qs = begins zs qs) := by
            have e := HT.out
            rw [decide_eq_true hz1, Bool.true_and] at e
            exact e
          clear HT hz1
          have hzp : (0 : Int) < (zs.length : Int) := by omega
          obtain ⟨l, hl⟩ : ∃ l, l = zs.length := ⟨_, rfl⟩
          have hlb : l ≤ 1048576 := by rw [hl]; exact hbz
          rw [← hl] at hc key hzp
          clear hl hz0
          cases hbg : begins zs qs with
          | true =>
            rw [hbg] at key HT2
            have HE : Hid (true = model false ls pss qs) := by
              unfold model
              rw [HI'.out HT2.out, Bool.or_true]
              exact (rfl : true = true)
            clear hbg HT2 HI'
            go_wp2_with (go_at_call 23; go_must (refine key.mono ?_; rintro e w2 ⟨rfl, kk, rfl⟩; clear key))
            go_ret
            exact ⟨congrArg (fun b => Ending.returned (.bool b)) HE.out, _, rfl⟩
          | false =>
            rw [hbg] at key HT2
            clear hbg HI'
            go_wp2_with (go_at_call 23; go_must (refine key.mono ?_; rintro e w2 ⟨rfl, kk, rfl⟩; clear key))
            go_roundw
            case rel => exact ⟨i + 1, k + kk, by omega, by go_num, by simp, HT2.out⟩
            case measure => simp [intOf]; omega
      · have HE : Hid (false = model false ls pss qs) := by
          have e := HL.out
          rw [List.take_of_length_le (by rw [← HN1.out]; omega)] at e
          unfold model
          rw [HB.out, e]
          exact (rfl : false = false)
        clear hs0 hs1 hs2 hin
        go_wp2
        go_ret
        exact ⟨congrArg (fun b => Ending.returned (.bool b)) HE.out, k, rfl⟩
  | true =>
    by_cases h0 : n2 = 0
    · have HB : Hid (bare true ls qs = false) := by
        have : qs = [] := List.length_eq_zero_iff.1 (by rw [← HN2.out]; exact h0)
        rw [this]; exact (rfl : bare true ls [] = false)
      have HZ : Hid (n2 = 0) := h0
      have hz2 : ¬ (0 : Int) < (n2 : Int) := by omega
      clear h0
      go_enter Try.func13, Try.ntmps13
      go_wp2
      go_loopw [9, 10] (fun v9 v10 wr => ∃ i k : Nat, i ≤ n1 ∧ v9 = .int .i64 (i : Int) ∧ wr = w.drewN k ∧ led (pss.take i) qs = false) (fun v9 _ _ => n1 - (intOf v9).toNat)
      case atStart => exact ⟨0, 0, Nat.zero_le _, rfl, rfl, rfl⟩
      case round =>
        obtain ⟨i, k, hi, rfl, rfl, hL⟩ := hrel
        have HL : Hid (led (pss.take i) qs = false) := hL
        clear hL
        by_cases hlt : i < n1
        · have hlp : i < pss.length := by rw [← HN1.out]; exact hlt
          obtain ⟨B, o, aj, cj, hae, hc, hsj, _⟩ := hs1 i hlp
          subst hae
          have key := prefix_any aj _ cj (pss.getD i []) a2 n2 c2 qs (w.drewN k) rfl hsj (hin i hlp) HN2.out hs2 hm2
          have HT : Hid (led (pss.take (i + 1)) qs = (decide (pss.getD i [] ≠ []) && begins (pss.getD i []) qs)) := by
            have e := led_snoc pss qs i hlp
            rw [HL.out, Bool.false_or] at e
            exact e
          have HI' : Hid (led (pss.take (i + 1)) qs = true → led pss qs = true) := fun h => led_mono pss qs _ h
          obtain ⟨zs, hz⟩ : ∃ x, x = pss.getD i [] := ⟨_, rfl⟩
          rw [← hz] at hc key HT
          have hbz : zs.length ≤ 1048576 := by rw [hz]; exact hin i hlp
          clear hz hs0 hs1 hs2 hin hsj
          by_cases hz0 : zs.length = 0
          · have HE : Hid (led (pss.take (i + 1)) qs = false) := by
              have : zs = [] := List.length_eq_zero_iff.1 hz0
              have e := HT.out
              rw [this] at e
              exact (show led (pss.take (i + 1)) qs = false by simpa using e)
            clear HT HI'
            rw [hz0] at hc
            clear key
            go_wp2
            go_roundw
            case rel => exact ⟨i + 1, k, by omega, by go_num, rfl, HE.out⟩
            case measure => simp [intOf]; omega
          · have hz1 : zs ≠ [] := fun e => hz0 (by rw [e]; rfl)
            have HT2 : Hid (led (pss.take (i + 1)) qs = begins zs qs) := by
              have e := HT.out
              rw [decide_eq_true hz1, Bool.true_and] at e
              exact e
            clear HT hz1
            have hzp : (0 : Int) < (zs.length : Int) := by omega
            obtain ⟨l, hl⟩ : ∃ l, l = zs.length := ⟨_, rfl⟩
            have hlb : l ≤ 1048576 := by rw [hl]; exact hbz
            rw [← hl] at hc key hzp
            clear hl hz0
            cases hbg : begins zs qs with
            | true =>
              rw [hbg] at key HT2
              have HE : Hid (true = model true ls pss qs) := by
                unfold model
                rw [HI'.out HT2.out, Bool.or_true]
                exact (rfl : true = true)
              clear hbg HT2 HI'
              go_wp2_with (go_at_call 23; go_must (refine key.mono ?_; rintro e w2 ⟨rfl, kk, rfl⟩; clear key))
              go_ret
              exact ⟨congrArg (fun b => Ending.returned (.bool b)) HE.out, _, rfl⟩
            | false =>
              rw [hbg] at key HT2
              clear hbg HI'
              go_wp2_with (go_at_call 23; go_must (refine key.mono ?_; rintro e w2 ⟨rfl, kk, rfl⟩; clear key))
              go_roundw
              case rel => exact ⟨i + 1, k + kk, by omega, by go_num, by simp, HT2.out⟩
              case measure => simp [intOf]; omega
        · have HE : Hid (false = model true ls pss qs) := by
            have e := HL.out
            rw [List.take_of_length_le (by rw [← HN1.out]; omega)] at e
            unfold model
            rw [HB.out, e]
            exact (rfl : false = false)
          clear hs0 hs1 hs2 hin
          go_wp2
          go_ret
          exact ⟨congrArg (fun b => Ending.returned (.bool b)) HE.out, k, rfl⟩
    · have hz2 : (0 : Int) < (n2 : Int) := by omega
      have hz2' : 0 < n2 := by omega
      have hq0 : 0 < qs.length := by rw [← HN2.out]; omega
      clear h0
      obtain ⟨B2, o2, hae2, hc2⟩ := hs2 0 hq0
      have kh := has_any a0 n0 c0 ls (qs.getD 0 ByteArray.empty) w HN0.out hs0 hm0
      have hbare : bare true ls qs = !decide (qs.getD 0 ByteArray.empty ∈ ls) := by
        cases qs with
        | nil => simp at hq0
        | cons y q => simp [bare, List.getD]
      rw [Nat.add_zero] at hc2
      obtain ⟨y, hy⟩ : ∃ y, y = qs.getD 0 ByteArray.empty := ⟨_, rfl⟩
      rw [← hy] at hc2 kh hbare
      clear hy hq0
      subst hae2
      cases hd : decide (y ∈ ls) with
      | false =>
        rw [hd] at kh hbare
        have HE : Hid (true = model true ls pss qs) := by
          unfold model; rw [hbare]; exact (rfl : true = true)
        clear hd hbare hs0 hs1 hs2 hin
        go_enter Try.func13, Try.ntmps13
        go_wp2_with (go_at_call 22; go_must (refine kh.mono ?_; rintro e w2 ⟨rfl, rfl⟩; clear kh))
        go_ret
        exact ⟨congrArg (fun b => Ending.returned (.bool b)) HE.out, 0, rfl⟩
      | true =>
        rw [hd] at kh hbare
        have HB : Hid (bare true ls qs = false) := by rw [hbare]; rfl
        clear hd hbare
        go_enter Try.func13, Try.ntmps13
        go_wp2_with (go_at_call 22; go_must (refine kh.mono ?_; rintro e w2 ⟨rfl, rfl⟩; clear kh))
        go_loopw [9, 10] (fun v9 v10 wr => ∃ i k : Nat, i ≤ n1 ∧ v9 = .int .i64 (i : Int) ∧ wr = w.drewN k ∧ led (pss.take i) qs = false) (fun v9 _ _ => n1 - (intOf v9).toNat)
        case atStart => exact ⟨0, 0, Nat.zero_le _, rfl, rfl, rfl⟩
        case round =>
          obtain ⟨i, k, hi, rfl, rfl, hL⟩ := hrel
          have HL : Hid (led (pss.take i) qs = false) := hL
          clear hL
          by_cases hlt : i < n1
          · have hlp : i < pss.length := by rw [← HN1.out]; exact hlt
            obtain ⟨B, o, aj, cj, hae, hc, hsj, _⟩ := hs1 i hlp
            subst hae
            have key := prefix_any aj _ cj (pss.getD i []) (some ⟨B2, o2, none⟩) n2 c2 qs (w.drewN k) rfl hsj (hin i hlp) HN2.out hs2 hm2
            have HT : Hid (led (pss.take (i + 1)) qs = (decide (pss.getD i [] ≠ []) && begins (pss.getD i []) qs)) := by
              have e := led_snoc pss qs i hlp
              rw [HL.out, Bool.false_or] at e
              exact e
            have HI' : Hid (led (pss.take (i + 1)) qs = true → led pss qs = true) := fun h => led_mono pss qs _ h
            obtain ⟨zs, hz⟩ : ∃ x, x = pss.getD i [] := ⟨_, rfl⟩
            rw [← hz] at hc key HT
            have hbz : zs.length ≤ 1048576 := by rw [hz]; exact hin i hlp
            clear hz hs0 hs1 hs2 hin hsj
            by_cases hz0 : zs.length = 0
            · have HE : Hid (led (pss.take (i + 1)) qs = false) := by
                have : zs = [] := List.length_eq_zero_iff.1 hz0
                have e := HT.out
                rw [this] at e
                exact (show led (pss.take (i + 1)) qs = false by simpa using e)
              clear HT HI'
              rw [hz0] at hc
              clear key
              go_wp2
              go_roundw
              case rel => exact ⟨i + 1, k, by omega, by go_num, rfl, HE.out⟩
              case measure => simp [intOf]; omega
            · have hz1 : zs ≠ [] := fun e => hz0 (by rw [e]; rfl)
              have HT2 : Hid (led (pss.take (i + 1)) qs = begins zs qs) := by
                have e := HT.out
                rw [decide_eq_true hz1, Bool.true_and] at e
                exact e
              clear HT hz1
              have hzp : (0 : Int) < (zs.length : Int) := by omega
              obtain ⟨l, hl⟩ : ∃ l, l = zs.length := ⟨_, rfl⟩
              have hlb : l ≤ 1048576 := by rw [hl]; exact hbz
              rw [← hl] at hc key hzp
              clear hl hz0
              cases hbg : begins zs qs with
              | true =>
                rw [hbg] at key HT2
                have HE : Hid (true = model true ls pss qs) := by
                  unfold model
                  rw [HI'.out HT2.out, Bool.or_true]
                  exact (rfl : true = true)
                clear hbg HT2 HI'
                go_wp2_with (go_at_call 23; go_must (refine key.mono ?_; rintro e w2 ⟨rfl, kk, rfl⟩; clear key))
                go_ret
                exact ⟨congrArg (fun b => Ending.returned (.bool b)) HE.out, _, rfl⟩
              | false =>
                rw [hbg] at key HT2
                clear hbg HI'
                go_wp2_with (go_at_call 23; go_must (refine key.mono ?_; rintro e w2 ⟨rfl, kk, rfl⟩; clear key))
                go_roundw
                case rel => exact ⟨i + 1, k + kk, by omega, by go_num, by simp, HT2.out⟩
                case measure => simp [intOf]; omega
          · have HE : Hid (false = model true ls pss qs) := by
              have e := HL.out
              rw [List.take_of_length_le (by rw [← HN1.out]; omega)] at e
              unfold model
              rw [HB.out, e]
              exact (rfl : false = false)
            clear hs0 hs1 hs2 hin
            go_wp2
            go_ret
            exact ⟨congrArg (fun b => Ending.returned (.bool b)) HE.out, k, rfl⟩
end Go.Proofs.Qxb6600609a
