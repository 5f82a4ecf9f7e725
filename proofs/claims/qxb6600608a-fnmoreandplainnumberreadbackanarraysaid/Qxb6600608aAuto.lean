/-
  'numberAutomaton' (function 22).
-/
import Derived.Test.Qxb6600608aBase
namespace Go.Proofs.Qxb6600608a
open Go.RowKit
open Plain

/-- What the automaton answers from s on. -/
def AutoPost (b : Nat → Int) (n s : Nat) (w : World) (e : Ending) (w' : World) : Prop :=
  e = .returned (.tuple #[.int .i64 ((s + (autoAt (fun j => b (s + j)) (n - s) 0 0).1 : Nat) : Int), .bool (autoAt (fun j => b (s + j)) (n - s) 0 0).2]) ∧ w' = w

theorem ret_two {a b : Int} {f g : Bool} (h : a = b) (h' : f = g) : Ending.returned (.tuple #[.int .i64 a, .bool f]) = .returned (.tuple #[.int .i64 b, .bool g]) := by rw [h, h']

set_option maxRecDepth 100000 in
set_option maxHeartbeats 3200000 in
theorem auto_any (a : Option Addr) (n cp : Nat) (b : Nat → Int) (s : Nat) (w : World) (hb : Byt w a n b) (hs : s ≤ n) (hm : n ≤ 1048576) :
    Calls Try.prog 22 #[.slice a n cp, .int .i64 s] w (AutoPost b n s w) := by
  obtain ⟨b1, b2⟩ := hb
  go_enter Try.func22, Try.ntmps22
  go_wp2
  go_loop [1, 6] (fun v t => ∃ kk st : Nat, s + kk ≤ n ∧ st ≤ 8 ∧ v = .int .i64 ((s + kk : Nat) : Int) ∧ t = .int .i64 st ∧ autoAt (fun j => b (s + j)) (n - s) 0 0 = autoAt (fun j => b (s + j)) (n - s) st kk) (fun v _ => n - (intOf v).toNat)
  case atStart => exact ⟨0, 0, hs, by omega, rfl, rfl, rfl⟩
  case round =>
    obtain ⟨kk, st, hk, hst, rfl, rfl, ha⟩ := hrel
    have HA : Hid (autoAt (fun j => b (s + j)) (n - s) 0 0 = autoAt (fun j => b (s + j)) (n - s) st kk) := ha
    clear ha
    by_cases hlt : s + kk < n
    · obtain ⟨B, o, ha, hcell⟩ := b2 (s + kk) hlt
      subst ha
      have hlt' : ((s + kk : Nat) : Int) < (n : Int) := by omega
      have hx := b1 (s + kk)
      obtain ⟨x, hxv⟩ : ∃ x, x = b (s + kk) := ⟨_, rfl⟩
      rw [← hxv] at hcell hx
      have GO : Hid (∀ st', goOn st x = some st' → autoAt (fun j => b (s + j)) (n - s) 0 0 = autoAt (fun j => b (s + j)) (n - s) st' (kk + 1)) := by
        intro st' h
        rw [HA.out]
        exact auto_go (by omega) (by show goOn st (b (s + kk)) = _; rw [← hxv]; exact h)
      have ST : Hid (goOn st x = none → autoAt (fun j => b (s + j)) (n - s) 0 0 = (kk, halt st x)) := by
        intro h
        rw [HA.out, hxv]
        exact auto_stop (by omega) (by show goOn st (b (s + kk)) = _; rw [← hxv]; exact h)
      clear hxv b1 b2 HA
      obtain ⟨K, hK⟩ : ∃ K, K = s + kk := ⟨_, rfl⟩
      have HK : Hid (K = s + kk) := hK
      rw [← hK] at hcell hlt hlt' hk ⊢
      clear hK
      have hcs : st = 0 ∨ st = 1 ∨ st = 2 ∨ st = 3 ∨ st = 4 ∨ st = 5 ∨ st = 6 ∨ st = 7 ∨ st = 8 := by omega
      rcases hcs with rfl | rfl | rfl | rfl | rfl | rfl | rfl | rfl | rfl
      · clear hst
        by_cases h45 : x = 45
        · subst h45
          have kd := fun w => digit_no 45 (by decide) w
          have G := GO.out 1 (by decide)
          have HG : Hid _ := G
          clear G GO ST
          go_wp2_with (go_at_call 37; refine (kd _).mono ?_; rintro e w' ⟨rfl, rfl⟩)
          go_round
          case rel => exact ⟨kk + 1, 1, by have := HK.out; omega, by omega, by have := HK.out; go_num, rfl, HG.out⟩
          case measure => simp [intOf]; omega
        · have n45 : (x == 45) = false := by simpa using h45
          by_cases h48 : x = 48
          · subst h48
            have kd := fun w => digit_yes 48 (by decide) w
            have G := GO.out 2 (by decide)
            have HG : Hid _ := G
            clear G GO ST
            go_wp2_with (go_at_call 37; refine (kd _).mono ?_; rintro e w' ⟨rfl, rfl⟩)
            go_round
            case rel => exact ⟨kk + 1, 2, by have := HK.out; omega, by omega, by have := HK.out; go_num, rfl, HG.out⟩
            case measure => simp [intOf]; omega
          · have n48 : (x == 48) = false := by simpa using h48
            by_cases hd : isDg x = true
            · have kd := fun w => digit_yes x hd w
              have G := GO.out 3 (by simp [goOn, hd, h45, h48])
              have HG : Hid _ := G
              clear G GO ST
              clear hd
              go_wp2_with (go_at_call 37; refine (kd _).mono ?_; rintro e w' ⟨rfl, rfl⟩)
              go_round
              case rel => exact ⟨kk + 1, 3, by have := HK.out; omega, by omega, by have := HK.out; go_num, rfl, HG.out⟩
              case measure => simp [intOf]; omega
            · have hd : isDg x = false := by simpa using hd
              have kd := fun w => digit_no x hd w
              have G := ST.out (by simp [goOn, hd, h45, h48])
              have HG0 : autoAt (fun j => b (s + j)) (n - s) 0 0 = (kk, false) := by rw [G]; simp [halt]
              have HG : Hid _ := HG0
              clear G GO ST HG0
              clear hd
              go_wp2_with (go_at_call 37; refine (kd _).mono ?_; rintro e w' ⟨rfl, rfl⟩)
              go_ret2
              exact ⟨ret_two (by rw [HG.out, HK.out]) (by rw [HG.out]), rfl⟩
      · clear hst
        by_cases h48 : x = 48
        · subst h48
          have kd := fun w => digit_yes 48 (by decide) w
          have G := GO.out 2 (by decide)
          have HG : Hid _ := G
          clear G GO ST
          go_wp2_with (go_at_call 37; refine (kd _).mono ?_; rintro e w' ⟨rfl, rfl⟩)
          go_round
          case rel => exact ⟨kk + 1, 2, by have := HK.out; omega, by omega, by have := HK.out; go_num, rfl, HG.out⟩
          case measure => simp [intOf]; omega
        · have n48 : (x == 48) = false := by simpa using h48
          by_cases hd : isDg x = true
          · have kd := fun w => digit_yes x hd w
            have G := GO.out 3 (by simp [goOn, hd, h48])
            have HG : Hid _ := G
            clear G GO ST
            clear hd
            go_wp2_with (go_at_call 37; refine (kd _).mono ?_; rintro e w' ⟨rfl, rfl⟩)
            go_round
            case rel => exact ⟨kk + 1, 3, by have := HK.out; omega, by omega, by have := HK.out; go_num, rfl, HG.out⟩
            case measure => simp [intOf]; omega
          · have hd : isDg x = false := by simpa using hd
            have kd := fun w => digit_no x hd w
            have G := ST.out (by simp [goOn, hd, h48])
            have HG0 : autoAt (fun j => b (s + j)) (n - s) 0 0 = (kk, false) := by rw [G]; simp [halt]
            have HG : Hid _ := HG0
            clear G GO ST HG0
            clear hd
            go_wp2_with (go_at_call 37; refine (kd _).mono ?_; rintro e w' ⟨rfl, rfl⟩)
            go_ret2
            exact ⟨ret_two (by rw [HG.out, HK.out]) (by rw [HG.out]), rfl⟩
      · clear hst
        by_cases h46 : x = 46
        · subst h46
          have kd := fun w => digit_no 46 (by decide) w
          have G := GO.out 4 (by decide)
          have HG : Hid _ := G
          clear G GO ST
          go_wp2_with (go_at_call 37; refine (kd _).mono ?_; rintro e w' ⟨rfl, rfl⟩)
          go_round
          case rel => exact ⟨kk + 1, 4, by have := HK.out; omega, by omega, by have := HK.out; go_num, rfl, HG.out⟩
          case measure => simp [intOf]; omega
        · have n46 : (x == 46) = false := by simpa using h46
          by_cases h101 : x = 101
          · subst h101
            have kd := fun w => digit_no 101 (by decide) w
            have G := GO.out 6 (by decide)
            have HG : Hid _ := G
            clear G GO ST
            go_wp2_with (go_at_call 37; refine (kd _).mono ?_; rintro e w' ⟨rfl, rfl⟩)
            go_round
            case rel => exact ⟨kk + 1, 6, by have := HK.out; omega, by omega, by have := HK.out; go_num, rfl, HG.out⟩
            case measure => simp [intOf]; omega
          · have n101 : (x == 101) = false := by simpa using h101
            by_cases h69 : x = 69
            · subst h69
              have kd := fun w => digit_no 69 (by decide) w
              have G := GO.out 6 (by decide)
              have HG : Hid _ := G
              clear G GO ST
              go_wp2_with (go_at_call 37; refine (kd _).mono ?_; rintro e w' ⟨rfl, rfl⟩)
              go_round
              case rel => exact ⟨kk + 1, 6, by have := HK.out; omega, by omega, by have := HK.out; go_num, rfl, HG.out⟩
              case measure => simp [intOf]; omega
            · have n69 : (x == 69) = false := by simpa using h69
              by_cases hd : isDg x = true
              · have kd := fun w => digit_yes x hd w
                have G := ST.out (by simp [goOn, hd])
                have HG0 : autoAt (fun j => b (s + j)) (n - s) 0 0 = (kk, false) := by rw [G]; simp [halt, hd]
                have HG : Hid _ := HG0
                clear G GO ST HG0
                clear hd
                go_wp2_with (go_at_call 37; refine (kd _).mono ?_; rintro e w' ⟨rfl, rfl⟩)
                go_ret2
                exact ⟨ret_two (by rw [HG.out, HK.out]) (by rw [HG.out]), rfl⟩
              · have hd : isDg x = false := by simpa using hd
                have kd := fun w => digit_no x hd w
                have G := ST.out (by simp [goOn, hd, h46, h101, h69])
                have HG0 : autoAt (fun j => b (s + j)) (n - s) 0 0 = (kk, true) := by rw [G]; simp [halt, hd]
                have HG : Hid _ := HG0
                clear G GO ST HG0
                clear hd
                go_wp2_with (go_at_call 37; refine (kd _).mono ?_; rintro e w' ⟨rfl, rfl⟩)
                go_ret2
                exact ⟨ret_two (by rw [HG.out, HK.out]) (by rw [HG.out]), rfl⟩
      · clear hst
        by_cases h46 : x = 46
        · subst h46
          have kd := fun w => digit_no 46 (by decide) w
          have G := GO.out 4 (by decide)
          have HG : Hid _ := G
          clear G GO ST
          go_wp2_with (go_at_call 37; refine (kd _).mono ?_; rintro e w' ⟨rfl, rfl⟩)
          go_round
          case rel => exact ⟨kk + 1, 4, by have := HK.out; omega, by omega, by have := HK.out; go_num, rfl, HG.out⟩
          case measure => simp [intOf]; omega
        · have n46 : (x == 46) = false := by simpa using h46
          by_cases h101 : x = 101
          · subst h101
            have kd := fun w => digit_no 101 (by decide) w
            have G := GO.out 6 (by decide)
            have HG : Hid _ := G
            clear G GO ST
            go_wp2_with (go_at_call 37; refine (kd _).mono ?_; rintro e w' ⟨rfl, rfl⟩)
            go_round
            case rel => exact ⟨kk + 1, 6, by have := HK.out; omega, by omega, by have := HK.out; go_num, rfl, HG.out⟩
            case measure => simp [intOf]; omega
          · have n101 : (x == 101) = false := by simpa using h101
            by_cases h69 : x = 69
            · subst h69
              have kd := fun w => digit_no 69 (by decide) w
              have G := GO.out 6 (by decide)
              have HG : Hid _ := G
              clear G GO ST
              go_wp2_with (go_at_call 37; refine (kd _).mono ?_; rintro e w' ⟨rfl, rfl⟩)
              go_round
              case rel => exact ⟨kk + 1, 6, by have := HK.out; omega, by omega, by have := HK.out; go_num, rfl, HG.out⟩
              case measure => simp [intOf]; omega
            · have n69 : (x == 69) = false := by simpa using h69
              by_cases hd : isDg x = true
              · have kd := fun w => digit_yes x hd w
                have G := GO.out 3 (by simp [goOn, hd, h46, h101, h69])
                have HG : Hid _ := G
                clear G GO ST
                clear hd
                go_wp2_with (go_at_call 37; refine (kd _).mono ?_; rintro e w' ⟨rfl, rfl⟩)
                go_round
                case rel => exact ⟨kk + 1, 3, by have := HK.out; omega, by omega, by have := HK.out; go_num, rfl, HG.out⟩
                case measure => simp [intOf]; omega
              · have hd : isDg x = false := by simpa using hd
                have kd := fun w => digit_no x hd w
                have G := ST.out (by simp [goOn, hd, h46, h101, h69])
                have HG0 : autoAt (fun j => b (s + j)) (n - s) 0 0 = (kk, true) := by rw [G]; simp [halt]
                have HG : Hid _ := HG0
                clear G GO ST HG0
                clear hd
                go_wp2_with (go_at_call 37; refine (kd _).mono ?_; rintro e w' ⟨rfl, rfl⟩)
                go_ret2
                exact ⟨ret_two (by rw [HG.out, HK.out]) (by rw [HG.out]), rfl⟩
      · clear hst
        by_cases hd : isDg x = true
        · have kd := fun w => digit_yes x hd w
          have G := GO.out 5 (by simp [goOn, hd])
          have HG : Hid _ := G
          clear G GO ST
          clear hd
          go_wp2_with (go_at_call 37; refine (kd _).mono ?_; rintro e w' ⟨rfl, rfl⟩)
          go_round
          case rel => exact ⟨kk + 1, 5, by have := HK.out; omega, by omega, by have := HK.out; go_num, rfl, HG.out⟩
          case measure => simp [intOf]; omega
        · have hd : isDg x = false := by simpa using hd
          have kd := fun w => digit_no x hd w
          have G := ST.out (by simp [goOn, hd])
          have HG0 : autoAt (fun j => b (s + j)) (n - s) 0 0 = (kk, false) := by rw [G]; simp [halt]
          have HG : Hid _ := HG0
          clear G GO ST HG0
          clear hd
          go_wp2_with (go_at_call 37; refine (kd _).mono ?_; rintro e w' ⟨rfl, rfl⟩)
          go_ret2
          exact ⟨ret_two (by rw [HG.out, HK.out]) (by rw [HG.out]), rfl⟩
      · clear hst
        by_cases h101 : x = 101
        · subst h101
          have kd := fun w => digit_no 101 (by decide) w
          have G := GO.out 6 (by decide)
          have HG : Hid _ := G
          clear G GO ST
          go_wp2_with (go_at_call 37; refine (kd _).mono ?_; rintro e w' ⟨rfl, rfl⟩)
          go_round
          case rel => exact ⟨kk + 1, 6, by have := HK.out; omega, by omega, by have := HK.out; go_num, rfl, HG.out⟩
          case measure => simp [intOf]; omega
        · have n101 : (x == 101) = false := by simpa using h101
          by_cases h69 : x = 69
          · subst h69
            have kd := fun w => digit_no 69 (by decide) w
            have G := GO.out 6 (by decide)
            have HG : Hid _ := G
            clear G GO ST
            go_wp2_with (go_at_call 37; refine (kd _).mono ?_; rintro e w' ⟨rfl, rfl⟩)
            go_round
            case rel => exact ⟨kk + 1, 6, by have := HK.out; omega, by omega, by have := HK.out; go_num, rfl, HG.out⟩
            case measure => simp [intOf]; omega
          · have n69 : (x == 69) = false := by simpa using h69
            by_cases hd : isDg x = true
            · have kd := fun w => digit_yes x hd w
              have G := GO.out 5 (by simp [goOn, hd, h101, h69])
              have HG : Hid _ := G
              clear G GO ST
              clear hd
              go_wp2_with (go_at_call 37; refine (kd _).mono ?_; rintro e w' ⟨rfl, rfl⟩)
              go_round
              case rel => exact ⟨kk + 1, 5, by have := HK.out; omega, by omega, by have := HK.out; go_num, rfl, HG.out⟩
              case measure => simp [intOf]; omega
            · have hd : isDg x = false := by simpa using hd
              have kd := fun w => digit_no x hd w
              have G := ST.out (by simp [goOn, hd, h101, h69])
              have HG0 : autoAt (fun j => b (s + j)) (n - s) 0 0 = (kk, true) := by rw [G]; simp [halt]
              have HG : Hid _ := HG0
              clear G GO ST HG0
              clear hd
              go_wp2_with (go_at_call 37; refine (kd _).mono ?_; rintro e w' ⟨rfl, rfl⟩)
              go_ret2
              exact ⟨ret_two (by rw [HG.out, HK.out]) (by rw [HG.out]), rfl⟩
      · clear hst
        by_cases h43 : x = 43
        · subst h43
          have kd := fun w => digit_no 43 (by decide) w
          have G := GO.out 7 (by decide)
          have HG : Hid _ := G
          clear G GO ST
          go_wp2_with (go_at_call 37; refine (kd _).mono ?_; rintro e w' ⟨rfl, rfl⟩)
          go_round
          case rel => exact ⟨kk + 1, 7, by have := HK.out; omega, by omega, by have := HK.out; go_num, rfl, HG.out⟩
          case measure => simp [intOf]; omega
        · have n43 : (x == 43) = false := by simpa using h43
          by_cases h45 : x = 45
          · subst h45
            have kd := fun w => digit_no 45 (by decide) w
            have G := GO.out 7 (by decide)
            have HG : Hid _ := G
            clear G GO ST
            go_wp2_with (go_at_call 37; refine (kd _).mono ?_; rintro e w' ⟨rfl, rfl⟩)
            go_round
            case rel => exact ⟨kk + 1, 7, by have := HK.out; omega, by omega, by have := HK.out; go_num, rfl, HG.out⟩
            case measure => simp [intOf]; omega
          · have n45 : (x == 45) = false := by simpa using h45
            by_cases hd : isDg x = true
            · have kd := fun w => digit_yes x hd w
              have G := GO.out 8 (by simp [goOn, hd, h43, h45])
              have HG : Hid _ := G
              clear G GO ST
              clear hd
              go_wp2_with (go_at_call 37; refine (kd _).mono ?_; rintro e w' ⟨rfl, rfl⟩)
              go_round
              case rel => exact ⟨kk + 1, 8, by have := HK.out; omega, by omega, by have := HK.out; go_num, rfl, HG.out⟩
              case measure => simp [intOf]; omega
            · have hd : isDg x = false := by simpa using hd
              have kd := fun w => digit_no x hd w
              have G := ST.out (by simp [goOn, hd, h43, h45])
              have HG0 : autoAt (fun j => b (s + j)) (n - s) 0 0 = (kk, false) := by rw [G]; simp [halt]
              have HG : Hid _ := HG0
              clear G GO ST HG0
              clear hd
              go_wp2_with (go_at_call 37; refine (kd _).mono ?_; rintro e w' ⟨rfl, rfl⟩)
              go_ret2
              exact ⟨ret_two (by rw [HG.out, HK.out]) (by rw [HG.out]), rfl⟩
      · clear hst
        by_cases hd : isDg x = true
        · have kd := fun w => digit_yes x hd w
          have G := GO.out 8 (by simp [goOn, hd])
          have HG : Hid _ := G
          clear G GO ST
          clear hd
          go_wp2_with (go_at_call 37; refine (kd _).mono ?_; rintro e w' ⟨rfl, rfl⟩)
          go_round
          case rel => exact ⟨kk + 1, 8, by have := HK.out; omega, by omega, by have := HK.out; go_num, rfl, HG.out⟩
          case measure => simp [intOf]; omega
        · have hd : isDg x = false := by simpa using hd
          have kd := fun w => digit_no x hd w
          have G := ST.out (by simp [goOn, hd])
          have HG0 : autoAt (fun j => b (s + j)) (n - s) 0 0 = (kk, false) := by rw [G]; simp [halt]
          have HG : Hid _ := HG0
          clear G GO ST HG0
          clear hd
          go_wp2_with (go_at_call 37; refine (kd _).mono ?_; rintro e w' ⟨rfl, rfl⟩)
          go_ret2
          exact ⟨ret_two (by rw [HG.out, HK.out]) (by rw [HG.out]), rfl⟩
      · clear hst
        by_cases hd : isDg x = true
        · have kd := fun w => digit_yes x hd w
          have G := GO.out 8 (by simp [goOn, hd])
          have HG : Hid _ := G
          clear G GO ST
          clear hd
          go_wp2_with (go_at_call 37; refine (kd _).mono ?_; rintro e w' ⟨rfl, rfl⟩)
          go_round
          case rel => exact ⟨kk + 1, 8, by have := HK.out; omega, by omega, by have := HK.out; go_num, rfl, HG.out⟩
          case measure => simp [intOf]; omega
        · have hd : isDg x = false := by simpa using hd
          have kd := fun w => digit_no x hd w
          have G := ST.out (by simp [goOn, hd])
          have HG0 : autoAt (fun j => b (s + j)) (n - s) 0 0 = (kk, true) := by rw [G]; simp [halt]
          have HG : Hid _ := HG0
          clear G GO ST HG0
          clear hd
          go_wp2_with (go_at_call 37; refine (kd _).mono ?_; rintro e w' ⟨rfl, rfl⟩)
          go_ret2
          exact ⟨ret_two (by rw [HG.out, HK.out]) (by rw [HG.out]), rfl⟩
    · clear b1 b2
      have hlt' : ¬ ((s + kk : Nat) : Int) < (n : Int) := by omega
      have HE : Hid (autoAt (fun j => b (s + j)) (n - s) 0 0 = (kk, fin st)) := by rw [HA.out]; exact auto_out (by omega)
      clear HA
      have hcs : st = 0 ∨ st = 1 ∨ st = 2 ∨ st = 3 ∨ st = 4 ∨ st = 5 ∨ st = 6 ∨ st = 7 ∨ st = 8 := by omega
      rcases hcs with rfl | rfl | rfl | rfl | rfl | rfl | rfl | rfl | rfl
      all_goals
        go_wp2
        go_ret2
        exact ⟨ret_two (by rw [HE.out]; first | rfl | exact (Int.natCast_add s kk).symm) (by rw [HE.out]; rfl), rfl⟩
end Go.Proofs.Qxb6600608a
