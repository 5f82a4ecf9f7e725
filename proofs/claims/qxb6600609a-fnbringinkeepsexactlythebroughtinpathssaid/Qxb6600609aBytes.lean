/-
  'zzBytes_FnBringInKeepsExactlyTheBroughtInPaths' (5): it answers some bool, and turns nothing.
-/
import Derived.Test.Qxb6600609aSizes
namespace Go.Proofs.Qxb6600609a
open Go.RowKit
open Plain
set_option linter.unusedVariables false

def SomeBool (e : Ending) : Prop := ∃ r : Bool, e = .returned (.bool r)
/-- n strings can be read at a. -/
def Rd1 (w : World) (a : Option Addr) (n : Nat) : Prop := ∀ i, i < n → ∃ B o s, a = some ⟨B, o, none⟩ ∧ w.cell? ⟨B, o + i, none⟩ = some (.string s) ∧ s.size ≤ maxLen
/-- n slices of strings can be read at a. -/
def Rd2 (w : World) (a : Option Addr) (n : Nat) : Prop := ∀ i, i < n → ∃ B o aj l cj, a = some ⟨B, o, none⟩ ∧ w.cell? ⟨B, o + i, none⟩ = some (.slice aj l cj) ∧ l ≤ maxLen ∧ Rd1 w aj l

theorem Strs.rd {w : World} {a : Option Addr} {ps : List ByteArray} (h : Strs w a ps) (hz : ∀ s ∈ ps, s.size ≤ maxLen) : Rd1 w a ps.length := by
  intro i hi
  obtain ⟨B, o, ha, h⟩ := h i hi
  refine ⟨B, o, _, ha, h, hz _ ?_⟩
  simp only [List.getD, List.getElem?_eq_getElem hi, Option.getD_some]
  exact List.getElem_mem hi
theorem Pths.rd {w : World} {a : Option Addr} {pss : List (List ByteArray)} (h : Pths w a pss) (hz : Lens pss) : Rd2 w a pss.length := by
  intro i hi
  obtain ⟨B, o, aj, cj, ha, h, hs, _⟩ := h i hi
  have hm : pss.getD i [] ∈ pss := by
    simp only [List.getD, List.getElem?_eq_getElem hi, Option.getD_some]
    exact List.getElem_mem hi
  exact ⟨B, o, aj, _, cj, ha, h, (hz _ hm).1, hs.rd (hz _ hm).2⟩

set_option maxRecDepth 100000 in
set_option maxHeartbeats 4000000 in
theorem bytes_any (r : Bool) (a0 : Option Addr) (n0 c0 : Nat) (a1 : Option Addr) (n1 c1 : Nat) (a2 : Option Addr) (n2 c2 : Nat) (w : World) (hm0 : n0 ≤ maxLen) (hm1 : n1 ≤ maxLen) (hm2 : n2 ≤ maxLen)
    (h0 : Rd1 w a0 n0) (h1 : Rd2 w a1 n1) (h2 : Rd2 w a2 n2) :
    Calls Try.prog 5 #[.bool r, .slice a0 n0 c0, .slice a1 n1 c1, .slice a2 n2 c2] w fun e w' => SomeBool e ∧ w = w' := by
  unfold maxLen at hm0 hm1 hm2
  by_cases g1 : 1048576 < n0
  · have g1' : (1048576 : Int) < (n0 : Int) := by omega
    go_enter Try.func5, Try.ntmps5
    go_wp2
    go_ret
    exact ⟨⟨_, rfl⟩, rfl⟩
  · have g1' : ¬ (1048576 : Int) < (n0 : Int) := by omega
    go_enter Try.func5, Try.ntmps5
    go_wp2
    go_loop [9, 10] (fun t i => ∃ (k : Nat) (z : Int), k ≤ n0 ∧ i = .int .i64 k ∧ t = .int .i64 z ∧ 0 ≤ z ∧ z ≤ 1048576) (fun _ i => n0 - (intOf i).toNat)
    case atStart => exact ⟨0, _, Nat.zero_le _, rfl, rfl, by omega, by omega⟩
    case round =>
      obtain ⟨k, z, hk, rfl, rfl, hz0, hz1⟩ := hrel
      by_cases hlt : k < n0
      · obtain ⟨B, o, s, ha, hcell, hss⟩ := h0 k hlt
        subst ha
        unfold maxLen at hss
        by_cases g2 : (1048576 : Int) < (s.size : Int)
        · go_wp2
          go_ret
          exact ⟨⟨_, rfl⟩, rfl⟩
        · by_cases g3 : (1048576 : Int) < z + (s.size : Int)
          · go_wp2
            go_ret
            exact ⟨⟨_, rfl⟩, rfl⟩
          · go_wp2
            go_round
            case rel => exact ⟨k + 1, _, by omega, by go_num, rfl, by omega, by omega⟩
            case measure => simp [intOf]; omega
      · by_cases g2 : (1048576 : Int) < (n1 : Int)
        · go_wp2
          go_ret
          exact ⟨⟨_, rfl⟩, rfl⟩
        · by_cases g3 : (1048576 : Int) < z + (n1 : Int)
          · go_wp2
            go_ret
            exact ⟨⟨_, rfl⟩, rfl⟩
          · have hq0 := hz0
            have hq1 := hz1
            clear hz0 hz1
            go_wp2
            go_loop [9, 11, 12] (fun t i _ => ∃ (k : Nat) (z : Int), k ≤ n1 ∧ i = .int .i64 k ∧ t = .int .i64 z ∧ 0 ≤ z ∧ z ≤ 1048576) (fun _ i _ => n1 - (intOf i).toNat)
            case atStart => exact ⟨0, _, Nat.zero_le _, rfl, rfl, by omega, by omega⟩
            case round =>
              obtain ⟨k, z, hk, rfl, rfl, hz0, hz1⟩ := hrel
              clear g2 g3 hq0 hq1
              by_cases hlt : k < n1
              · obtain ⟨B, o, aj, l, cj, ha, hcell, hml, hrow⟩ := h1 k hlt
                subst ha
                unfold maxLen at hml
                by_cases g2 : (1048576 : Int) < (l : Int)
                · go_wp2
                  go_ret
                  exact ⟨⟨_, rfl⟩, rfl⟩
                · by_cases g3 : (1048576 : Int) < z + (l : Int)
                  · go_wp2
                    go_ret
                    exact ⟨⟨_, rfl⟩, rfl⟩
                  · go_wp2
                    go_loop [9, 12] (fun t i => ∃ (k : Nat) (z : Int), k ≤ l ∧ i = .int .i64 k ∧ t = .int .i64 z ∧ 0 ≤ z ∧ z ≤ 1048576) (fun _ i => l - (intOf i).toNat)
                    case atStart => exact ⟨0, _, Nat.zero_le _, rfl, rfl, by omega, by omega⟩
                    case round =>
                      obtain ⟨k2, z2, hk2, rfl, rfl, hz20, hz21⟩ := hrel
                      clear hz0 hz1 g3
                      by_cases hlt2 : k2 < l
                      · obtain ⟨B2, o2, s2, ha2, hcell2, hss2⟩ := hrow k2 hlt2
                        subst ha2
                        unfold maxLen at hss2
                        by_cases g4 : (1048576 : Int) < (s2.size : Int)
                        · go_wp2
                          go_ret
                          exact ⟨⟨_, rfl⟩, rfl⟩
                        · by_cases g5 : (1048576 : Int) < z2 + (s2.size : Int)
                          · go_wp2
                            go_ret
                            exact ⟨⟨_, rfl⟩, rfl⟩
                          · go_wp2
                            go_round
                            case rel => exact ⟨k2 + 1, _, by omega, by go_num, rfl, by omega, by omega⟩
                            case measure => simp [intOf]; omega
                      · go_wp2
                        go_round
                        case rel => exact ⟨k + 1, _, by omega, by go_num, rfl, by omega, by omega⟩
                        case measure => simp [intOf]; omega
              · by_cases g6 : (1048576 : Int) < (n2 : Int)
                · go_wp2
                  go_ret
                  exact ⟨⟨_, rfl⟩, rfl⟩
                · by_cases g7 : (1048576 : Int) < z + (n2 : Int)
                  · go_wp2
                    go_ret
                    exact ⟨⟨_, rfl⟩, rfl⟩
                  · have hp0 := hz0
                    have hp1 := hz1
                    clear hz0 hz1
                    go_wp2
                    go_loop [9, 13, 14] (fun t i _ => ∃ (k : Nat) (z : Int), k ≤ n2 ∧ i = .int .i64 k ∧ t = .int .i64 z ∧ 0 ≤ z ∧ z ≤ 1048576) (fun _ i _ => n2 - (intOf i).toNat)
                    case atStart => exact ⟨0, _, Nat.zero_le _, rfl, rfl, by omega, by omega⟩
                    case round =>
                      obtain ⟨k, z, hk, rfl, rfl, hz0, hz1⟩ := hrel
                      clear g6 g7 hp0 hp1
                      by_cases hlt : k < n2
                      · obtain ⟨B, o, aj, l, cj, ha, hcell, hml, hrow⟩ := h2 k hlt
                        subst ha
                        unfold maxLen at hml
                        by_cases g2 : (1048576 : Int) < (l : Int)
                        · go_wp2
                          go_ret
                          exact ⟨⟨_, rfl⟩, rfl⟩
                        · by_cases g3 : (1048576 : Int) < z + (l : Int)
                          · go_wp2
                            go_ret
                            exact ⟨⟨_, rfl⟩, rfl⟩
                          · go_wp2
                            go_loop [9, 14] (fun t i => ∃ (k : Nat) (z : Int), k ≤ l ∧ i = .int .i64 k ∧ t = .int .i64 z ∧ 0 ≤ z ∧ z ≤ 1048576) (fun _ i => l - (intOf i).toNat)
                            case atStart => exact ⟨0, _, Nat.zero_le _, rfl, rfl, by omega, by omega⟩
                            case round =>
                              obtain ⟨k2, z2, hk2, rfl, rfl, hz20, hz21⟩ := hrel
                              clear hz0 hz1 g3
                              by_cases hlt2 : k2 < l
                              · obtain ⟨B2, o2, s2, ha2, hcell2, hss2⟩ := hrow k2 hlt2
                                subst ha2
                                unfold maxLen at hss2
                                by_cases g4 : (1048576 : Int) < (s2.size : Int)
                                · go_wp2
                                  go_ret
                                  exact ⟨⟨_, rfl⟩, rfl⟩
                                · by_cases g5 : (1048576 : Int) < z2 + (s2.size : Int)
                                  · go_wp2
                                    go_ret
                                    exact ⟨⟨_, rfl⟩, rfl⟩
                                  · go_wp2
                                    go_round
                                    case rel => exact ⟨k2 + 1, _, by omega, by go_num, rfl, by omega, by omega⟩
                                    case measure => simp [intOf]; omega
                              · go_wp2
                                go_round
                                case rel => exact ⟨k + 1, _, by omega, by go_num, rfl, by omega, by omega⟩
                                case measure => simp [intOf]; omega
                      · go_wp2
                        go_ret
                        exact ⟨⟨_, rfl⟩, rfl⟩
end Go.Proofs.Qxb6600609a
