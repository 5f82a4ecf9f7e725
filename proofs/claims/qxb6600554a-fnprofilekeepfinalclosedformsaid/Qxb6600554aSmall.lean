/-
  The guards on sizes ('zzBytes_..': 20, 30; 'zzKeepBytesFitB1': 21): each answers some bool, and turns nothing. 'zzSameStringsB1' (28).
-/
import Derived.Test.Qxb6600554aClones
import Derived.Deep.QuietTactic
import Derived.BigQuiet
namespace Go.Proofs.Qxb6600554a
open Go.RowKit

def SomeBool (e : Ending) : Prop := ∃ r : Bool, e = .returned (.bool r)

set_option maxHeartbeats 800000 in
theorem bytes20_any (a : Option Addr) (c : Nat) (ss : List ByteArray) (a1 : Option Addr) (n1 c1 : Nat) (a2 : Option Addr) (n2 c2 : Nat) (w : World) (hm : ss.length ≤ maxLen) (hm1 : n1 ≤ maxLen) (hm2 : n2 ≤ maxLen)
    (hr : RowAt Value.string ByteArray.empty w a ss) (hs : ∀ s ∈ ss, s.size ≤ maxLen) :
    Calls Try.prog 20 #[.slice a ss.length c, .slice a1 n1 c1, .slice a2 n2 c2] w fun e w' => SomeBool e ∧ w' = w := by
  unfold maxLen at hm hm1 hm2 hs
  have hc : ∀ k, k < ss.length → ∃ b off s, a = some ⟨b, off, none⟩ ∧ w.cell? ⟨b, off + k, none⟩ = some (.string s) ∧ s.size ≤ 9223372036854775807 := by
    intro k hk
    rcases hr with h | ⟨b, off, ha, h⟩
    · rw [h] at hk; simp at hk
    · refine ⟨b, off, _, ha, h k hk, hs _ ?_⟩
      simp [List.getD, hk]
  clear hr hs
  obtain ⟨n, hn⟩ : ∃ n, n = ss.length := ⟨_, rfl⟩
  rw [← hn] at hc hm ⊢
  clear hn
  by_cases g1 : 1048576 < n
  · have g1' : (1048576 : Int) < (n : Int) := by omega
    go_enter Try.func20, Try.ntmps20
    go_wp2
    go_ret
    exact ⟨⟨_, rfl⟩, rfl⟩
  · have g1' : ¬ (1048576 : Int) < (n : Int) := by omega
    go_enter Try.func20, Try.ntmps20
    go_wp2
    go_loop [7, 8] (fun t i => ∃ (k : Nat) (z : Int), k ≤ n ∧ i = .int .i64 k ∧ t = .int .i64 z ∧ 0 ≤ z ∧ z ≤ 1048576) (fun _ i => n - (intOf i).toNat)
    case atStart => exact ⟨0, _, Nat.zero_le _, rfl, rfl, by omega, by omega⟩
    case round =>
      obtain ⟨k, z, hk, rfl, rfl, hz0, hz1⟩ := hrel
      by_cases hlt : k < n
      · obtain ⟨b, off, s, ha, hcell, hss⟩ := hc k hlt
        subst ha
        clear hc
        by_cases g2 : (1048576 : Int) < (s.size : Int)
        · go_wp2
          go_ret
          exact ⟨⟨_, rfl⟩, rfl⟩
        · by_cases g3 : (1048576 : Int) < z + (s.size : Int)
          · go_wp2
            go_ret
            exact ⟨⟨_, rfl⟩, rfl⟩
          · go_wp2
            go_round
            case rel => exact ⟨k + 1, _, by omega, by go_num, rfl, by omega, by omega⟩
            case measure => simp [intOf]; omega
      · clear hc
        go_wp2
        all_goals
          go_ret
          exact ⟨⟨_, rfl⟩, rfl⟩

set_option maxHeartbeats 800000 in
theorem bytes30_any (a : Option Addr) (c : Nat) (ss : List ByteArray) (a1 : Option Addr) (n1 c1 : Nat) (a2 : Option Addr) (n2 c2 : Nat) (w : World) (hm : ss.length ≤ maxLen) (hm1 : n1 ≤ maxLen) (hm2 : n2 ≤ maxLen)
    (hr : RowAt Value.string ByteArray.empty w a ss) (hs : ∀ s ∈ ss, s.size ≤ maxLen) :
    Calls Try.prog 30 #[.slice a ss.length c, .slice a1 n1 c1, .slice a2 n2 c2] w fun e w' => SomeBool e ∧ w' = w := by
  unfold maxLen at hm hm1 hm2 hs
  have hc : ∀ k, k < ss.length → ∃ b off s, a = some ⟨b, off, none⟩ ∧ w.cell? ⟨b, off + k, none⟩ = some (.string s) ∧ s.size ≤ 9223372036854775807 := by
    intro k hk
    rcases hr with h | ⟨b, off, ha, h⟩
    · rw [h] at hk; simp at hk
    · refine ⟨b, off, _, ha, h k hk, hs _ ?_⟩
      simp [List.getD, hk]
  clear hr hs
  obtain ⟨n, hn⟩ : ∃ n, n = ss.length := ⟨_, rfl⟩
  rw [← hn] at hc hm ⊢
  clear hn
  by_cases g1 : 1048576 < n
  · have g1' : (1048576 : Int) < (n : Int) := by omega
    go_enter Try.func30, Try.ntmps30
    go_wp2
    go_ret
    exact ⟨⟨_, rfl⟩, rfl⟩
  · have g1' : ¬ (1048576 : Int) < (n : Int) := by omega
    go_enter Try.func30, Try.ntmps30
    go_wp2
    go_loop [7, 8] (fun t i => ∃ (k : Nat) (z : Int), k ≤ n ∧ i = .int .i64 k ∧ t = .int .i64 z ∧ 0 ≤ z ∧ z ≤ 1048576) (fun _ i => n - (intOf i).toNat)
    case atStart => exact ⟨0, _, Nat.zero_le _, rfl, rfl, by omega, by omega⟩
    case round =>
      obtain ⟨k, z, hk, rfl, rfl, hz0, hz1⟩ := hrel
      by_cases hlt : k < n
      · obtain ⟨b, off, s, ha, hcell, hss⟩ := hc k hlt
        subst ha
        clear hc
        by_cases g2 : (1048576 : Int) < (s.size : Int)
        · go_wp2
          go_ret
          exact ⟨⟨_, rfl⟩, rfl⟩
        · by_cases g3 : (1048576 : Int) < z + (s.size : Int)
          · go_wp2
            go_ret
            exact ⟨⟨_, rfl⟩, rfl⟩
          · go_wp2
            go_round
            case rel => exact ⟨k + 1, _, by omega, by go_num, rfl, by omega, by omega⟩
            case measure => simp [intOf]; omega
      · clear hc
        go_wp2
        all_goals
          go_ret
          exact ⟨⟨_, rfl⟩, rfl⟩

set_option maxHeartbeats 800000 in
theorem fit_any (a : Option Addr) (c : Nat) (ss : List ByteArray) (a1 : Option Addr) (n1 c1 : Nat) (a2 : Option Addr) (n2 c2 : Nat) (w : World) (hm : ss.length ≤ 4096) (hm1 : n1 ≤ 4096) (hm2 : n2 ≤ 4096)
    (hr : RowAt Value.string ByteArray.empty w a ss) :
    Calls Try.prog 21 #[.slice a ss.length c, .slice a1 n1 c1, .slice a2 n2 c2] w fun e w' => SomeBool e ∧ w' = w := by
  have hc : ∀ k, k < ss.length → ∃ b off s, a = some ⟨b, off, none⟩ ∧ w.cell? ⟨b, off + k, none⟩ = some (.string s) := by
    intro k hk
    rcases hr with h | ⟨b, off, ha, h⟩
    · rw [h] at hk; simp at hk
    · exact ⟨b, off, _, ha, h k hk⟩
  clear hr
  obtain ⟨n, hn⟩ : ∃ n, n = ss.length := ⟨_, rfl⟩
  rw [← hn] at hc hm ⊢
  clear hn
  go_enter Try.func21, Try.ntmps21
  go_wp2
  go_loop [7, 8] (fun t i => ∃ (k : Nat) (z : Int), k ≤ n ∧ i = .int .i64 k ∧ t = .int .i64 z) (fun _ i => n - (intOf i).toNat)
  case atStart => exact ⟨0, _, Nat.zero_le _, rfl, rfl⟩
  case round =>
    obtain ⟨k, z, hk, rfl, rfl⟩ := hrel
    by_cases hlt : k < n
    · obtain ⟨b, off, s, ha, hcell⟩ := hc k hlt
      subst ha
      clear hc
      by_cases g3 : (1048576 : Int) < wrap64 (z + (s.size : Int))
      · go_wp2
        go_ret
        exact ⟨⟨_, rfl⟩, rfl⟩
      · go_wp2
        go_round
        case rel => exact ⟨k + 1, _, by omega, by go_num, rfl⟩
        case measure => simp [intOf]; omega
    · clear hc
      go_wp2
      go_ret
      exact ⟨⟨_, rfl⟩, rfl⟩

theorem same_none (a b : Option Addr) (ca cb : Nat) (w : World) :
    Calls Try.prog 28 #[.slice a 0 ca, .slice b 0 cb] w fun e w' => e = .returned (.bool true) ∧ ∃ q, w' = w.drewN q := by
  go_enter Try.func28, Try.ntmps28
  go_wp2
  refine wp_loop_rounds 1 ?_
  rw [rounds_succ]
  go_wp2
  go_ret
  exact ⟨rfl, 0, rfl⟩

set_option maxHeartbeats 400000 in
theorem same_some (g1 g2 c1 c2 n : Nat) (f : Nat → ByteArray) (w : World) (hn : n ≤ 4096)
    (h1 : ∀ i, i < n → w.cell? ⟨g1, i, none⟩ = some (.string (f i))) (h2 : ∀ i, i < n → w.cell? ⟨g2, i, none⟩ = some (.string (f i))) :
    Calls Try.prog 28 #[.slice (some ⟨g1, 0, none⟩) n c1, .slice (some ⟨g2, 0, none⟩) n c2] w fun e w' => e = .returned (.bool true) ∧ ∃ q, w' = w.drewN q := by
  go_enter Try.func28, Try.ntmps28
  go_wp2
  go_loopw [5] (fun i wr => ∃ k q : Nat, k ≤ n ∧ i = .int .i64 k ∧ wr = w.drewN q) (fun i _ => n - (intOf i).toNat)
  case atStart => exact ⟨0, 0, Nat.zero_le _, rfl, rfl⟩
  case round =>
    obtain ⟨k, q, hk, rfl, rfl⟩ := hrel
    by_cases hlt : k < n
    · have hlt' : (k : Int) < (n : Int) := by omega
      have e1 := h1 k hlt
      have e2 := h2 k hlt
      obtain ⟨s, hs⟩ : ∃ s, s = f k := ⟨_, rfl⟩
      rw [← hs] at e1 e2
      clear hs h1 h2
      go_wp2
      go_quiet (fail)
      go_wp2
      go_roundw
      case rel => exact ⟨k + 1, _, by omega, by go_num, rfl⟩
      case measure => simp [intOf]; omega
    · go_wp2
      go_ret
      exact ⟨rfl, _, rfl⟩
end Go.Proofs.Qxb6600554a

