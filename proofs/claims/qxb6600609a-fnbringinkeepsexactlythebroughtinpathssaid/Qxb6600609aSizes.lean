/-
  'zzqSizeOfNames' (6), 'zzqSizeOfPaths' (7).
-/
import Derived.Test.Qxb6600609aPths
namespace Go.Proofs.Qxb6600609a
open Go.RowKit
open Plain
set_option linter.unusedVariables false

/-- Some number within the limit and one, that vouches for p. -/
def Sized (p : Prop) (e : Ending) : Prop := ∃ z : Int, e = .returned (.int .i64 z) ∧ 0 ≤ z ∧ z ≤ 1048577 ∧ (z ≤ 1048576 → p)

theorem sized_over (p : Prop) : Sized p (.returned (.int .i64 1048577)) := ⟨_, rfl, by omega, by omega, fun h => by omega⟩

set_option maxHeartbeats 800000 in
theorem names_any (a : Option Addr) (n cp : Nat) (ns : List ByteArray) (w : World) (hn : n = ns.length) (hs : Strs w a ns) (hm : n ≤ maxLen) (hz : ∀ s ∈ ns, s.size ≤ maxLen) :
    Calls Try.prog 6 #[.slice a n cp] w fun e w' => Sized (n ≤ 1048576) e ∧ w = w' := by
  have hc : ∀ i, i < n → ∃ B o s, a = some ⟨B, o, none⟩ ∧ w.cell? ⟨B, o + i, none⟩ = some (.string s) ∧ s.size ≤ maxLen := by
    intro i hi
    obtain ⟨B, o, ha, h⟩ := hs i (by omega)
    refine ⟨B, o, _, ha, h, hz _ ?_⟩
    have : i < ns.length := by omega
    simp only [List.getD, List.getElem?_eq_getElem this, Option.getD_some]
    exact List.getElem_mem this
  unfold maxLen at hm hc
  clear hn hs hz
  by_cases g1 : 1048576 < n
  · have g1' : (1048576 : Int) < (n : Int) := by omega
    clear hc
    go_enter Try.func6, Try.ntmps6
    go_wp2
    go_ret
    exact ⟨sized_over _, rfl⟩
  · have g1' : ¬ (1048576 : Int) < (n : Int) := by omega
    go_enter Try.func6, Try.ntmps6
    go_wp2
    go_loop [3, 4] (fun t i => ∃ (k : Nat) (z : Int), k ≤ n ∧ i = .int .i64 k ∧ t = .int .i64 z ∧ 0 ≤ z ∧ z ≤ 16777216) (fun _ i => n - (intOf i).toNat)
    case atStart => exact ⟨0, _, Nat.zero_le _, rfl, rfl, by omega, by omega⟩
    case round =>
      obtain ⟨k, z, hk, rfl, rfl, hz0, hz1⟩ := hrel
      by_cases hlt : k < n
      · obtain ⟨B, o, s, ha, hcell, hss⟩ := hc k hlt
        subst ha
        clear hc
        by_cases g2 : (1048576 : Int) < (s.size : Int)
        · go_wp2
          go_ret
          exact ⟨sized_over _, rfl⟩
        · by_cases g3 : (1048576 : Int) < z + (s.size : Int)
          · go_wp2
            go_ret
            exact ⟨sized_over _, rfl⟩
          · go_wp2
            go_round
            case rel => exact ⟨k + 1, _, by omega, by go_num, rfl, by omega, by omega⟩
            case measure => simp [intOf]; omega
      · clear hc
        by_cases g3 : (1048576 : Int) < z
        · go_wp2
          go_ret
          exact ⟨sized_over _, rfl⟩
        · go_wp2
          go_ret
          exact ⟨⟨z, rfl, hz0, by omega, fun _ => by omega⟩, rfl⟩

/-- What is known of the slices in a slice. -/
def Lens (pss : List (List ByteArray)) : Prop := ∀ z ∈ pss, z.length ≤ maxLen ∧ ∀ s ∈ z, s.size ≤ maxLen

set_option maxHeartbeats 800000 in
theorem paths_any (a : Option Addr) (n cp : Nat) (pss : List (List ByteArray)) (w : World) (hn : n = pss.length) (hs : Pths w a pss) (hm : n ≤ maxLen) (hz : Lens pss) :
    Calls Try.prog 7 #[.slice a n cp] w fun e w' => Sized (∀ j, j < n → (pss.getD j []).length ≤ 1048576) e ∧ w = w' := by
  have hc : ∀ i, i < n → ∃ B o aj cj, a = some ⟨B, o, none⟩ ∧ w.cell? ⟨B, o + i, none⟩ = some (.slice aj (pss.getD i []).length cj) ∧ Strs w aj (pss.getD i []) ∧ (pss.getD i []).length ≤ maxLen ∧ ∀ s ∈ pss.getD i [], s.size ≤ maxLen := by
    intro i hi
    obtain ⟨B, o, aj, cj, ha, h1, h2, _⟩ := hs i (by omega)
    refine ⟨B, o, aj, cj, ha, h1, h2, hz _ ?_⟩
    have : i < pss.length := by omega
    simp only [List.getD, List.getElem?_eq_getElem this, Option.getD_some]
    exact List.getElem_mem this
  unfold maxLen at hm
  clear hn hs hz
  by_cases g1 : 1048576 < n
  · have g1' : (1048576 : Int) < (n : Int) := by omega
    clear hc
    go_enter Try.func7, Try.ntmps7
    go_wp2
    go_ret
    exact ⟨sized_over _, rfl⟩
  · have g1' : ¬ (1048576 : Int) < (n : Int) := by omega
    go_enter Try.func7, Try.ntmps7
    go_wp2
    go_loop [3, 4] (fun t i => ∃ (k : Nat) (z : Int), k ≤ n ∧ i = .int .i64 k ∧ t = .int .i64 z ∧ 0 ≤ z ∧ z ≤ 25165824 ∧ ∀ j, j < k → (pss.getD j []).length ≤ 1048576) (fun _ i => n - (intOf i).toNat)
    case atStart => exact ⟨0, _, Nat.zero_le _, rfl, rfl, by omega, by omega, fun j hj => by omega⟩
    case round =>
      obtain ⟨k, z, hk, rfl, rfl, hz0, hz1, hj⟩ := hrel
      have HJ : Hid (∀ j, j < k → (pss.getD j []).length ≤ 1048576) := hj
      clear hj
      by_cases hlt : k < n
      · obtain ⟨B, o, aj, cj, ha, hcell, hsj, hml, hmz⟩ := hc k hlt
        have key := names_any aj _ cj (pss.getD k []) w rfl hsj hml hmz
        have HE : Hid (∀ l, l = (pss.getD k []).length → l ≤ 1048576 → ∀ j, j < k + 1 → (pss.getD j []).length ≤ 1048576) := by
          intro l hl hle j hj
          by_cases e : j = k
          · subst e; omega
          · exact HJ.out j (by omega)
        obtain ⟨l, hl⟩ : ∃ l, l = (pss.getD k []).length := ⟨_, rfl⟩
        have HL : Hid (l ≤ 1048576 → ∀ j, j < k + 1 → (pss.getD j []).length ≤ 1048576) := HE.out l hl
        rw [← hl] at hcell key hml
        subst ha
        unfold maxLen at hml
        clear hc hl hsj hmz HE HJ
        go_wp2_with (go_at_call 6; go_must (refine key.mono ?_; rintro e w1 ⟨⟨y, rfl, hy0, hy1, hy⟩, rfl⟩; have HY : Hid (y ≤ 1048576 → l ≤ 1048576) := hy; clear hy key; by_cases g3 : (1048576 : Int) < z + y))
        · go_ret
          exact ⟨sized_over _, rfl⟩
        · go_round
          case rel => exact ⟨k + 1, _, by omega, by go_num, rfl, by omega, by omega, HL.out (HY.out (by omega))⟩
          case measure => simp [intOf]; omega
      · clear hc
        by_cases g3 : (1048576 : Int) < z
        · go_wp2
          go_ret
          exact ⟨sized_over _, rfl⟩
        · go_wp2
          go_ret
          exact ⟨⟨z, rfl, hz0, by omega, fun _ j hj => HJ.out j (by omega)⟩, rfl⟩
end Go.Proofs.Qxb6600609a
