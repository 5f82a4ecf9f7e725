/-
  'FnBringInKeepsExactlyTheBroughtInPaths' (function 3): the two loops' states; the ways that end early; the law.
-/
import Derived.Test.Qxb6600609aBytes
import Derived.Test.Qxb6600609aModel
import Derived.Test.Qxb6600609aBuild
import Derived.Test.Qxb6600609aBring
import Derived.Test.Qxb6600609aCopyP
namespace Go.Proofs.Qxb6600609a
open Go.RowKit
open Plain
set_option linter.unusedVariables false

/-- Ahead of round i: the first i paths are brought in. -/
def Mid (r : Bool) (ls : List ByteArray) (pss : List (List ByteArray)) (w3 wr : World) (i : Nat) : Prop :=
  ∃ F, Rep wr w3.heap.size (brought (Plain.start r ls) (pss.take i)) F ∧ (∀ k, F k → w3.heap.size ≤ k) ∧ Below w3.heap.size w3 wr

theorem Mid.call {r : Bool} {ls : List ByteArray} {pss : List (List ByteArray)} {w3 wr : World} {i : Nat} {a1 : Option Addr} (h : Mid r ls pss w3 wr i) (hs : Pths w3 a1 pss) (hi : i < pss.length) (hin : ∀ j, j < pss.length → (pss.getD j []).length ≤ 1048576) :
    ∃ B o aj cj, a1 = some ⟨B, o, none⟩ ∧ wr.cell? ⟨B, o + i, none⟩ = some (.slice aj (pss.getD i []).length cj) ∧
      Calls Try.prog 11 #[.pointer (some ⟨w3.heap.size, 0, none⟩), .slice aj (pss.getD i []).length cj] wr fun e w' => e = .returned (.tuple #[]) ∧ Mid r ls pss w3 w' (i + 1) := by
  obtain ⟨F, hr, hF, hb⟩ := h
  obtain ⟨B, o, aj, cj, ha, hc, hsj, hn⟩ := hs i hi
  refine ⟨B, o, aj, cj, ha, (hb.cell (p := ⟨B, o + i, none⟩) (World.block_lt_of_cell? _ _ hc)).trans hc, ?_⟩
  refine (zzbring_any _ _ F aj _ cj (pss.getD i []) wr hr rfl (hsj.below hb) (fun h0 x hx hFx => ?_) (hin i hi)).mono ?_
  · have := hsj.lt h0 x hx
    have := hF _ hFx
    omega
  · rintro e w2 ⟨rfl, FR', h1, h2, h3⟩
    refine ⟨rfl, FR', ?_, ?_, hb.trans (h3.below hb.size hF)⟩
    · rw [take_snoc pss [] i hi, brought_snoc]
      exact h1
    · intro k hk
      rcases h2 k hk with g | g
      · exact hF k g
      · exact Nat.le_trans hb.size g

theorem Mid.ask {r : Bool} {ls : List ByteArray} {pss qss : List (List ByteArray)} {w3 wr : World} {i n0 n1 : Nat} {a0 a1 a2 : Option Addr} {c0 c1 : Nat} (h : Mid r ls pss w3 wr n1) (hn0 : n0 = ls.length) (hs0 : Strs w3 a0 ls) (hm0 : n0 ≤ 1048576) (hn1 : n1 = pss.length) (hs1 : Pths w3 a1 pss) (hm1 : n1 ≤ 1048576) (hs2 : Pths w3 a2 qss) (hi : i < qss.length)
    (hin1 : ∀ j, j < pss.length → (pss.getD j []).length ≤ 1048576) (hin2 : ∀ j, j < qss.length → (qss.getD j []).length ≤ 1048576) (k : Nat) :
    ∃ B o aj cj, a2 = some ⟨B, o, none⟩ ∧ wr.cell? ⟨B, o + i, none⟩ = some (.slice aj (qss.getD i []).length cj) ∧ (qss.getD i []).length ≤ 1048576 ∧ ∃ b : Bool,
      ((qss.getD i []).length ≠ 0 → Calls Try.prog 12 #[.pointer (some ⟨w3.heap.size, 0, none⟩), .slice aj (qss.getD i []).length cj] (wr.drewN k) fun e w' => e = .returned (.bool b) ∧ wr.drewN k = w') ∧
      ((qss.getD i []).length ≠ 0 → Calls Try.prog 13 #[.bool r, .slice a0 n0 c0, .slice a1 n1 c1, .slice aj (qss.getD i []).length cj] (wr.drewN k) fun e w' => e = .returned (.bool b) ∧ ∃ k', w' = (wr.drewN k).drewN k') := by
  obtain ⟨F, hr, hF, hb⟩ := h
  obtain ⟨B, o, aj, cj, ha, hc, hsj, hn⟩ := hs2 i hi
  rw [hn1, List.take_length] at hr
  have hr' : Rep (wr.drewN k) w3.heap.size (brought (Plain.start r ls) pss) F := hr.same (fun _ _ => rfl) (Nat.le_refl _)
  refine ⟨B, o, aj, cj, ha, (hb.cell (p := ⟨B, o + i, none⟩) (World.block_lt_of_cell? _ _ hc)).trans hc, hin2 i hi, model r ls pss (qss.getD i []), fun h0 => ?_, fun h0 => ?_⟩
  · have hq : qss.getD i [] ≠ [] := fun e => h0 (by rw [e]; rfl)
    rw [← kept_model r ls pss _ hq]
    exact kept_any _ _ F aj _ cj (qss.getD i []) (wr.drewN k) hr' rfl (show Strs wr aj (qss.getD i []) from hsj.below hb) (hin2 i hi)
  · exact model_any r a0 n0 c0 ls a1 n1 c1 pss aj _ cj (qss.getD i []) (wr.drewN k) hn0 (show Strs wr a0 ls from hs0.below hb) hm0 hn1 (show Pths wr a1 pss from hs1.below hb) hm1 hin1 rfl (show Strs wr aj (qss.getD i []) from hsj.below hb) (hin2 i hi)

set_option maxRecDepth 100000 in
set_option maxHeartbeats 1600000 in
theorem law_off (r : Bool) (a0 : Option Addr) (n0 c0 : Nat) (ls : List ByteArray) (a1 : Option Addr) (n1 c1 : Nat) (pss : List (List ByteArray)) (a2 : Option Addr) (n2 c2 : Nat) (qss : List (List ByteArray)) (w : World)
    (hn0 : n0 = ls.length) (hs0 : Strs w a0 ls) (hm0 : n0 ≤ maxLen) (hz0 : ∀ s ∈ ls, s.size ≤ maxLen) (hn1 : n1 = pss.length) (hs1 : Pths w a1 pss) (hm1 : n1 ≤ maxLen) (hz1 : Lens pss) (hn2 : n2 = qss.length) (hs2 : Pths w a2 qss) (hm2 : n2 ≤ maxLen) (hz2 : Lens qss)
    (hoff : 4096 < n0 ∨ (n0 ≤ 4096 ∧ 4096 < n1) ∨ (n0 ≤ 4096 ∧ n1 ≤ 4096 ∧ 4096 < n2)) :
    Calls Try.prog 3 #[.bool r, .slice a0 n0 c0, .slice a1 n1 c1, .slice a2 n2 c2] w fun e w' => e = .returned (.bool true) ∧ Below w.heap.size w w' := by
  have kb := bytes_any r a0 n0 c0 a1 n1 c1 a2 n2 c2 w hm0 hm1 hm2 (hn0 ▸ hs0.rd hz0) (hn1 ▸ hs1.rd hz1) (hn2 ▸ hs2.rd hz2)
  have k6 := names_any a0 n0 c0 ls w hn0 hs0 hm0 hz0
  have k71 := paths_any a1 n1 c1 pss w hn1 hs1 hm1 hz1
  have k72 := paths_any a2 n2 c2 qss w hn2 hs2 hm2 hz2
  unfold maxLen at hm0 hm1 hm2
  clear hn0 hs0 hz0 hn1 hs1 hz1 hn2 hs2 hz2
  rcases hoff with h | ⟨h1, h2⟩ | ⟨h1, h2, h3⟩
  · have g1 : (4096 : Int) < (n0 : Int) := by omega
    go_enter Try.func3, Try.ntmps3
    go_wp2_with (first
      | (go_at_call 5; refine kb.mono ?_; rintro e w' ⟨⟨rb, rfl⟩, rfl⟩; clear kb; cases rb)
      | (go_at_call 6; refine k6.mono ?_; rintro e w' ⟨⟨y0, rfl, hy0, hy0', _⟩, rfl⟩; clear k6)
      | (go_at_call 7; refine k71.mono ?_; rintro e w' ⟨⟨y1, rfl, hy1, hy1', _⟩, rfl⟩; clear k71)
      | (go_at_call 7; refine k72.mono ?_; rintro e w' ⟨⟨y2, rfl, hy2, hy2', _⟩, rfl⟩; clear k72; by_cases g : (1048576 : Int) < y0 + y1 + y2))
    all_goals (go_ret; exact ⟨rfl, Below.refl _ _⟩)
  · have g1 : ¬ (4096 : Int) < (n0 : Int) := by omega
    have g2 : (4096 : Int) < (n1 : Int) := by omega
    go_enter Try.func3, Try.ntmps3
    go_wp2_with (first
      | (go_at_call 5; refine kb.mono ?_; rintro e w' ⟨⟨rb, rfl⟩, rfl⟩; clear kb; cases rb)
      | (go_at_call 6; refine k6.mono ?_; rintro e w' ⟨⟨y0, rfl, hy0, hy0', _⟩, rfl⟩; clear k6)
      | (go_at_call 7; refine k71.mono ?_; rintro e w' ⟨⟨y1, rfl, hy1, hy1', _⟩, rfl⟩; clear k71)
      | (go_at_call 7; refine k72.mono ?_; rintro e w' ⟨⟨y2, rfl, hy2, hy2', _⟩, rfl⟩; clear k72; by_cases g : (1048576 : Int) < y0 + y1 + y2))
    all_goals (go_ret; exact ⟨rfl, Below.refl _ _⟩)
  · have g1 : ¬ (4096 : Int) < (n0 : Int) := by omega
    have g2 : ¬ (4096 : Int) < (n1 : Int) := by omega
    have g3 : (4096 : Int) < (n2 : Int) := by omega
    go_enter Try.func3, Try.ntmps3
    go_wp2_with (first
      | (go_at_call 5; refine kb.mono ?_; rintro e w' ⟨⟨rb, rfl⟩, rfl⟩; clear kb; cases rb)
      | (go_at_call 6; refine k6.mono ?_; rintro e w' ⟨⟨y0, rfl, hy0, hy0', _⟩, rfl⟩; clear k6)
      | (go_at_call 7; refine k71.mono ?_; rintro e w' ⟨⟨y1, rfl, hy1, hy1', _⟩, rfl⟩; clear k71)
      | (go_at_call 7; refine k72.mono ?_; rintro e w' ⟨⟨y2, rfl, hy2, hy2', _⟩, rfl⟩; clear k72; by_cases g : (1048576 : Int) < y0 + y1 + y2))
    all_goals (go_ret; exact ⟨rfl, Below.refl _ _⟩)
end Go.Proofs.Qxb6600609a
