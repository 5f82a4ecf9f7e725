/-
  '(*selection).bringIn' (18), 'ZZBringIn' (11).
-/
import Derived.Test.Qxb6600609aPths
namespace Go.Proofs.Qxb6600609a
open Go.RowKit
open Plain
set_option linter.unusedVariables false

set_option maxHeartbeats 1600000 in
theorem bring_any (R : Nat) (T : Tree) (FR : Nat → Prop) (a : Option Addr) (n cp : Nat) (ps : List ByteArray) (w : World) (hr : Rep w R T FR) (hn : n = ps.length) (hs : Strs w a ps) (ha : ps ≠ [] → ∀ x, a = some x → ¬ FR x.block) (hm : n ≤ 1048576) :
    Calls Try.prog 18 #[.pointer (some ⟨R, 0, none⟩), .slice a n cp] w (BringPost R (bring ps T) FR w) := by
  have HN : Hid (n = ps.length) := hn
  clear hn
  go_enter Try.func18, Try.ntmps18
  go_wp2
  go_loopw [0, 4, 5, 6, 7, 10] (fun v0 v4 v5 v6 v7 v10 wr => ∃ (i s : Nat) (t : Tree) (F FR1 : Nat → Prop) (K : Tree → Tree), i ≤ n ∧ v10 = .int .i64 (i : Int) ∧ v0 = .pointer (some ⟨s, 0, none⟩) ∧ Down w wr R T FR ps i s t F FR1 K) (fun _ _ _ _ _ v10 _ => n - (intOf v10).toNat)
  case atStart => exact ⟨0, R, T, FR, FR, id, Nat.zero_le _, rfl, rfl, hr, plug_self w R FR, fun _ h => .inl h, Upd.refl _ _, rfl⟩
  case round =>
    obtain ⟨i, s, t, F, FR1, K, hi, rfl, rfl, hD⟩ := hrel
    clear hr
    by_cases hlt : i < n
    · have hlp : i < ps.length := by rw [← HN.out]; exact hlt
      obtain ⟨B, o, hae, hc⟩ := hs i hlp
      have hne : ps ≠ [] := fun e => by rw [e] at hlp; simp at hlp
      have hcell : wr.cell? ⟨B, o + i, none⟩ = some (.string (ps.getD i ByteArray.empty)) :=
        (World.cell?_of_block (w := w) (a := ⟨B, o + i, none⟩) (hD.upd.block B (World.block_lt_of_cell? _ _ hc) (ha hne _ hae))).trans hc
      subst hae
      clear hc hs ha hne
      cases t with
      | node r m =>
      obtain ⟨mv, ptr, G, ho⟩ := hD.rep.opened
      have c0 := ho.hn.rest
      have c1 := ho.hn.mem
      have hl := ho.hm.look (ps.getD i ByteArray.empty)
      have kn := fun b => ho.named b (ps.getD i ByteArray.empty)
      have HDn : Hid (Down w wr R T FR ps i s (.node r m) F FR1 K) := hD
      have HO : Hid (Open wr s r m F mv ptr G) := ho
      clear hD ho
      obtain ⟨x, hx⟩ : ∃ x, x = ps.getD i ByteArray.empty := ⟨_, rfl⟩
      rw [← hx] at hcell hl kn
      have HX : Hid (x = ps.getD i ByteArray.empty) := hx
      clear hx
      have hdrop : ps.drop (i + 1) = [] ↔ i + 1 = n := by
        rw [HN.out]
        constructor
        · intro h; have := congrArg List.length h; simp at this; omega
        · intro h; rw [h]; simp
      have HDr : Hid (ps.drop (i + 1) = [] ↔ i + 1 = n) := hdrop
      clear hdrop
      have hcase : (m x = none ∧ r = true) ∨ (m x = none → r = false) := by
        cases r with
        | true => by_cases h : m x = none
                  · exact .inl ⟨h, rfl⟩
                  · exact .inr fun e => absurd e h
        | false => exact .inr fun _ => rfl
      rcases hcase with ⟨hmx, rfl⟩ | hmr
      · have hpv : pv ptr m x = none := by simp [pv, hmx]
        rw [hpv] at hl
        simp only [Option.getD_none, Option.isSome_none] at hl
        clear kn hpv
        go_wp2
        go_end0
        refine HDn.out.done ?_
        rw [drop_at ps i hlp, bring, ← HX.out, hmx]
        rfl
      · have HMR : Hid (m x = none → r = false) := hmr
        clear hmr
        by_cases hlast : i + 1 = n
        · have e1 : ((i : Int) == (n : Int) - 1) = true := by simp; omega
          cases hmx : pv ptr m x with
          | none =>
            have hm0 : m x = none := by unfold pv at hmx; simpa using hmx
            obtain rfl := HMR.out hm0
            rw [hmx] at hl
            simp only [Option.getD_none, Option.isSome_none] at hl
            clear hmx hm0
            go_wp2_with (go_at_call 24; go_must (refine (kn true).mono ?_; rintro e w2 hp; have HP : Hid (NamePost s false mv (pv ptr m) x (.pointer (some ⟨wr.heap.size, 0, none⟩)) (wr.alloc (.cells #[.bool true, .map none] 46)) e w2) := hp; obtain rfl := hp.1; clear hp kn))
            go_end0
            obtain ⟨F', FR1', K', h⟩ := HDn.out.fresh HO.out hlp (.inl ⟨rfl, HDr.out.2 hlast⟩) (fun _ => rfl) (HX.out ▸ HP.out)
            refine h.done ?_
            rw [HDr.out.2 hlast]; rfl
          | some v =>
            rw [hmx] at hl
            simp only [Option.getD_some, Option.isSome_some] at hl
            clear hmx
            go_wp2_with (go_at_call 24; go_must (refine (kn true).mono ?_; rintro e w2 hp; have HP : Hid (NamePost s r mv (pv ptr m) x (.pointer (some ⟨wr.heap.size, 0, none⟩)) (wr.alloc (.cells #[.bool true, .map none] 46)) e w2) := hp; obtain rfl := hp.1; clear hp kn))
            go_end0
            obtain ⟨F', FR1', K', h⟩ := HDn.out.fresh HO.out hlp (.inl ⟨rfl, HDr.out.2 hlast⟩) (HX.out ▸ HMR.out) (HX.out ▸ HP.out)
            refine h.done ?_
            rw [HDr.out.2 hlast]; rfl
        · have e1 : ((i : Int) == (n : Int) - 1) = false := by simp; omega
          have HDR : Hid (ps.drop (i + 1) ≠ []) := fun h => hlast (HDr.out.1 h)
          clear HDr
          cases hmx : m x with
          | none =>
            obtain rfl := HMR.out hmx
            have hpv : pv ptr m x = none := by simp [pv, hmx]
            rw [hpv] at hl
            simp only [Option.getD_none, Option.isSome_none] at hl
            have HNC : Hid (∀ c, m x ≠ some (some c)) := fun c h => by rw [hmx] at h; cases h
            clear hmx hpv
            go_wp2_with (go_at_call 24; go_must (refine (kn false).mono ?_; rintro e w2 hp; have HP : Hid (NamePost s false mv (pv ptr m) x (.pointer (some ⟨wr.heap.size, 0, none⟩)) (wr.alloc (.cells #[.bool false, .map none] 46)) e w2) := hp; obtain rfl := hp.1; clear hp kn))
            go_roundw
            case rel =>
              obtain ⟨F', FR1', K', h⟩ := HDn.out.fresh HO.out hlp (.inr ⟨rfl, HDR.out, HX.out ▸ HNC.out⟩) (fun _ => rfl) (HX.out ▸ HP.out)
              exact ⟨i + 1, _, _, _, _, _, by omega, by go_num, rfl, h⟩
            case measure => simp [intOf]; omega
          | some q =>
            cases q with
            | none =>
              have hpv : pv ptr m x = some (.pointer none) := by simp [pv, hmx]
              rw [hpv] at hl
              simp only [Option.getD_some, Option.isSome_some] at hl
              have HNC : Hid (∀ c, m x ≠ some (some c)) := fun c h => by rw [hmx] at h; cases h
              clear hmx hpv
              go_wp2_with (go_at_call 24; go_must (refine (kn false).mono ?_; rintro e w2 hp; have HP : Hid (NamePost s r mv (pv ptr m) x (.pointer (some ⟨wr.heap.size, 0, none⟩)) (wr.alloc (.cells #[.bool false, .map none] 46)) e w2) := hp; obtain rfl := hp.1; clear hp kn))
              go_roundw
              case rel =>
                obtain ⟨F', FR1', K', h⟩ := HDn.out.fresh HO.out hlp (.inr ⟨rfl, HDR.out, HX.out ▸ HNC.out⟩) (HX.out ▸ HMR.out) (HX.out ▸ HP.out)
                exact ⟨i + 1, _, _, _, _, _, by omega, by go_num, rfl, h⟩
              case measure => simp [intOf]; omega
            | some c =>
              have hpv : pv ptr m x = some (.pointer (some ⟨ptr x, 0, none⟩)) := by simp [pv, hmx]
              rw [hpv] at hl
              simp only [Option.getD_some, Option.isSome_some] at hl
              have HMX : Hid (m x = some (some c)) := hmx
              clear hmx hpv kn
              go_wp2
              go_roundw
              case rel =>
                obtain ⟨F', FR1', K', h⟩ := HDn.out.down HO.out hlp HDR.out (HX.out ▸ HMX.out)
                exact ⟨i + 1, _, _, _, _, _, by omega, by go_num, rfl, HX.out ▸ h⟩
              case measure => simp [intOf]; omega
    · go_wp2
      go_end0
      refine hD.done ?_
      have : ps.drop i = [] := by rw [List.drop_eq_nil_iff, ← HN.out]; omega
      rw [this]; rfl

theorem zzbring_any (R : Nat) (T : Tree) (FR : Nat → Prop) (a : Option Addr) (n cp : Nat) (ps : List ByteArray) (w : World) (hr : Rep w R T FR) (hn : n = ps.length) (hs : Strs w a ps) (ha : ps ≠ [] → ∀ x, a = some x → ¬ FR x.block) (hm : n ≤ 1048576) :
    Calls Try.prog 11 #[.pointer (some ⟨R, 0, none⟩), .slice a n cp] w (BringPost R (bring ps T) FR w) := by
  have key := bring_any R T FR a n cp ps w hr hn hs ha hm
  clear hr hs ha hn
  go_enter Try.func11, Try.ntmps11
  go_wp2_with (go_at_call 18; go_must (refine key.mono ?_; rintro e w1 ⟨rfl, h⟩; have H : Hid (∃ FR', Rep w1 R (bring ps T) FR' ∧ (∀ k, FR' k → FR k ∨ w.heap.size ≤ k) ∧ Upd FR w w1) := h; clear h))
  go_end0
  exact ⟨rfl, H.out⟩
end Go.Proofs.Qxb6600609a
