/-
  'zzqKeptWhole' (12), 'zzqHas' (22), 'zzqIsPrefix' (23).
-/
import Derived.Test.Qxb6600609aPths
import Derived.Test.Qxb6600609aLawPlain
import Derived.Deep.QuietTactic
import Derived.BigQuiet
namespace Go.Proofs.Qxb6600609a
open Go.RowKit
open Plain
set_option linter.unusedVariables false

theorem kept_none {x : ByteArray} {q : List ByteArray} {r : Bool} {m : ByteArray → Option (Option Tree)} (h : m x = none) : kept (x :: q) (.node r m) = r := by
  rw [kept]; simp only [h]
theorem kept_left {x : ByteArray} {q : List ByteArray} {r : Bool} {m : ByteArray → Option (Option Tree)} (h : m x = some none) : kept (x :: q) (.node r m) = false := by
  rw [kept]; simp only [h]
theorem kept_kid {x : ByteArray} {q : List ByteArray} {r : Bool} {m : ByteArray → Option (Option Tree)} {c : Tree} (h : m x = some (some c)) : kept (x :: q) (.node r m) = kept q c := by
  rw [kept]; simp only [h]
theorem kept_bare {m : ByteArray → Option (Option Tree)} : kept [] (.node false m) = false := by
  rw [kept]; rfl
theorem kept_full {ptr : ByteArray → Nat} {m : ByteArray → Option (Option Tree)} {n : Nat} (h : n = 0 ↔ ∀ s, pv ptr m s = none) : kept [] (.node true m) = ((n : Int) == 0) := by
  have hp : ∀ s, pv ptr m s = none ↔ m s = none := fun s => by simp [pv]
  rw [kept]
  by_cases e : n = 0
  · have : ∀ y, m y = none := fun y => (hp y).1 (h.1 e y)
    simp [e, this]
  · have h2 : ¬ ∀ y, m y = none := fun g => e (h.2 fun s => (hp s).2 (g s))
    have h3 : ((n : Int) == 0) = false := by simp; omega
    rw [h3]
    simp [h2]

set_option maxHeartbeats 800000 in
theorem kept_any (R : Nat) (T : Tree) (FR : Nat → Prop) (a : Option Addr) (n cp : Nat) (ps : List ByteArray) (w : World) (hr : Rep w R T FR) (hn : n = ps.length) (hs : Strs w a ps) (hm : n ≤ 1048576) :
    Calls Try.prog 12 #[.pointer (some ⟨R, 0, none⟩), .slice a n cp] w fun e w' => e = .returned (.bool (kept ps T)) ∧ w = w' := by
  have HN : Hid (n = ps.length) := hn
  clear hn
  go_enter Try.func12, Try.ntmps12
  go_wp2
  go_loop [0, 5, 6, 7] (fun v0 v5 v6 v7 => ∃ (i s : Nat) (t : Tree) (F : Nat → Prop), i ≤ n ∧ v5 = .int .i64 (i : Int) ∧ v0 = .pointer (some ⟨s, 0, none⟩) ∧ Rep w s t F ∧ kept (ps.drop i) t = kept ps T) (fun _ v5 _ _ => n - (intOf v5).toNat)
  case atStart => exact ⟨0, R, T, FR, Nat.zero_le _, rfl, rfl, hr, rfl⟩
  case round =>
    obtain ⟨i, s, t, F, hi, rfl, rfl, hR, hK⟩ := hrel
    clear hr
    cases t with
    | node r m =>
    obtain ⟨mv, ptr, G, ho⟩ := hR.opened
    clear hR
    have HO : Hid (Open w s r m F mv ptr G) := ho
    have HK : Hid (kept (ps.drop i) (.node r m) = kept ps T) := hK
    have kr := rest_any s r mv w ho.hn
    have kc := count_any s r mv _ w ho.hn ho.hm
    clear hK
    by_cases hlt : i < n
    · have hlp : i < ps.length := by rw [← HN.out]; exact hlt
      obtain ⟨B, o, hae, hc⟩ := hs i hlp
      subst hae
      have km := member_any s r mv _ (ps.getD i ByteArray.empty) w ho.hn ho.hm
      clear ho hs kc
      obtain ⟨x, hx⟩ : ∃ x, x = ps.getD i ByteArray.empty := ⟨_, rfl⟩
      have HX : Hid (kept (x :: ps.drop (i + 1)) (.node r m) = kept ps T) := by rw [hx, ← drop_at ps i hlp]; exact HK.out
      rw [← hx] at hc km
      clear hx HK
      cases hmx : m x with
      | none =>
        have hpv : pv ptr m x = none := by simp [pv, hmx]
        rw [hpv] at km
        simp only [Option.getD_none, Option.isSome_none] at km
        have HE : Hid (r = kept ps T) := (kept_none hmx).symm.trans HX.out
        clear hmx hpv HX
        go_wp2_with (first | (go_at_call 19; go_must (refine km.mono ?_; rintro e w1 ⟨rfl, rfl⟩; clear km)) | (go_at_call 20; go_must (refine kr.mono ?_; rintro e w1 ⟨rfl, rfl⟩; clear kr)))
        go_ret
        exact ⟨congrArg (fun b => Ending.returned (.bool b)) HE.out, rfl⟩
      | some q =>
        cases q with
        | none =>
          have hpv : pv ptr m x = some (.pointer none) := by simp [pv, hmx]
          rw [hpv] at km
          simp only [Option.getD_some, Option.isSome_some] at km
          have HE : Hid (false = kept ps T) := (kept_left hmx).symm.trans HX.out
          clear hmx hpv HX kr
          go_wp2_with (go_at_call 19; go_must (refine km.mono ?_; rintro e w1 ⟨rfl, rfl⟩; clear km))
          go_ret
          exact ⟨congrArg (fun b => Ending.returned (.bool b)) HE.out, rfl⟩
        | some c =>
          have hpv : pv ptr m x = some (.pointer (some ⟨ptr x, 0, none⟩)) := by simp [pv, hmx]
          rw [hpv] at km
          simp only [Option.getD_some, Option.isSome_some] at km
          have HE : Hid (kept (ps.drop (i + 1)) c = kept ps T) := (kept_kid hmx).symm.trans HX.out
          have HR : Hid (Rep w (ptr x) c (G x)) := HO.out.kids x c hmx
          clear hmx hpv HX kr HO
          go_wp2_with (go_at_call 19; go_must (refine km.mono ?_; rintro e w1 ⟨rfl, rfl⟩; clear km))
          go_round
          case rel => exact ⟨i + 1, _, _, _, by omega, by go_num, rfl, HR.out, HE.out⟩
          case measure => simp [intOf]; omega
    · have e0 : ps.drop i = [] := by rw [List.drop_eq_nil_iff, ← HN.out]; omega
      have he : kept [] (.node r m) = kept ps T := by rw [← HK.out, e0]
      have HE : Hid (kept [] (.node r m) = kept ps T) := he
      clear ho hs e0 HK HO he
      cases r with
      | false =>
        clear kc
        go_wp2_with (go_at_call 20; go_must (refine kr.mono ?_; rintro e w1 ⟨rfl, rfl⟩; clear kr))
        go_ret
        exact ⟨congrArg (fun b => Ending.returned (.bool b)) (kept_bare.symm.trans HE.out), rfl⟩
      | true =>
        go_wp2_with (first | (go_at_call 20; go_must (refine kr.mono ?_; rintro e w1 ⟨rfl, rfl⟩; clear kr)) | (go_at_call 21; go_must (refine kc.mono ?_; rintro e w2 ⟨⟨q, rfl, hq⟩, rfl⟩; have HQ : Hid (q = 0 ↔ ∀ s, pv ptr m s = none) := hq; clear hq kc)))
        go_ret
        exact ⟨congrArg (fun b => Ending.returned (.bool b)) ((kept_full HQ.out).symm.trans HE.out), rfl⟩

open Classical in
set_option maxHeartbeats 800000 in
theorem has_any (a : Option Addr) (n cp : Nat) (ns : List ByteArray) (y : ByteArray) (w : World) (hn : n = ns.length) (hs : Strs w a ns) (hm : n ≤ 1048576) :
    Calls Try.prog 22 #[.slice a n cp, .string y] w fun e w' => e = .returned (.bool (decide (y ∈ ns))) ∧ w = w' := by
  have HN : Hid (n = ns.length) := hn
  clear hn
  go_enter Try.func22, Try.ntmps22
  go_wp2
  go_loop [5] (fun v5 => ∃ i : Nat, i ≤ n ∧ v5 = .int .i64 (i : Int) ∧ ∀ j, j < i → ns.getD j ByteArray.empty ≠ y) (fun v5 => n - (intOf v5).toNat)
  case atStart => exact ⟨0, Nat.zero_le _, rfl, fun j hj => by omega⟩
  case round =>
    obtain ⟨i, hi, rfl, hj⟩ := hrel
    have HJ : Hid (∀ j, j < i → ns.getD j ByteArray.empty ≠ y) := hj
    clear hj
    by_cases hlt : i < n
    · have hlp : i < ns.length := by rw [← HN.out]; exact hlt
      obtain ⟨B, o, hae, hc⟩ := hs i hlp
      subst hae
      clear hs
      obtain ⟨x, hx⟩ : ∃ x, x = ns.getD i ByteArray.empty := ⟨_, rfl⟩
      have HX : Hid (x = ns.getD i ByteArray.empty) := hx
      rw [← hx] at hc
      clear hx
      by_cases hxy : x = y
      · have e1 : (x.toList == y.toList) = true := by rw [← beq_toListBytes, beq_str]; exact decide_eq_true hxy
        have HE : Hid (true = decide (y ∈ ns)) := by
          have : y ∈ ns := by
            have h1 : ns.getD i ByteArray.empty = y := HX.out ▸ hxy
            rw [← h1]
            simp only [List.getD, List.getElem?_eq_getElem hlp, Option.getD_some]
            exact List.getElem_mem hlp
          exact (decide_eq_true this).symm
        clear hxy
        go_wp2
        go_ret
        exact ⟨congrArg (fun b => Ending.returned (.bool b)) HE.out, rfl⟩
      · have e1 : (x.toList == y.toList) = false := by rw [← beq_toListBytes, beq_str]; exact decide_eq_false hxy
        have HXY : Hid (x ≠ y) := hxy
        clear hxy
        go_wp2
        go_round
        case rel =>
          refine ⟨i + 1, by omega, by go_num, fun j hj => ?_⟩
          by_cases e : j = i
          · subst e; rw [← HX.out]; exact HXY.out
          · exact HJ.out j (by omega)
        case measure => simp [intOf]; omega
    · have HE : Hid (false = decide (y ∈ ns)) := by
        have : ¬ y ∈ ns := by
          intro hy
          obtain ⟨j, hj, e⟩ := List.getElem_of_mem hy
          refine HJ.out j (by have := HN.out; omega) ?_
          simp [List.getD, hj, e]
        exact (decide_eq_false this).symm
      clear hs
      go_wp2
      go_ret
      exact ⟨congrArg (fun b => Ending.returned (.bool b)) HE.out, rfl⟩

theorem begins_long (p q : List ByteArray) (h : q.length < p.length) : begins p q = false := by
  induction p generalizing q with
  | nil => simp at h
  | cons x p ih =>
    cases q with
    | nil => rfl
    | cons y q =>
      rw [begins, ih q (by simpa using h), Bool.and_false]

set_option maxHeartbeats 800000 in
theorem prefix_any (a : Option Addr) (n cp : Nat) (ps : List ByteArray) (a' : Option Addr) (n' cp' : Nat) (qs : List ByteArray) (w : World) (hn : n = ps.length) (hs : Strs w a ps) (hm : n ≤ 1048576) (hn' : n' = qs.length) (hs' : Strs w a' qs) (hm' : n' ≤ 1048576) :
    Calls Try.prog 23 #[.slice a n cp, .slice a' n' cp'] w fun e w' => e = .returned (.bool (begins ps qs)) ∧ ∃ q, w' = w.drewN q := by
  have HN : Hid (n = ps.length) := hn
  have HN' : Hid (n' = qs.length) := hn'
  clear hn hn'
  by_cases hlong : n' < n
  · have HE : Hid (false = begins ps qs) := (begins_long ps qs (by rw [← HN.out, ← HN'.out]; exact hlong)).symm
    clear hs hs'
    go_enter Try.func23, Try.ntmps23
    go_wp2
    go_ret
    exact ⟨congrArg (fun b => Ending.returned (.bool b)) HE.out, 0, rfl⟩
  · go_enter Try.func23, Try.ntmps23
    go_wp2
    go_loopw [5] (fun v5 wr => ∃ i k : Nat, i ≤ n ∧ v5 = .int .i64 (i : Int) ∧ wr = w.drewN k ∧ begins (ps.drop i) (qs.drop i) = begins ps qs) (fun v5 _ => n - (intOf v5).toNat)
    case atStart => exact ⟨0, 0, Nat.zero_le _, rfl, rfl, rfl⟩
    case round =>
      obtain ⟨i, k, hi, rfl, rfl, hB⟩ := hrel
      have HB : Hid (begins (ps.drop i) (qs.drop i) = begins ps qs) := hB
      clear hB
      by_cases hlt : i < n
      · have hlp : i < ps.length := by rw [← HN.out]; exact hlt
        have hlq : i < qs.length := by rw [← HN'.out]; omega
        obtain ⟨B, o, hae, hc⟩ := hs i hlp
        obtain ⟨B', o', hae', hc'⟩ := hs' i hlq
        subst hae hae'
        clear hs hs'
        obtain ⟨x, hx⟩ : ∃ x, x = ps.getD i ByteArray.empty := ⟨_, rfl⟩
        obtain ⟨y, hy⟩ : ∃ x, x = qs.getD i ByteArray.empty := ⟨_, rfl⟩
        have HX : Hid ((decide (x = y) && begins (ps.drop (i + 1)) (qs.drop (i + 1))) = begins ps qs) := by
          have := HB.out
          rw [drop_at ps i hlp, drop_at qs i hlq, begins, ← hx, ← hy] at this
          exact this
        rw [← hx] at hc
        rw [← hy] at hc'
        clear hx hy HB
        by_cases hxy : x = y
        · have e1 : (x.toList == y.toList) = true := by rw [← beq_toListBytes, beq_str]; exact decide_eq_true hxy
          have HE : Hid (begins (ps.drop (i + 1)) (qs.drop (i + 1)) = begins ps qs) := by
            have := HX.out
            rw [decide_eq_true hxy, Bool.true_and] at this
            exact this
          clear hxy HX
          go_wp2
          go_quiet (fail)
          go_wp2
          go_roundw
          case rel => exact ⟨i + 1, _, by omega, by go_num, rfl, HE.out⟩
          case measure => simp [intOf]; omega
        · have e1 : (x.toList == y.toList) = false := by rw [← beq_toListBytes, beq_str]; exact decide_eq_false hxy
          have HE : Hid (false = begins ps qs) := by
            have := HX.out
            rw [decide_eq_false hxy, Bool.false_and] at this
            exact this
          clear hxy HX
          go_wp2
          go_quiet (fail)
          go_wp2
          go_ret
          exact ⟨congrArg (fun b => Ending.returned (.bool b)) HE.out, k + nq, by simp⟩
      · have HE : Hid (true = begins ps qs) := by
          have e0 : ps.drop i = [] := by rw [List.drop_eq_nil_iff, ← HN.out]; omega
          have := HB.out
          rw [e0, begins] at this
          exact this
        clear hs hs'
        go_wp2
        go_ret
        exact ⟨congrArg (fun b => Ending.returned (.bool b)) HE.out, _, rfl⟩
end Go.Proofs.Qxb6600609a
