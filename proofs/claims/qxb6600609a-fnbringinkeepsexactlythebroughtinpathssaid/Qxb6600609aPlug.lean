/-
  A member of a selection under the walk's hand: one step down; a new member.
-/
import Derived.Test.Qxb6600609aLook
namespace Go.Proofs.Qxb6600609a
open Go.RowKit
open Plain
set_option linter.unusedVariables false

/-- What is known of a selection, opened. -/
structure Open (w : World) (B : Nat) (r : Bool) (m : ByteArray → Option (Option Tree)) (F : Nat → Prop) (mv : Option Nat) (ptr : ByteArray → Nat) (G : ByteArray → Nat → Prop) : Prop where
  hn : NodeAt w B r mv
  hm : Mems w mv (pv ptr m)
  hB : F B
  hM : ∀ M, mv = some M → F M ∧ M ≠ B
  hG : ∀ s k, G s k → F k ∧ k ≠ B ∧ mv ≠ some k
  hd : ∀ s s' k, s ≠ s' → G s k → ¬ G s' k
  kids : ∀ s c, m s = some (some c) → Rep w (ptr s) c (G s)
  hlt : ∀ k, F k → k < w.heap.size
theorem Rep.opened {w : World} {B : Nat} {r : Bool} {m : ByteArray → Option (Option Tree)} {F : Nat → Prop} (h : Rep w B (.node r m) F) : ∃ mv ptr G, Open w B r m F mv ptr G := by
  cases h with
  | mk _ _ _ _ mv ptr G hn hm hB hM hG hd kids hlt => exact ⟨mv, ptr, G, hn, hm, hB, hM, hG, hd, kids, hlt⟩

theorem pv_kid {ptr : ByteArray → Nat} {m : ByteArray → Option (Option Tree)} {x : ByteArray} {c : Tree} (h : m x = some (some c)) (t : Tree) :
    (fun s => if s = x then some (.pointer ((some t).map fun _ => ⟨ptr x, 0, none⟩)) else pv ptr m s) = pv ptr m := by
  funext s
  by_cases e : s = x
  · subst e; simp [pv, h]
  · simp [e]

/-- One step down. -/
theorem plug_down {w : World} {R : Nat} {FR : Nat → Prop} {B : Nat} {r : Bool} {m : ByteArray → Option (Option Tree)} {F : Nat → Prop} {mv : Option Nat} {ptr : ByteArray → Nat} {G : ByteArray → Nat → Prop} {K : Tree → Tree} {x : ByteArray} {c : Tree}
    (h : Plug w R FR B F K) (o : Open w B r m F mv ptr G) (hx : m x = some (some c)) : Plug w R FR (ptr x) (G x) (fun t => K (.node r (at' m x (some t)))) := by
  refine ⟨fun k hk => h.1 k (o.hG x k hk).1, fun w' t' F' hr hu hF' => ?_⟩
  have hBl := o.hlt B o.hB
  have hnB : ¬ G x B := fun e => (o.hG x B e).2.1 rfl
  have hblk : ∀ k, F k → ¬ G x k → w'.heap[k]? = w.heap[k]? := fun k hk hn => hu.block k (o.hlt k hk) hn
  have hrep := rep_put (x := x) (c := some t') (p := ptr x) (F' := F') (mv' := mv) o.hB o.hM o.hG o.hd o.kids o.hlt (o.hn.same (hblk B o.hB hnB))
    (by rw [pv_kid hx]; exact o.hm.same fun M e => hblk M (o.hM M e).1 (fun g => (o.hG x M g).2.2 e)) (.inl rfl) (hu.mono fun k hk => .inr (.inr hk))
    (fun t e => by cases e; exact hr)
    (fun k hk => ⟨hF' k hk, fun e => by
      rcases hF' k hk with g | g
      · exact (o.hG x k g).2.2 e
      · have := o.hlt k (o.hM k e).1; omega, hr.lt k hk⟩)
  refine h.2 w' _ _ hrep (hu.mono fun k hk => (o.hG x k hk).1) ?_
  rintro k (hk | hk | hk)
  · exact .inl hk
  · rcases hF' k hk with g | g
    · exact .inl (o.hG x k g).1
    · exact .inr g
  · exact .inl (o.hM k hk).1

/-- A new member, made in the world w1 = w with block p new; 'name' led to w2. -/
theorem plug_new {w w2 : World} {R : Nat} {FR : Nat → Prop} {B p : Nat} {r : Bool} {m : ByteArray → Option (Option Tree)} {F : Nat → Prop} {mv mv' : Option Nat} {ptr : ByteArray → Nat} {G : ByteArray → Nat → Prop} {K : Tree → Tree} {x : ByteArray}
    (h : Plug w R FR B F K) (o : Open w B r m F mv ptr G) (hp : p = w.heap.size) (hpl : p < w2.heap.size) (hn2 : NodeAt w2 B r mv') (hm2 : Mems w2 mv' (fun s => if s = x then some (.pointer (some ⟨p, 0, none⟩)) else pv ptr m s))
    (hu : Upd (fun k => k = B ∨ mv = some k) w w2) (hmv : mv' = mv ∨ ∃ M, mv' = some M ∧ w.heap.size < M ∧ M < w2.heap.size) :
    Plug w2 R (fun k => FR k ∨ w.heap.size ≤ k) p (fun k => k = p) (fun t => K (.node r (at' m x (some t)))) := by
  have hBl := o.hlt B o.hB
  have hmp : mv' ≠ some p := by
    rcases hmv with e | ⟨M, e, h1, h2⟩
    · rw [e]; intro e'; have := o.hlt p (o.hM p e').1; omega
    · rw [e]; intro e'; cases e'; omega
  have hmvl : ∀ M, mv' = some M → M < w2.heap.size := by
    intro M e
    rcases hmv with e' | ⟨M', e', h1, h2⟩
    · exact Nat.lt_of_lt_of_le (o.hlt M (o.hM M (e' ▸ e)).1) hu.size
    · rw [e] at e'; cases e'; exact h2
  refine ⟨fun k hk => .inr (by have : k = p := hk; omega), fun w' t' F' hr hu' hF' => ?_⟩
  have hBp : B ≠ p := by omega
  have hrep := rep_put (x := x) (c := some t') (p := p) (F' := F') (mv' := mv') (w := w) (w' := w') o.hB o.hM o.hG o.hd o.kids o.hlt (hn2.same (hu'.block B (Nat.lt_of_lt_of_le hBl hu.size) hBp))
    (hm2.same fun M e => hu'.block M (hmvl M e) (fun e' => hmp (by rw [e, e'])))
    (by rcases hmv with e | ⟨M, e, h1, h2⟩
        · exact .inl e
        · exact .inr ⟨M, e, by omega, Nat.lt_of_lt_of_le h2 hu'.size⟩)
    ((hu.mono (fun k hk => hk.elim .inl (fun e => .inr (.inl e)))).comp hu' (fun k hk => .inr (by have : k = p := hk; omega)))
    (fun t e => by cases e; exact hr)
    (fun k hk => ⟨.inr (by rcases hF' k hk with g | g; (have : k = p := g; omega); (have := hu.size; omega)), fun e => by
      rcases hF' k hk with g | g
      · exact hmp (by rw [e, show k = p from g])
      · have := hmvl k e; omega, hr.lt k hk⟩)
  obtain ⟨FR', h1, h2⟩ := h.2 w' _ _ hrep ((hu.mono (fun k hk => hk.elim (fun e => e ▸ o.hB) (fun e => (o.hM k e).1))).comp hu' (fun k hk => .inr (by have : k = p := hk; omega))) (by
    rintro k (hk | hk | hk)
    · exact .inl hk
    · exact .inr (by rcases hF' k hk with g | g; (have : k = p := g; omega); (have := hu.size; omega))
    · rcases hmv with e | ⟨M, e, q1, q2⟩
      · exact .inl (o.hM k (e ▸ hk)).1
      · rw [e] at hk; cases hk; exact .inr (by omega))
  exact ⟨FR', h1, fun k hk => .inl (h2 k hk)⟩

/-- A new selection lies alone. -/
theorem rep_leaf {w : World} {p : Nat} {r : Bool} (h : NodeAt w p r none) : Rep w p (leaf r) (fun k => k = p) :=
  .mk p r none' _ none (fun _ => 0) (fun _ _ => False) h (fun _ => rfl) rfl (fun M e => by cases e) (fun _ _ e => e.elim) (fun _ _ _ _ e => e.elim) (fun _ _ e => by cases e) (fun k e => by have : k = p := e; subst this; exact h.lt)
end Go.Proofs.Qxb6600609a
