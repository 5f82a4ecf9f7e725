/-
  How a tree of selections lies in memory.
-/
import Derived.Test.Qxb6600609aRows
import Derived.Test.Qxb6600609aPlain
import Derived.Test.Qxb6600609aMaps
import Derived.WalkKit
import Derived.WalkSpells
import Derived.WalkLawsBesides
import Derived.Below
import Derived.OwnWalk
import Derived.Laws.OwnMore
namespace Go.Proofs.Qxb6600609a
open Go.RowKit
open Plain
set_option linter.unusedVariables false

/-- Only the blocks of F, and new ones, are other than they were. -/
structure Upd (F : Nat → Prop) (w w' : World) : Prop where
  os : w'.os = w.os
  tape : w'.tape = w.tape
  output : w'.output = w.output
  size : w.heap.size ≤ w'.heap.size
  block : ∀ k, k < w.heap.size → ¬ F k → w'.heap[k]? = w.heap[k]?
theorem Upd.refl (F : Nat → Prop) (w : World) : Upd F w w := ⟨rfl, rfl, rfl, Nat.le_refl _, fun _ _ _ => rfl⟩
theorem Upd.trans {F : Nat → Prop} {a b c : World} (h : Upd F a b) (k : Upd F b c) : Upd F a c :=
  ⟨k.os.trans h.os, k.tape.trans h.tape, k.output.trans h.output, Nat.le_trans h.size k.size, fun x hx hF =>
    (k.block x (Nat.lt_of_lt_of_le hx h.size) hF).trans (h.block x hx hF)⟩
/-- What the second writes the first had, or made. -/
theorem Upd.comp {F G : Nat → Prop} {a b c : World} (h : Upd F a b) (k : Upd G b c) (hG : ∀ x, G x → F x ∨ a.heap.size ≤ x) : Upd F a c :=
  ⟨k.os.trans h.os, k.tape.trans h.tape, k.output.trans h.output, Nat.le_trans h.size k.size, fun x hx hF =>
    (k.block x (Nat.lt_of_lt_of_le hx h.size) (fun g => (hG x g).elim hF (fun e => by omega))).trans (h.block x hx hF)⟩
theorem Upd.mono {F G : Nat → Prop} {w w' : World} (h : Upd F w w') (hG : ∀ x, F x → G x) : Upd G w w' := ⟨h.os, h.tape, h.output, h.size, fun k hk hn => h.block k hk (fun f => hn (hG k f))⟩
theorem Upd.set {F : Nat → Prop} {w w' : World} (h : Upd F w w') {a : Addr} (hF : F a.block) (u : Value) : Upd F w (w'.setCell a u) :=
  h.trans ⟨rfl, rfl, rfl, by simp, fun k _ hk => Below.heap_setCell w' a u k (fun e => hk (e ▸ hF))⟩
theorem Upd.alloc {F : Nat → Prop} {w w' : World} (h : Upd F w w') (o : Obj) : Upd F w (w'.alloc o) :=
  h.trans ⟨rfl, rfl, rfl, by simp, fun k hk _ => ((Below.refl w'.heap.size w').alloc (Nat.le_refl _) o).block k hk⟩
theorem Upd.grown {F : Nat → Prop} {w w1 w2 : World} (h : Upd F w w1) {T : Nat} (g : w1.grownBy w2 (some T)) (hT : F T) : Upd F w w2 :=
  h.trans ⟨g.os, g.tape, g.output, g.size, fun k hk hn => g.block k hk (fun e => by cases e; exact hn hT)⟩
theorem Upd.below {F : Nat → Prop} {w w' : World} {B : Nat} (h : Upd F w w') (hB : B ≤ w.heap.size) (hF : ∀ k, F k → B ≤ k) : Below B w w' :=
  ⟨h.os, h.tape, h.output, h.size, fun k hk => h.block k (by omega) (fun f => by have := hF k f; omega)⟩

/-- A selection's two fields. -/
structure NodeAt (w : World) (B : Nat) (r : Bool) (mv : Option Nat) : Prop where
  rest : w.cell? ⟨B, 0, none⟩ = some (.bool r)
  mem : w.cell? ⟨B, 1, none⟩ = some (.map mv)
  free : ∀ j, w.frozen? ⟨B, j, none⟩ = false
theorem NodeAt.same {w w' : World} {B : Nat} {r : Bool} {mv : Option Nat} (h : NodeAt w B r mv) (e : w'.heap[B]? = w.heap[B]?) : NodeAt w' B r mv :=
  ⟨by rw [World.cell?_of_block (w := w) (a := ⟨B, 0, none⟩) e]; exact h.rest, by rw [World.cell?_of_block (w := w) (a := ⟨B, 1, none⟩) e]; exact h.mem, fun j => by rw [World.frozen?_of_block (w := w) (a := ⟨B, j, none⟩) e]; exact h.free j⟩
theorem NodeAt.lt {w : World} {B : Nat} {r : Bool} {mv : Option Nat} (h : NodeAt w B r mv) : B < w.heap.size := World.block_lt_of_cell? _ _ h.rest

/-- The map's entries, or no map at all. -/
def Mems (w : World) : Option Nat → (ByteArray → Option Value) → Prop
  | none, f => ∀ s, f s = none
  | some M, f => MapFn w M f
theorem Mems.same {w w' : World} {mv : Option Nat} {f : ByteArray → Option Value} (h : Mems w mv f) (e : ∀ M, mv = some M → w'.heap[M]? = w.heap[M]?) : Mems w' mv f := by
  cases mv with
  | none => exact h
  | some M => exact MapFn.same h (e M rfl)

/-- The pointer that stands for a member. -/
def pv (ptr : ByteArray → Nat) (m : ByteArray → Option (Option Tree)) (s : ByteArray) : Option Value :=
  (m s).map fun o => .pointer (o.map fun _ => ⟨ptr s, 0, none⟩)

inductive Rep (w : World) : Nat → Tree → (Nat → Prop) → Prop
  | mk (B : Nat) (r : Bool) (m : ByteArray → Option (Option Tree)) (F : Nat → Prop) (mv : Option Nat) (ptr : ByteArray → Nat) (G : ByteArray → Nat → Prop)
    (hn : NodeAt w B r mv) (hm : Mems w mv (pv ptr m)) (hB : F B) (hM : ∀ M, mv = some M → F M ∧ M ≠ B)
    (hG : ∀ s k, G s k → F k ∧ k ≠ B ∧ mv ≠ some k) (hd : ∀ s s' k, s ≠ s' → G s k → ¬ G s' k)
    (kids : ∀ s c, m s = some (some c) → Rep w (ptr s) c (G s)) (hlt : ∀ k, F k → k < w.heap.size) : Rep w B (.node r m) F

theorem Rep.same {w w' : World} {B : Nat} {t : Tree} {F : Nat → Prop} (h : Rep w B t F) (e : ∀ k, F k → w'.heap[k]? = w.heap[k]?) (hs : w.heap.size ≤ w'.heap.size) : Rep w' B t F := by
  induction h with
  | mk B r m F mv ptr G hn hm hB hM hG hd kids hlt ih =>
    exact .mk B r m F mv ptr G (hn.same (e B hB)) (hm.same fun M h => e M (hM M h).1) hB hM hG hd (fun s c hs => ih s c hs fun k hk => e k (hG s k hk).1) (fun k hk => Nat.lt_of_lt_of_le (hlt k hk) hs)
theorem Rep.lt {w : World} {B : Nat} {t : Tree} {F : Nat → Prop} (h : Rep w B t F) : ∀ k, F k → k < w.heap.size := by
  cases h with
  | mk _ r m _ mv ptr G hn hm hB hM hG hd kids hlt => exact hlt
theorem Rep.own {w : World} {B : Nat} {t : Tree} {F : Nat → Prop} (h : Rep w B t F) : F B := by
  cases h with
  | mk _ r m _ mv ptr G hn hm hB hM hG hd kids hlt => exact hB

theorem pv_at {ptr : ByteArray → Nat} {m : ByteArray → Option (Option Tree)} {x : ByteArray} {c : Option Tree} {p : Nat} :
    pv (fun s => if s = x then p else ptr s) (at' m x c) = fun s => if s = x then some (.pointer (c.map fun _ => ⟨p, 0, none⟩)) else pv ptr m s := by
  funext s
  unfold pv at'
  by_cases h : s = x
  · rw [if_pos h, if_pos h]; cases c <;> simp [h]
  · rw [if_neg h, if_neg h]; cases m s with
    | none => rfl
    | some o => cases o <;> simp [h]

/-- A member is set: by a new tree, or by none. -/
theorem rep_put {w w' : World} {B : Nat} {r : Bool} {m : ByteArray → Option (Option Tree)} {F : Nat → Prop} {mv mv' : Option Nat} {ptr : ByteArray → Nat} {G : ByteArray → Nat → Prop} {x : ByteArray} {c : Option Tree} {p : Nat} {F' : Nat → Prop}
    (hB : F B) (hM : ∀ M, mv = some M → F M ∧ M ≠ B) (hG : ∀ s k, G s k → F k ∧ k ≠ B ∧ mv ≠ some k) (hd : ∀ s s' k, s ≠ s' → G s k → ¬ G s' k)
    (kids : ∀ s c, m s = some (some c) → Rep w (ptr s) c (G s)) (hlt : ∀ k, F k → k < w.heap.size)
    (hn' : NodeAt w' B r mv') (hm' : Mems w' mv' (fun s => if s = x then some (.pointer (c.map fun _ => ⟨p, 0, none⟩)) else pv ptr m s)) (hmv : mv' = mv ∨ ∃ M, mv' = some M ∧ w.heap.size ≤ M ∧ M < w'.heap.size)
    (hu : Upd (fun k => k = B ∨ mv = some k ∨ G x k) w w') (hc : ∀ t, c = some t → Rep w' p t F') (hF' : ∀ k, F' k → (G x k ∨ w.heap.size ≤ k) ∧ mv' ≠ some k ∧ k < w'.heap.size) :
    Rep w' B (.node r (at' m x c)) (fun k => F k ∨ F' k ∨ mv' = some k) := by
  have hBl := hlt B hB
  refine .mk B r _ _ mv' (fun s => if s = x then p else ptr s) (fun s => if s = x then F' else G s) hn' (by rw [pv_at]; exact hm') (.inl hB) ?_ ?_ ?_ ?_ ?_
  · intro M hMv
    refine ⟨.inr (.inr hMv), ?_⟩
    rcases hmv with e | ⟨M', e, h1, h2⟩
    · exact (hM M (e ▸ hMv)).2
    · rw [hMv] at e; cases e; omega
  · intro s k hk
    by_cases e : s = x
    · simp only [if_pos e] at hk
      obtain ⟨h1, h2, h3⟩ := hF' k hk
      refine ⟨.inr (.inl hk), ?_, h2⟩
      rcases h1 with h1 | h1
      · exact (hG x k h1).2.1
      · omega
    · simp only [if_neg e] at hk
      obtain ⟨h1, h2, h3⟩ := hG s k hk
      refine ⟨.inl h1, h2, ?_⟩
      rcases hmv with e' | ⟨M', e', h4, h5⟩
      · rw [e']; exact h3
      · rw [e']; intro h; cases h; have := hlt k h1; omega
  · intro s s' k hne hk
    by_cases e : s = x
    · simp only [if_pos e] at hk
      have e' : s' ≠ x := fun h => hne (e.trans h.symm)
      simp only [if_neg e']
      intro hk'
      rcases (hF' k hk).1 with h1 | h1
      · exact hd x s' k (Ne.symm e') h1 hk'
      · have := hlt k (hG s' k hk').1; omega
    · simp only [if_neg e] at hk
      by_cases e' : s' = x
      · simp only [if_pos e']
        intro hk'
        rcases (hF' k hk').1 with h1 | h1
        · exact hd x s k (Ne.symm e) h1 hk
        · have := hlt k (hG s k hk).1; omega
      · simp only [if_neg e']
        exact hd s s' k hne hk
  · intro s t hs
    by_cases e : s = x
    · subst e
      rw [at_same] at hs
      simp only
      exact hc t (Option.some.inj hs)
    · rw [at_other _ _ e] at hs
      simp only [if_neg e]
      refine (kids s t hs).same (fun k hk => hu.block k (hlt k (hG s k hk).1) ?_) hu.size
      rintro (h | h | h)
      · exact (hG s k hk).2.1 h
      · exact (hG s k hk).2.2 h
      · exact hd s x k e hk h
  · rintro k (h | h | h)
    · exact Nat.lt_of_lt_of_le (hlt k h) hu.size
    · exact (hF' k h).2.2
    · rcases hmv with e | ⟨M', e, h1, h2⟩
      · exact Nat.lt_of_lt_of_le (hlt k (hM k (e ▸ h)).1) hu.size
      · rw [e] at h; cases h; exact h2

/-- Whatever becomes of the selection at s, the root becomes what K says. -/
def Plug (w : World) (R : Nat) (FR : Nat → Prop) (s : Nat) (F : Nat → Prop) (K : Tree → Tree) : Prop :=
  (∀ k, F k → FR k) ∧ ∀ w' t' F', Rep w' s t' F' → Upd F w w' → (∀ k, F' k → F k ∨ w.heap.size ≤ k) → ∃ FR', Rep w' R (K t') FR' ∧ ∀ k, FR' k → FR k ∨ w.heap.size ≤ k

theorem plug_self (w : World) (R : Nat) (FR : Nat → Prop) : Plug w R FR R FR id :=
  ⟨fun _ h => h, fun w' t' F' h _ hF => ⟨F', h, hF⟩⟩
end Go.Proofs.Qxb6600609a
