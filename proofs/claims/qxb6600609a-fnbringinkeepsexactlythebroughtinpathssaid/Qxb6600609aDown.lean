/-
  The walk of 'bringIn' down the tree, step by step, without the Go.
-/
import Derived.Test.Qxb6600609aPlug
namespace Go.Proofs.Qxb6600609a
open Go.RowKit
open Plain
set_option linter.unusedVariables false

/-- The strings ps lie at a. -/
def Strs (w : World) (a : Option Addr) (ps : List ByteArray) : Prop :=
  ∀ j, j < ps.length → ∃ B o, a = some ⟨B, o, none⟩ ∧ w.cell? ⟨B, o + j, none⟩ = some (.string (ps.getD j ByteArray.empty))
theorem Strs.upd {w w' : World} {a : Option Addr} {ps : List ByteArray} {F : Nat → Prop} (h : Strs w a ps) (hu : Upd F w w') (hF : ∀ x, a = some x → ¬ F x.block) : Strs w' a ps := by
  intro j hj
  obtain ⟨B, o, ha, hc⟩ := h j hj
  refine ⟨B, o, ha, ?_⟩
  rw [World.cell?_of_block (w := w) (a := ⟨B, o + j, none⟩) (hu.block B (World.block_lt_of_cell? _ _ hc) (hF _ ha))]
  exact hc

theorem drop_at (ps : List ByteArray) (i : Nat) (h : i < ps.length) : ps.drop i = ps.getD i ByteArray.empty :: ps.drop (i + 1) := by
  rw [List.drop_eq_getElem_cons h]
  simp [List.getD, h]

/-- What 'bringIn' leaves. -/
def BringPost (R : Nat) (T : Tree) (FR : Nat → Prop) (w : World) (e : Ending) (w' : World) : Prop :=
  e = .returned (.tuple #[]) ∧ ∃ FR', Rep w' R T FR' ∧ (∀ k, FR' k → FR k ∨ w.heap.size ≤ k) ∧ Upd FR w w'

/-- The walk's state ahead of step i. -/
structure Down (w wr : World) (R : Nat) (T : Tree) (FR : Nat → Prop) (ps : List ByteArray) (i s : Nat) (t : Tree) (F FR1 : Nat → Prop) (K : Tree → Tree) : Prop where
  rep : Rep wr s t F
  plug : Plug wr R FR1 s F K
  fr : ∀ k, FR1 k → FR k ∨ w.heap.size ≤ k
  upd : Upd FR w wr
  law : K (bring (ps.drop i) t) = bring ps T

section
variable {w wr : World} {R : Nat} {T : Tree} {FR : Nat → Prop} {ps : List ByteArray} {i s : Nat} {F FR1 : Nat → Prop} {K : Tree → Tree}
  {r : Bool} {m : ByteArray → Option (Option Tree)} {mv : Option Nat} {ptr : ByteArray → Nat} {G : ByteArray → Nat → Prop}

theorem Down.done {t : Tree} (h : Down w wr R T FR ps i s t F FR1 K) (hb : bring (ps.drop i) t = t) : BringPost R (bring ps T) FR w (.returned (.tuple #[])) wr := by
  obtain ⟨FR', h1, h2⟩ := h.plug.2 wr t F h.rep (Upd.refl _ _) (fun k hk => .inl hk)
  have hl := h.law
  rw [hb] at hl
  rw [hl] at h1
  refine ⟨rfl, FR', h1, fun k hk => ?_, h.upd⟩
  rcases h2 k hk with g | g
  · exact h.fr k g
  · exact .inr (Nat.le_trans h.upd.size g)

theorem Open.named (o : Open wr s r m F mv ptr G) (b : Bool) (x : ByteArray) :
    Calls Try.prog 24 #[.pointer (some ⟨s, 0, none⟩), .string x, .pointer (some ⟨wr.heap.size, 0, none⟩)] (wr.alloc (.cells #[.bool b, .map none] 46))
      (NamePost s r mv (pv ptr m) x (.pointer (some ⟨wr.heap.size, 0, none⟩)) (wr.alloc (.cells #[.bool b, .map none] 46))) := by
  have hu : Upd (fun _ => False) wr (wr.alloc (.cells #[.bool b, .map none] 46)) := (Upd.refl _ wr).alloc _
  refine name_any s r mv _ x _ _ (o.hn.same (hu.block s (o.hlt s o.hB) id)) (o.hm.same fun M e => hu.block M (o.hlt M (o.hM M e).1) id) (fun e => (o.hM s e).2 rfl)

/-- One step down. -/
theorem Down.down {c : Tree} (h : Down w wr R T FR ps i s (.node r m) F FR1 K) (o : Open wr s r m F mv ptr G) (hi : i < ps.length) (hl : ps.drop (i + 1) ≠ [])
    (hx : m (ps.getD i ByteArray.empty) = some (some c)) :
    ∃ F' FR1' K', Down w wr R T FR ps (i + 1) (ptr (ps.getD i ByteArray.empty)) c F' FR1' K' := by
  refine ⟨_, _, _, o.kids _ _ hx, plug_down h.plug o hx, h.fr, h.upd, ?_⟩
  rw [← h.law, drop_at ps i hi, bring, hx]
  simp only [if_neg hl]

/-- A new member, and the step into it. -/
theorem Down.fresh {b : Bool} {e : Ending} {w2 : World} (h : Down w wr R T FR ps i s (.node r m) F FR1 K) (o : Open wr s r m F mv ptr G) (hi : i < ps.length)
    (hb : (b = true ∧ ps.drop (i + 1) = []) ∨ (b = false ∧ ps.drop (i + 1) ≠ [] ∧ ∀ c, m (ps.getD i ByteArray.empty) ≠ some (some c)))
    (hr : m (ps.getD i ByteArray.empty) = none → r = false)
    (hp : NamePost s r mv (pv ptr m) (ps.getD i ByteArray.empty) (.pointer (some ⟨wr.heap.size, 0, none⟩)) (wr.alloc (.cells #[.bool b, .map none] 46)) e w2) :
    ∃ F' FR1' K', Down w w2 R T FR ps (i + 1) wr.heap.size (leaf b) F' FR1' K' := by
  obtain ⟨_, mv', hn2, hm2, hu2, hmv⟩ := hp
  have hsz : (wr.alloc (.cells #[.bool b, .map none] 46)).heap.size = wr.heap.size + 1 := by simp
  have hu1 : Upd (fun k => k = s ∨ mv = some k) wr (wr.alloc (.cells #[.bool b, .map none] 46)) := (Upd.refl _ wr).alloc _
  have hu : Upd (fun k => k = s ∨ mv = some k) wr w2 := hu1.trans hu2
  have hs2 := hu2.size
  rw [hsz] at hs2 hmv
  have hsl := o.hlt s o.hB
  have hleaf : NodeAt w2 wr.heap.size b none := (node_made wr b 46).same (hu2.block _ (by rw [hsz]; omega) (by
    rintro (e | e)
    · omega
    · have := o.hlt _ (o.hM _ e).1; omega))
  refine ⟨_, _, _, rep_leaf hleaf, plug_new h.plug o rfl (by omega) hn2 hm2 hu (by
    rcases hmv with e | ⟨M, e, h1, h2⟩
    · exact .inl e
    · exact .inr ⟨M, e, by omega, h2⟩), ?_, ?_, ?_⟩
  · rintro k (hk | hk)
    · exact h.fr k hk
    · exact .inr (Nat.le_trans h.upd.size hk)
  · refine h.upd.comp hu ?_
    rintro k (rfl | hk)
    · exact h.fr _ (h.plug.1 _ o.hB)
    · exact h.fr _ (h.plug.1 _ (o.hM _ hk).1)
  · rw [← h.law, drop_at ps i hi]
    congr 1
    rw [bring]
    rcases hb with ⟨rfl, he⟩ | ⟨rfl, he, hc⟩
    · rw [he]
      cases hx : m (ps.getD i ByteArray.empty) with
      | none =>
        simp only [hr hx, Bool.false_eq_true, if_false, if_true]
        rfl
      | some q => cases q <;> rfl
    · cases hx : m (ps.getD i ByteArray.empty) with
      | none => simp only [hr hx, Bool.false_eq_true, if_false, if_neg he]
      | some q =>
        cases q with
        | none => simp only [if_neg he]
        | some c => exact absurd hx (hc c)
end
end Go.Proofs.Qxb6600609a
