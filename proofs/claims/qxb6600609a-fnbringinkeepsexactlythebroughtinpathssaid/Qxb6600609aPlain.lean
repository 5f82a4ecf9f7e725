/-
  THE PLAIN LAW: trees of selections; what is brought in is kept. No Go in sight.
-/
namespace Go.Proofs.Qxb6600609a.Plain

/-- A selection: does it keep the rest; its named members (left out, or a selection). -/
inductive Tree where
  | node (rest : Bool) (mem : ByteArray → Option (Option Tree))

def Tree.rest : Tree → Bool
  | .node r _ => r
def Tree.mem : Tree → ByteArray → Option (Option Tree)
  | .node _ m => m

/-- f with v at x. -/
def at' {α : Type} (f : ByteArray → Option α) (x : ByteArray) (v : α) : ByteArray → Option α := fun y => if y = x then some v else f y
theorem at_same {α : Type} (f : ByteArray → Option α) (x : ByteArray) (v : α) : at' f x v x = some v := by simp [at']
theorem at_other {α : Type} (f : ByteArray → Option α) {x y : ByteArray} (v : α) (h : y ≠ x) : at' f x v y = f y := by simp [at', h]

def none' : ByteArray → Option (Option Tree) := fun _ => none
def leaf (r : Bool) : Tree := .node r none'

/-- 'bringIn' -/
def bring : List ByteArray → Tree → Tree
  | [], t => t
  | x :: p, .node r m =>
    match m x with
    | none => if r = true then .node r m else .node r (at' m x (some (if p = [] then leaf true else bring p (leaf false))))
    | some none => .node r (at' m x (some (if p = [] then leaf true else bring p (leaf false))))
    | some (some c) => .node r (at' m x (some (if p = [] then leaf true else bring p c)))

open Classical in
/-- 'zzqKeptWhole' -/
noncomputable def kept : List ByteArray → Tree → Bool
  | [], .node r m => r && decide (∀ y, m y = none)
  | x :: q, .node r m =>
    match m x with
    | none => r
    | some none => false
    | some (some c) => kept q c

/-- A selection that keeps the rest and has no members, or keeps nothing but its members: and so are its members. -/
inductive Wf : Tree → Prop
  | mk (r : Bool) (m : ByteArray → Option (Option Tree)) (h : r = true → ∀ y, m y = none) (k : ∀ y c, m y = some (some c) → Wf c) : Wf (.node r m)
/-- The members are such. -/
def Kids (t : Tree) : Prop := ∀ y c, t.mem y = some (some c) → Wf c

theorem wf_leaf (r : Bool) : Wf (leaf r) := .mk r _ (fun _ _ => rfl) (fun _ _ h => by cases h)
theorem Wf.kids {t : Tree} (h : Wf t) : Kids t := by
  cases h with
  | mk r m h k => exact k

theorem bring_rest (p : List ByteArray) (t : Tree) : (bring p t).rest = t.rest := by
  cases t with
  | node r m =>
    cases p with
    | nil => rfl
    | cons x p =>
      rw [bring]
      split
      · split <;> rfl
      · rfl
      · rfl

theorem bring_wf (p : List ByteArray) (t : Tree) (h : Wf t) : Wf (bring p t) := by
  induction p generalizing t with
  | nil => exact h
  | cons x p ih =>
    cases h with
    | mk r m h k =>
      have key : ∀ c, Wf c → r ≠ true → Wf (.node r (at' m x (some c))) := by
        intro c hc hr
        refine .mk _ _ (fun e => absurd e hr) (fun y c' hy => ?_)
        by_cases e : y = x
        · subst e; rw [at_same] at hy; cases hy; exact hc
        · rw [at_other _ _ e] at hy; exact k y c' hy
      have hn : ∀ c, Wf c → Wf (if p = [] then leaf true else bring p c) := by
        intro c hc
        split
        · exact wf_leaf true
        · exact ih c hc
      rw [bring]
      split
      · rename_i hx
        split
        · exact .mk r m h k
        · rename_i hr; exact key _ (hn _ (wf_leaf false)) hr
      · rename_i hx
        exact key _ (hn _ (wf_leaf false)) (fun e => by rw [h e x] at hx; cases hx)
      · rename_i c hx
        exact key _ (hn _ (k x c hx)) (fun e => by rw [h e x] at hx; cases hx)

theorem bring_kids (p : List ByteArray) (t : Tree) (h : Kids t) : Kids (bring p t) := by
  cases t with
  | node r m =>
    cases p with
    | nil => exact h
    | cons x p =>
      have key : ∀ c, Wf c → Kids (.node r (at' m x (some c))) := by
        intro c hc y c' hy
        change at' m x (some c) y = some (some c') at hy
        by_cases e : y = x
        · subst e; rw [at_same] at hy; cases hy; exact hc
        · rw [at_other _ _ e] at hy; exact h y c' hy
      have hn : ∀ c, Wf c → Wf (if p = [] then leaf true else bring p c) := by
        intro c hc
        split
        · exact wf_leaf true
        · exact bring_wf p c hc
      rw [bring]
      split
      · split
        · exact h
        · exact key _ (hn _ (wf_leaf false))
      · exact key _ (hn _ (wf_leaf false))
      · rename_i c hx
        exact key _ (hn _ (h x c hx))

/-- p begins q. -/
def begins : List ByteArray → List ByteArray → Bool
  | [], _ => true
  | _ :: _, [] => false
  | x :: p, y :: q => decide (x = y) && begins p q

theorem kept_leaf (r : Bool) (q : List ByteArray) : kept q (leaf r) = r := by
  cases q with
  | nil => simp [leaf, kept, none']
  | cons y q => simp [leaf, kept, none']

/-- The heart: what one path brings in. -/
theorem kept_bring (p : List ByteArray) (hp : p ≠ []) (q : List ByteArray) (t : Tree) (h : Wf t ∨ (q ≠ [] ∧ Kids t)) : kept q (bring p t) = (kept q t || begins p q) := by
  induction p generalizing q t with
  | nil => exact absurd rfl hp
  | cons x p ih =>
    have hkids : Kids t := h.elim Wf.kids And.right
    cases t with
    | node r m =>
      cases q with
      | nil =>
        have hw : Wf (.node r m) := h.elim id (fun e => absurd rfl e.1)
        rw [begins, Bool.or_false]
        cases hw with
        | mk _ _ h0 k0 =>
          cases hrr : r with
          | true =>
            have hx : m x = none := h0 hrr x
            rw [bring, hx]
            simp
          | false =>
            have e1 : ∀ t : Tree, t.rest = false → kept [] t = false := by
              intro t ht
              cases t with
              | node r' m' => simp only [Tree.rest] at ht; subst ht; simp [kept]
            rw [e1 (bring (x :: p) (.node false m)) (by rw [bring_rest]; rfl), e1 (.node false m) rfl]
      | cons y q =>
        have hdone : ∀ c, Wf c → kept q (if p = [] then leaf true else bring p c) = (kept q c || begins p q) := by
          intro c hc
          by_cases e : p = []
          · rw [if_pos e, e, begins, Bool.or_true]; exact kept_leaf true q
          · rw [if_neg e]; exact ih e q c (.inl hc)
        by_cases e : y = x
        · subst e
          have hb : begins (y :: p) (y :: q) = begins p q := by simp [begins]
          rw [hb, bring]
          cases hm : m y with
          | none =>
            cases hr : r with
            | true => simp [kept, hm]
            | false =>
              simp only [Bool.false_eq_true, if_false]
              rw [kept, at_same]
              simp only [kept, hm]
              rw [hdone _ (wf_leaf false), kept_leaf]
          | some o =>
            cases o with
            | none =>
              simp only
              rw [kept, at_same]
              simp only [kept, hm]
              rw [hdone _ (wf_leaf false), kept_leaf]
            | some c =>
              simp only
              rw [kept, at_same]
              simp only [kept, hm]
              exact hdone _ (hkids y c hm)
        · have hb : begins (x :: p) (y :: q) = false := by simp [begins, Ne.symm e]
          rw [hb, Bool.or_false]
          have : ∀ c, kept (y :: q) (.node r (at' m x c)) = kept (y :: q) (.node r m) := by
            intro c
            rw [kept, kept, at_other _ _ e]
          rw [bring]
          split
          · split
            · rfl
            · exact this _
          · exact this _
          · exact this _
end Go.Proofs.Qxb6600609a.Plain
