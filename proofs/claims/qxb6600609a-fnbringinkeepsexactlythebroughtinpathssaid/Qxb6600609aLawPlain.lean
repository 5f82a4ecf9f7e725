/-
  The law's plain side: the start, the paths brought in one after the other, the model.
-/
import Derived.Test.Qxb6600609aPlain
namespace Go.Proofs.Qxb6600609a.Plain
open Classical

/-- 'zzqBuild' -/
noncomputable def start (r : Bool) (L : List ByteArray) : Tree := .node r (fun s => if s ∈ L then some none else none)
theorem start_snoc (r : Bool) (L : List ByteArray) (x : ByteArray) : start r (L ++ [x]) = .node r (at' (fun s => if s ∈ L then some none else none) x none) := by
  unfold start
  congr 1
  funext s
  unfold at'
  by_cases h : s = x
  · subst h; simp
  · simp [h]
theorem start_nil (r : Bool) : start r [] = leaf r := by
  unfold start leaf none'
  congr 1
  funext s
  simp
theorem start_kids (r : Bool) (L : List ByteArray) : Kids (start r L) := by
  intro y c h
  change (if y ∈ L then some none else none) = some (some c) at h
  split at h <;> simp at h

/-- Every path of P is brought in. -/
def brought (t : Tree) (P : List (List ByteArray)) : Tree := P.foldl (fun t p => bring p t) t
theorem brought_snoc (t : Tree) (P : List (List ByteArray)) (p : List ByteArray) : brought t (P ++ [p]) = bring p (brought t P) := by
  unfold brought; rw [List.foldl_append]; rfl
theorem brought_kids (t : Tree) (P : List (List ByteArray)) (h : Kids t) : Kids (brought t P) := by
  induction P generalizing t with
  | nil => exact h
  | cons p P ih => exact ih _ (bring_kids p t h)

/-- Does a path that is not empty begin q? -/
def led (P : List (List ByteArray)) (q : List ByteArray) : Bool := P.any fun p => decide (p ≠ []) && begins p q

theorem kept_brought (t : Tree) (P : List (List ByteArray)) (q : List ByteArray) (hq : q ≠ []) (h : Kids t) : kept q (brought t P) = (kept q t || led P q) := by
  induction P generalizing t with
  | nil => simp [brought, led]
  | cons p P ih =>
    have e : brought t (p :: P) = brought (bring p t) P := rfl
    rw [e, ih _ (bring_kids p t h)]
    unfold led
    rw [List.any_cons]
    by_cases hp : p = []
    · subst hp
      simp [bring]
    · rw [kept_bring p hp q t (.inr ⟨hq, h⟩)]
      simp [hp, Bool.or_assoc]

/-- Are the rest kept, and is q's first name not left out? -/
noncomputable def bare (r : Bool) (L : List ByteArray) : List ByteArray → Bool
  | [] => false
  | y :: _ => r && !decide (y ∈ L)

/-- 'zzqModelKept' -/
noncomputable def model (r : Bool) (L : List ByteArray) (P : List (List ByteArray)) (q : List ByteArray) : Bool := bare r L q || led P q

theorem kept_start (r : Bool) (L : List ByteArray) (q : List ByteArray) (hq : q ≠ []) : kept q (start r L) = bare r L q := by
  cases q with
  | nil => exact absurd rfl hq
  | cons y q =>
    unfold start
    rw [kept, bare]
    by_cases h : y ∈ L
    · simp [h]
    · simp [h]

/-- THE PLAIN LAW -/
theorem kept_model (r : Bool) (L : List ByteArray) (P : List (List ByteArray)) (q : List ByteArray) (hq : q ≠ []) : kept q (brought (start r L) P) = model r L P q := by
  rw [kept_brought _ P q hq (start_kids r L), kept_start r L q hq, model]
end Go.Proofs.Qxb6600609a.Plain
