/-
  The law's memory while the text is built: the text, where the numbers begin and where they end.
-/
import Derived.Test.Qxb6600608aIntText
import Derived.Test.Qxb6600608aRead
import Derived.Test.Qxb6600608aMore
namespace Go.Proofs.Qxb6600608a
open Go.RowKit
open Plain
set_option linter.unusedVariables false

/-- The n ints f 0, f 1, .. lie in block S. -/
structure IntRow (w : World) (S n : Nat) (f : Nat → Nat) : Prop where
  cell : ∀ j, j < n → w.cell? ⟨S, j, none⟩ = some (.int .i64 (f j : Int))
  free : ∀ j, w.frozen? ⟨S, j, none⟩ = false
  lt : S < w.heap.size
theorem IntRow.same {w w' : World} {S n : Nat} {f : Nat → Nat} (h : IntRow w S n f) (e : w'.heap[S]? = w.heap[S]?) (hs : w.heap.size ≤ w'.heap.size) : IntRow w' S n f :=
  ⟨fun j hj => by rw [World.cell?_of_block (w := w) (a := ⟨S, j, none⟩) e]; exact h.cell j hj, fun j => by rw [World.frozen?_of_block (w := w) (a := ⟨S, j, none⟩) e]; exact h.free j, Nat.lt_of_lt_of_le h.lt hs⟩
/-- f with x at k. -/
def put (f : Nat → Nat) (k x : Nat) : Nat → Nat := fun j => if j = k then x else f j
theorem IntRow.set {w : World} {S n : Nat} {f : Nat → Nat} (h : IntRow w S n f) {k : Nat} (hk : k < n) (x : Nat) : IntRow (w.setCell ⟨S, k, none⟩ (.int .i64 (x : Int))) S n (put f k x) := by
  refine ⟨fun j hj => ?_, fun j => by rw [World.frozen?_setCell]; exact h.free j, by simpa using h.lt⟩
  unfold put
  by_cases e : j = k
  · subst e; rw [if_pos rfl]; exact World.cell?_setCell_same _ _ _ (h.cell j hj)
  · rw [if_neg e, World.cell?_setCell_other _ _ _ _ (by intro e'; injection e'; omega)]; exact h.cell j hj

structure St (w0 w : World) (T S N n cap : Nat) (xs : List Int) (f g : Nat → Nat) : Prop where
  txt : Txt w T cap xs
  st : IntRow w S n f
  en : IntRow w N n g
  upd : Upd (fun j => j = T ∨ j = S ∨ j = N) w0 w
  ts : T ≠ S
  tn : T ≠ N
  sn : S ≠ N

section
variable {w0 w w' : World} {T S N n cap : Nat} {xs ys : List Int} {f g : Nat → Nat}
theorem Txt.lt (h : Txt w T cap xs) : T < w.heap.size := (World.ownsRow.lt h T rfl).2
theorem St.app (h : St w0 w T S N n cap xs f g) (hu : Upd (fun k => k = T) w w') (ht : Txt w' T cap (xs ++ ys)) : St w0 w' T S N n cap (xs ++ ys) f g :=
  ⟨ht, h.st.same (hu.block S h.st.lt (Ne.symm h.ts)) hu.size, h.en.same (hu.block N h.en.lt (Ne.symm h.tn)) hu.size, h.upd.trans (hu.mono fun _ e => .inl e), h.ts, h.tn, h.sn⟩
/-- An append written in the law's own text. -/
theorem St.more (h : St w0 w T S N n cap xs f g) {L m : Nat} {news : List Value} {o : Obj} (hL : L = xs.length) (own : w'.ownsRow T 5 1 (.slice (some ⟨T, 0, none⟩) (L + m) cap) (L + m) (xs.map (Value.int .u8) ++ news)) (gr : (w.alloc o).grownBy w' (some T)) (hm : m = ys.length) (hy : news = ys.map (Value.int .u8)) : St w0 w' T S N n cap (xs ++ ys) f g :=
  h.app (((Upd.refl _ w).alloc _).grown gr rfl) (Txt.app hL own hm hy)
theorem txt_set {D k : Nat} {v : Value} (h : Txt w T cap xs) (hD : T ≠ D) : Txt (w.setCell ⟨D, k, none⟩ v) T cap xs := by
  refine World.ownsRow.kept (row := some D) h ⟨rfl, rfl, rfl, by simp, fun k _ hk => Below.heap_setCell w _ _ k (fun e => hk (by rw [e]))⟩ (.inr ?_)
  intro e
  simp [Value.ownBlock] at e
  exact hD e
theorem St.setS (h : St w0 w T S N n cap xs f g) {k : Nat} (hk : k < n) (x : Nat) : St w0 (w.setCell ⟨S, k, none⟩ (.int .i64 (x : Int))) T S N n cap xs (put f k x) g :=
  ⟨txt_set h.txt h.ts, h.st.set hk x, h.en.same (Below.heap_setCell w _ _ N (Ne.symm h.sn)) (by simp), h.upd.set (.inr (.inl rfl)) _, h.ts, h.tn, h.sn⟩
theorem St.setN (h : St w0 w T S N n cap xs f g) {k : Nat} (hk : k < n) (x : Nat) : St w0 (w.setCell ⟨N, k, none⟩ (.int .i64 (x : Int))) T S N n cap xs f (put g k x) :=
  ⟨txt_set h.txt h.tn, h.st.same (Below.heap_setCell w _ _ S h.sn) (by simp), h.en.set hk x, h.upd.set (.inr (.inr rfl)) _, h.ts, h.tn, h.sn⟩
end

/-- What is built behind k rounds. -/
def Built (n k : Nat) (xs : List Int) (f g : Nat → Nat) (its : List Itm) : Prop :=
  its.length = k ∧ xs = 91 :: lays n 0 its ∧ xs.length ≤ 1 + 35 * k ∧ (∀ it ∈ its, it.Ok) ∧ Marks n f g 1 0 its

theorem isNum_of {ds : List Int} (h : IsInt ds) (t1 t2 : Bool) : IsNum (ds ++ ((if t1 then [46, 50, 53] else []) ++ (if t2 then [69, 45, 48, 55] else []))) ∧ ds.length ≤ 21 := by
  obtain ⟨sg, D, rfl, hs, hD, hl, hd, hz⟩ := h
  refine ⟨⟨sg, D, if t1 then [46, 50, 53] else [], if t2 then [69, 45, 48, 55] else [], by rw [List.append_assoc], hs, hD, hd, hz, ?_, ?_⟩, ?_⟩
  · cases t1
    · exact .inl rfl
    · exact .inr rfl
  · cases t2
    · exact .inl rfl
    · exact .inr rfl
  · rw [List.length_append]
    rcases hs with rfl | rfl <;> simp <;> omega

theorem qm_len (q : Bool) : (qm q).length ≤ 1 := by cases q <;> decide
theorem sep_len (q : Bool) : (sep q).length ≤ 1 := by cases q <;> decide

theorem Built.snoc {n k : Nat} {xs : List Int} {f g : Nat → Nat} {its : List Itm} (h : Built n k xs f g its) {s1 s2 ds : List Int} {q t1 t2 : Bool} (h1 : ∀ y ∈ s1, isSp y = true) (l1 : s1.length ≤ 2) (h2 : ∀ y ∈ s2, isSp y = true) (l2 : s2.length ≤ 2) (hd : IsInt ds)
    {F E : List Int} (hF : F = if t1 then [46, 50, 53] else []) (hE : E = if t2 then [69, 45, 48, 55] else []) {a c : Nat} (ha : a = (xs ++ s1 ++ qm q).length) (hc : c = (xs ++ s1 ++ qm q ++ ds ++ F ++ E).length) :
    ∃ it, Built n (k + 1) (xs ++ s1 ++ qm q ++ ds ++ F ++ E ++ qm q ++ s2 ++ sep (decide (k + 1 < n))) (put f k a) (put g k c) (its ++ [it]) := by
  obtain ⟨hk, hx, hl, hok, hm⟩ := h
  obtain ⟨hN, hdl⟩ := isNum_of hd t1 t2
  rw [← hF, ← hE] at hN
  refine ⟨⟨s1, q, ds ++ (F ++ E), s2⟩, by rw [List.length_append, hk]; rfl, ?_, ?_, ?_, ?_⟩
  · rw [lays_snoc, Itm.lay, hk, hx, Nat.zero_add]
    simp only [List.cons_append, List.append_assoc]
  · have hFl : F.length ≤ 3 := by rw [hF]; cases t1 <;> decide
    have hEl : E.length ≤ 4 := by rw [hE]; cases t2 <;> decide
    have := qm_len q
    have := sep_len (decide (k + 1 < n))
    simp only [List.length_append]
    omega
  · intro it hit
    rcases List.mem_append.1 hit with h | h
    · exact hok it h
    · rw [List.mem_singleton.1 h]; exact ⟨h1, hN, h2⟩
  · refine Marks.snoc (hm.congr (fun j hj => ?_) (fun j hj => ?_)) ?_ ?_
    · unfold put; rw [if_neg (by omega)]
    · unfold put; rw [if_neg (by omega)]
    · unfold put
      rw [hk, Nat.zero_add, if_pos rfl, ha, hx]
      simp only [List.length_append, List.length_cons]
      omega
    · unfold put
      rw [hk, Nat.zero_add, if_pos rfl, if_pos rfl, ha, hc]
      simp only [List.length_append]
      omega

/-- The text is whole: it is ready to be read. -/
theorem Built.ready {n : Nat} {xs : List Int} {f g : Nat → Nat} {its : List Itm} (h : Built n n xs f g its) : Rd (fun j => (xs ++ [10, 9] ++ [93]).getD j 0) (xs ++ [10, 9] ++ [93]).length n f g 1 0 true its := by
  obtain ⟨hk, hx, hl, hok, hm⟩ := h
  refine ⟨by omega, hok, [], by simp, fun _ => rfl, ?_, ?_, ?_⟩
  · have := lies_own [91] (lays n 0 its ++ [10, 9, 93])
    simp only [Bool.not_true, Bool.false_and, sep, Bool.false_eq_true, if_false, List.nil_append]
    rw [hx]
    simp only [List.cons_append, List.append_assoc, List.nil_append] at this ⊢
    exact this
  · rw [hx]
    simp [sep]
    omega
  · simp [sep]; exact hm
end Go.Proofs.Qxb6600608a
