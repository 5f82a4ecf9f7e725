/-
  A MAP KEYED BY STRINGS, AS A FUNCTION: 'MapFn w b f': block b is a map whose entries' keys are strings, and which holds 'f s' at the key s. What a look-up and a store do to it. Over whatever program.
-/
import Derived.WalkKit
import Derived.Below
import Derived.Maps.OwnOps
import Derived.Maps.OwnSet
namespace Go.Proofs.Qxb6600609a
open Go.RowKit

def valOf (s : ByteArray) : List MapEntry → Option Value
  | [] => none
  | e :: r => match e.key with
    | .string t => if t = s then some e.val else valOf s r
    | _ => valOf s r

def StrKeys (l : List MapEntry) : Prop := ∀ e ∈ l, ∃ s, e.key = .string s

def MapFn (w : World) (b : Nat) (f : ByteArray → Option Value) : Prop :=
  ∃ es clock, w.heap[b]? = some (.map es clock) ∧ StrKeys es.toList ∧ ∀ s, valOf s es.toList = f s

theorem valOf_cons {s t : ByteArray} {e : MapEntry} {r : List MapEntry} (h : e.key = .string t) : valOf s (e :: r) = if t = s then some e.val else valOf s r := by
  simp [valOf, h]

theorem bytes_ext {a b : ByteArray} (h : a.toList = b.toList) : a = b := by
  rw [ByteArray.toList_eq, ByteArray.toList_eq] at h
  obtain ⟨⟨x⟩⟩ := a
  obtain ⟨⟨y⟩⟩ := b
  simp at h
  rw [h]

theorem beq_str (a b : ByteArray) : (a == b) = decide (a = b) := by
  rw [beq_toListBytes]
  by_cases h : a = b
  · subst h; simp
  · rw [decide_eq_false h]
    have : ¬ a.toList = b.toList := fun e => h (bytes_ext e)
    simpa using this

theorem find_str (s : ByteArray) (l : List MapEntry) (h : StrKeys l) (i : Nat) :
    (valOf s l = none ∧ Instr.findNow .string (.string s) l i = some none) ∨
    ∃ j e, l[j]? = some e ∧ e.key = .string s ∧ valOf s l = some e.val ∧ Instr.findNow .string (.string s) l i = some (some (i + j, e.val)) ∧ ∀ v : Value, ∀ s', valOf s' (l.modify j fun e => { e with key := .string s, val := v }) = if s' = s then some v else valOf s' l := by
  induction l generalizing i with
  | nil => exact .inl ⟨rfl, rfl⟩
  | cons e r ih =>
    obtain ⟨t, ht⟩ := h e (List.mem_cons_self)
    have hr : StrKeys r := fun x hx => h x (List.mem_cons_of_mem _ hx)
    rw [valOf_cons ht]
    by_cases c : t = s
    · subst c
      right
      refine ⟨0, e, rfl, ht, by simp, ?_, fun v s' => ?_⟩
      · have : (t == t) = true := by rw [beq_str]; simp
        simp [Instr.findNow, ht, Instr.sameNow, this]
      · rw [List.modify_zero_cons, valOf_cons rfl, valOf_cons ht]
        by_cases c' : s' = t
        · subst c'; simp
        · rw [if_neg c', if_neg (fun h => c' h.symm), if_neg (fun h => c' h.symm)]
    · rw [if_neg c]
      have hn : ∀ i, Instr.findNow .string (.string s) (e :: r) i = Instr.findNow .string (.string s) r (i + 1) := by
        intro i
        have : (s == t) = false := by rw [beq_str]; exact decide_eq_false (fun h => c h.symm)
        simp [Instr.findNow, ht, Instr.sameNow, this]
      rcases ih hr (i + 1) with ⟨h1, h2⟩ | ⟨j, x, h1, h2, h3, h4, h5⟩
      · exact .inl ⟨h1, by rw [hn]; exact h2⟩
      · refine .inr ⟨j + 1, x, by simpa using h1, h2, h3, ?_, fun v s' => ?_⟩
        · rw [hn, h4]; congr 3; omega
        · rw [List.modify_succ_cons, valOf_cons ht, valOf_cons ht, h5]
          by_cases c' : s' = s
          · subst c'; rw [if_neg c]; simp
          · rw [if_neg c', if_neg c']

theorem valOf_snoc (l : List MapEntry) (h : StrKeys l) (s : ByteArray) (x : MapEntry) (hx : x.key = .string s) (hn : valOf s l = none) (s' : ByteArray) :
    valOf s' (l ++ [x]) = if s' = s then some x.val else valOf s' l := by
  induction l with
  | nil =>
    rw [List.nil_append, valOf_cons hx]
    by_cases c : s' = s
    · subst c; simp
    · rw [if_neg (fun h => c h.symm), if_neg c]
  | cons e r ih =>
    obtain ⟨t, ht⟩ := h e (List.mem_cons_self)
    rw [valOf_cons ht] at hn
    have ct : t ≠ s := by
      intro c
      rw [if_pos c] at hn
      cases hn
    rw [if_neg ct] at hn
    rw [List.cons_append, valOf_cons ht, valOf_cons ht, ih (fun x hx => h x (List.mem_cons_of_mem _ hx)) hn]
    by_cases c : s' = s
    · subst c; rw [if_neg ct]; simp
    · rw [if_neg c, if_neg c]

section
variable {P : Program} {w : World} {b : Nat} {f : ByteArray → Option Value} {t k e : TypeId}

theorem MapFn.look (h : MapFn w b f) (ht : P.underlying t = some (.map k e)) (hk : P.underlying k = some .string) {z : Value} (hz : (zeroValue e).run P w = .ok z w) (s : ByteArray) :
    (Instr.lookup t (.map (some b)) (.string s) true).run P w = .ok (.tuple #[(f s).getD z, .bool (f s).isSome]) w := by
  obtain ⟨es, clock, hb, hs, hf⟩ := h
  have hc : ∀ x, (Instr.checkKey x 10000 k (.string s)).run P w = .ok () w := fun x => MapKept.run_checkKey hk (d := .string) (k := .string s) trivial x 9999
  rw [← hf s]
  rcases find_str s es.toList hs 0 with ⟨h1, h2⟩ | ⟨j, x, h1, h2, h3, h4, _⟩
  · simp [Instr.lookup, run_underlying ht, MapKept.run_getObj_map hb, hc, MapKept.run_findKey hk h2, h1, hz, Result.andThen]
  · simp [Instr.lookup, run_underlying ht, MapKept.run_getObj_map hb, hc, MapKept.run_findKey hk h4, h3, Result.andThen]

theorem MapFn.update (h : MapFn w b f) (ht : P.underlying t = some (.map k e)) (hk : P.underlying k = some .string) (s : ByteArray) (v : Value) :
    ∃ w', (Instr.mapUpdate t (.map (some b)) (.string s) v).run P w = .ok () w' ∧ MapFn w' b (fun s' => if s' = s then some v else f s') ∧ w.grownBy w' (some b) := by
  obtain ⟨es, clock, hb, hs, hf⟩ := h
  have hc : ∀ x, (Instr.checkKey x 10000 k (.string s)).run P w = .ok () w := fun x => MapKept.run_checkKey hk (d := .string) (k := .string s) trivial x 9999
  have hgrow : ∀ o, w.grownBy { w with heap := w.heap.setIfInBounds b o } (some b) := fun o =>
    ⟨rfl, rfl, rfl, by simp, fun j _ hj => (MapKept.heap_set hb).2 j (fun e => hj (by rw [e]))⟩
  rcases find_str s es.toList hs 0 with ⟨h1, h2⟩ | ⟨j, x, h1, h2, h3, h4, h5⟩
  · refine ⟨{ w with heap := w.heap.setIfInBounds b (.map (es.push { key := .string s, val := v, born := clock }) (clock + 1)) }, by simp only [Instr.mapUpdate, Sem.run_bind, run_underlying ht, MapKept.run_getObj_map hb, hc, MapKept.run_findKey hk h2, MapKept.run_setObj_map _ hb, Result.andThen], ?_, hgrow _⟩
    refine ⟨_, _, (MapKept.heap_set hb).1, ?_, fun s' => ?_⟩
    · intro y hy
      simp only [Array.toList_push, List.mem_append, List.mem_singleton] at hy
      rcases hy with hy | rfl
      · exact hs y hy
      · exact ⟨s, rfl⟩
    · rw [Array.toList_push, valOf_snoc es.toList hs s _ rfl h1, hf]
  · have hj : es[j]? = some x := by rw [← h1]; simp
    refine ⟨{ w with heap := w.heap.setIfInBounds b (.map (es.modify j fun e => { e with key := .string s, val := v }) clock) }, by simp only [Instr.mapUpdate, Sem.run_bind, run_underlying ht, MapKept.run_getObj_map hb, hc, MapKept.run_findKey hk h4, Nat.zero_add, hj, Option.map_some, Option.getD_some, h2, MapKept.run_keyThatStays (d := .string) (k := .string s) trivial, MapKept.run_setObj_map _ hb, Result.andThen], ?_, hgrow _⟩
    refine ⟨_, _, (MapKept.heap_set hb).1, ?_, fun s' => ?_⟩
    · intro y hy
      rw [Array.toList_modify] at hy
      obtain ⟨i, hi⟩ := List.getElem?_of_mem hy
      rw [List.getElem?_modify] at hi
      obtain ⟨z, hz, rfl⟩ := Option.map_eq_some_iff.1 hi
      by_cases c : j = i
      · exact ⟨s, by simp [c]⟩
      · obtain ⟨u, hu⟩ := hs z (List.mem_of_getElem? hz)
        exact ⟨u, by simpa [c] using hu⟩
    · rw [Array.toList_modify, h5, hf]

theorem MapFn.made (w : World) : MapFn (w.alloc (.map #[] 0)) w.heap.size (fun _ => none) :=
  ⟨#[], 0, (MapKept.heap_alloc w _).1, fun _ h => by simp at h, fun _ => rfl⟩

theorem MapFn.same {w' : World} (h : MapFn w b f) (e : w'.heap[b]? = w.heap[b]?) : MapFn w' b f := by
  obtain ⟨es, clock, hb, h2⟩ := h
  exact ⟨es, clock, e.trans hb, h2⟩

theorem MapFn.lt (h : MapFn w b f) : b < w.heap.size := by
  obtain ⟨es, clock, hb, _⟩ := h
  exact (Array.getElem?_eq_some_iff.1 hb).1
end

/-- 'm[s] = v' AT THE OPERATION. -/
theorem wpList_mapUpdate_fn {P : Program} (w : World) {ops : Array Oper} {rest : List Oper} {o : Oper} {a : Act} {Q : Exit → Act → World → Prop}
    (hg : o.guard = none) (m x v : Operand) (t : TypeId) (hop : o.op = Op.mapUpdate t m x v)
    (k e : TypeId) (ht : P.underlying t = some (.map k e)) (hk : P.underlying k = some .string) (b : Nat) (f : ByteArray → Option Value)
    (hm : a.eval m = .map (some b)) (hown : MapFn w b f) (s : ByteArray) (val : Value) (hx : a.eval x = .string s) (hv : a.eval v = val)
    (hK : ∀ w', MapFn w' b (fun s' => if s' = s then some val else f s') → w.grownBy w' (some b) → wpList P ops Q rest (a.put o.dst undef) w') :
    wpList P ops Q (o :: rest) a w := by
  refine wpList_plain hg fun K' hK' => ?_
  obtain ⟨w', hrun, r1, r2⟩ := hown.update ht hk s val
  unfold Oper.wp
  simp [execOp, hop, hm, hx, hv, hrun, Result.andThen]
  exact hK' _ _ (hK w' r1 r2)
end Go.Proofs.Qxb6600609a
