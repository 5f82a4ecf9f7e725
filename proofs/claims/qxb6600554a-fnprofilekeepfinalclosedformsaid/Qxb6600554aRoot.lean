/-
  THE TREE THAT 'keep' WORKS ON: what its memory holds, said by a list of its blocks; and what one call of 'keep' makes of it.
-/
import Derived.Test.Qxb6600554aKeep
namespace Go.Proofs.Qxb6600554a
open Go.RowKit

structure Kid where
  tag : ByteArray
  blk : Nat
  fin : Int

def seek (st : List Kid) (s : ByteArray) : Option Kid := st.find? fun p => decide (p.tag = s)
def setFin (st : List Kid) (s : ByteArray) (x : Int) : List Kid := st.map fun p => if p.tag = s then { p with fin := x } else p

/-- Blocks outside F, and nothing else of what was there, stay as they were. -/
structure Upd (F : Nat → Prop) (w w' : World) : Prop where
  os : w'.os = w.os
  tape : w'.tape = w.tape
  output : w'.output = w.output
  size : w.heap.size ≤ w'.heap.size
  block : ∀ k, k < w.heap.size → ¬ F k → w'.heap[k]? = w.heap[k]?

theorem Upd.refl (F : Nat → Prop) (w : World) : Upd F w w := ⟨rfl, rfl, rfl, Nat.le_refl _, fun _ _ _ => rfl⟩
theorem Upd.trans {F G : Nat → Prop} {a b c : World} (h : Upd F a b) (k : Upd G b c) (hG : ∀ x, G x → F x ∨ a.heap.size ≤ x) : Upd F a c :=
  ⟨k.os.trans h.os, k.tape.trans h.tape, k.output.trans h.output, Nat.le_trans h.size k.size, fun x hx hF =>
    (k.block x (Nat.lt_of_lt_of_le hx h.size) (fun g => by rcases hG x g with h1 | h1; exact hF h1; omega)).trans (h.block x hx hF)⟩
theorem Upd.grown {F : Nat → Prop} {w w' : World} {row : Option Nat} (h : w.grownBy w' row) (hr : ∀ k, row = some k → F k) : Upd F w w' :=
  ⟨h.os, h.tape, h.output, h.size, fun k hk hF => h.block k hk (fun e => hF (hr k e.symm))⟩
theorem Upd.setCell {F : Nat → Prop} {w : World} {a : Addr} (hF : F a.block) (u : Value) : Upd F w (w.setCell a u) :=
  ⟨rfl, rfl, rfl, by simp, fun k _ hk => Below.heap_setCell w a u k (fun e => hk (e ▸ hF))⟩
theorem Upd.alloc {F : Nat → Prop} (w : World) (o : Obj) : Upd F w (w.alloc o) :=
  ⟨rfl, rfl, rfl, by simp, fun k hk _ => Below.heap_alloc w o k hk⟩
theorem Upd.drewN {F : Nat → Prop} (w : World) (n : Nat) : Upd F w (w.drewN n) := ⟨rfl, rfl, rfl, Nat.le_refl _, fun _ _ _ => rfl⟩
theorem Upd.below {F : Nat → Prop} {w w' : World} {B : Nat} (h : Upd F w w') (hB : B ≤ w.heap.size) (hF : ∀ k, F k → B ≤ k) : Below B w w' :=
  ⟨h.os, h.tape, h.output, h.size, fun k hk => h.block k (by omega) (fun f => by have := hF k f; omega)⟩

structure Root (w : World) (B R M : Nat) (F : Nat → Prop) (v : Value) (st : List Kid) : Prop where
  fR : F R
  fM : F M
  rm : R ≠ M
  low : ∀ k, F k → B ≤ k ∧ k < w.heap.size
  map1 : w.cell? ⟨R, 1, none⟩ = some (.map (some M))
  ord : w.cell? ⟨R, 2, none⟩ = some v
  ofree : w.frozen? ⟨R, 2, none⟩ = false
  own : w.ownsRow B 9 1 v st.length (st.map fun p => .string p.tag)
  oblk : ∀ k, v.ownBlock = some k → F k ∧ k ≠ R ∧ k ≠ M
  mapf : MapFn w M (fun s => (seek st s).map fun p => .pointer (some ⟨p.blk, 0, none⟩))
  kids : ∀ p ∈ st, F p.blk ∧ p.blk ≠ R ∧ p.blk ≠ M ∧ v.ownBlock ≠ some p.blk ∧ w.cell? ⟨p.blk, 3, none⟩ = some (.int .i64 p.fin) ∧ w.frozen? ⟨p.blk, 3, none⟩ = false
  apart : st.Pairwise fun p q => p.blk ≠ q.blk ∧ p.tag ≠ q.tag

theorem own_same {w w' : World} {B : Nat} {e : TypeId} {size : Nat} {v : Value} {n : Nat} {xs : List Value} (h : w.ownsRow B e size v n xs) (hs : ∀ k, v.ownBlock = some k → w'.heap[k]? = w.heap[k]?) : w'.ownsRow B e size v n xs := by
  obtain ⟨h1, h2⟩ := h
  refine ⟨h1, ?_⟩
  rcases h2 with h2 | ⟨g, cap, cur, rfl, h3, h4, h5⟩
  · exact .inl h2
  · exact .inr ⟨g, cap, cur, rfl, h3, (hs g rfl).trans h4, h5⟩

/-- THE FRAME: what does not touch F leaves the tree as it is. -/
theorem Root.same {w w' : World} {B R M : Nat} {F : Nat → Prop} {v : Value} {st : List Kid} (h : Root w B R M F v st) (hsz : w.heap.size ≤ w'.heap.size) (hs : ∀ k, F k → w'.heap[k]? = w.heap[k]?) : Root w' B R M F v st where
  fR := h.fR
  fM := h.fM
  rm := h.rm
  low k hk := ⟨(h.low k hk).1, Nat.lt_of_lt_of_le (h.low k hk).2 hsz⟩
  map1 := by rw [World.cell?_of_block (w := w) (a := ⟨R, 1, none⟩) (hs R h.fR)]; exact h.map1
  ord := by rw [World.cell?_of_block (w := w) (a := ⟨R, 2, none⟩) (hs R h.fR)]; exact h.ord
  ofree := by rw [World.frozen?_of_block (w := w) (a := ⟨R, 2, none⟩) (hs R h.fR)]; exact h.ofree
  own := own_same h.own (fun k hk => hs k (h.oblk k hk).1)
  oblk := h.oblk
  mapf := h.mapf.same (hs M h.fM)
  kids p hp := by
    obtain ⟨k1, k2, k3, k4, k5, k6⟩ := h.kids p hp
    refine ⟨k1, k2, k3, k4, ?_, ?_⟩
    · rw [World.cell?_of_block (w := w) (a := ⟨p.blk, 3, none⟩) (hs _ k1)]; exact k5
    · rw [World.frozen?_of_block (w := w) (a := ⟨p.blk, 3, none⟩) (hs _ k1)]; exact k6
  apart := h.apart

theorem seek_mem {st : List Kid} {s : ByteArray} {p : Kid} (h : seek st s = some p) : p ∈ st ∧ p.tag = s := by
  unfold seek at h
  exact ⟨List.mem_of_find?_eq_some h, by have := List.find?_some h; simpa using this⟩

theorem pair_blk {st : List Kid} (h : st.Pairwise fun p q => p.blk ≠ q.blk ∧ p.tag ≠ q.tag) {p q : Kid} (hp : p ∈ st) (hq : q ∈ st) (hb : p.blk = q.blk) : p = q := by
  induction st with
  | nil => cases hp
  | cons a r ih =>
    rw [List.pairwise_cons] at h
    rcases List.mem_cons.1 hp with rfl | hp'
    · rcases List.mem_cons.1 hq with rfl | hq'
      · rfl
      · exact absurd hb (h.1 q hq').1
    · rcases List.mem_cons.1 hq with rfl | hq'
      · exact absurd hb.symm (h.1 p hp').1
      · exact ih h.2 hp' hq'

theorem pair_tag {st : List Kid} (h : st.Pairwise fun p q => p.blk ≠ q.blk ∧ p.tag ≠ q.tag) {p q : Kid} (hp : p ∈ st) (hq : q ∈ st) (hb : p.tag = q.tag) : p = q := by
  induction st with
  | nil => cases hp
  | cons a r ih =>
    rw [List.pairwise_cons] at h
    rcases List.mem_cons.1 hp with rfl | hp'
    · rcases List.mem_cons.1 hq with rfl | hq'
      · rfl
      · exact absurd hb (h.1 q hq').2
    · rcases List.mem_cons.1 hq with rfl | hq'
      · exact absurd hb.symm (h.1 p hp').2
      · exact ih h.2 hp' hq'

theorem pw_mono {α : Type} {r q : α → α → Prop} {l : List α} (h : ∀ a b, r a b → q a b) (hl : l.Pairwise r) : l.Pairwise q := by
  induction l with
  | nil => exact List.Pairwise.nil
  | cons a t ih =>
    rw [List.pairwise_cons] at hl ⊢
    exact ⟨fun b hb => h a b (hl.1 b hb), ih hl.2⟩

theorem setFin_tags (st : List Kid) (s : ByteArray) (x : Int) : (setFin st s x).map (fun p => Value.string p.tag) = st.map fun p => Value.string p.tag := by
  unfold setFin
  rw [List.map_map]
  apply List.map_congr_left
  intro p _
  simp only [Function.comp]
  split <;> rfl
theorem setFin_length (st : List Kid) (s : ByteArray) (x : Int) : (setFin st s x).length = st.length := by simp [setFin]
theorem setFin_seek (st : List Kid) (s : ByteArray) (x : Int) (s' : ByteArray) : (seek (setFin st s x) s').map (fun p => Value.pointer (some ⟨p.blk, 0, none⟩)) = (seek st s').map fun p => .pointer (some ⟨p.blk, 0, none⟩) := by
  unfold seek setFin
  induction st with
  | nil => rfl
  | cons a r ih =>
    rw [List.map_cons, List.find?_cons, List.find?_cons]
    by_cases c : a.tag = s
    · rw [if_pos c]
      by_cases c' : a.tag = s'
      · simp [c']
      · simp only [c', decide_false]; exact ih
    · rw [if_neg c]
      by_cases c' : a.tag = s'
      · simp [c']
      · simp only [c', decide_false]; exact ih
theorem setFin_mem {st : List Kid} {s : ByteArray} {x : Int} {p : Kid} (h : p ∈ setFin st s x) : ∃ q ∈ st, p.blk = q.blk ∧ p.tag = q.tag ∧ ((q.tag = s ∧ p.fin = x) ∨ (q.tag ≠ s ∧ p.fin = q.fin)) := by
  unfold setFin at h
  obtain ⟨q, hq, rfl⟩ := List.mem_map.1 h
  refine ⟨q, hq, ?_⟩
  by_cases c : q.tag = s
  · rw [if_pos c]; exact ⟨rfl, rfl, .inl ⟨c, rfl⟩⟩
  · rw [if_neg c]; exact ⟨rfl, rfl, .inr ⟨c, rfl⟩⟩

/-- A store of a new final into a kid. -/
theorem Root.mark {w : World} {B R M : Nat} {F : Nat → Prop} {v : Value} {st : List Kid} (h : Root w B R M F v st) {p : Kid} (hp : p ∈ st) (x : Int) :
    Root (w.setCell ⟨p.blk, 3, none⟩ (.int .i64 x)) B R M F v (setFin st p.tag x) := by
  obtain ⟨k1, k2, k3, k4, k5, k6⟩ := h.kids p hp
  have hs : ∀ k, k ≠ p.blk → (w.setCell ⟨p.blk, 3, none⟩ (.int .i64 x)).heap[k]? = w.heap[k]? := fun k hk => Below.heap_setCell w _ _ k hk
  refine ⟨h.fR, h.fM, h.rm, fun k hk => by simpa using h.low k hk, ?_, ?_, ?_, ?_, h.oblk, ?_, ?_, ?_⟩
  · rw [World.cell?_of_block (w := w) (a := ⟨R, 1, none⟩) (hs R (Ne.symm k2))]; exact h.map1
  · rw [World.cell?_of_block (w := w) (a := ⟨R, 2, none⟩) (hs R (Ne.symm k2))]; exact h.ord
  · rw [World.frozen?_setCell]; exact h.ofree
  · rw [setFin_length, setFin_tags]
    exact own_same h.own (fun k hk => hs k (fun e => k4 (by rw [hk, e])))
  · have := h.mapf.same (hs M (Ne.symm k3))
    obtain ⟨es, clock, m1, m2, m3⟩ := this
    exact ⟨es, clock, m1, m2, fun s => (m3 s).trans (setFin_seek st p.tag x s).symm⟩
  · intro q hq
    obtain ⟨q0, hq0, e1, e2, e3⟩ := setFin_mem hq
    obtain ⟨j1, j2, j3, j4, j5, j6⟩ := h.kids q0 hq0
    rw [e1]
    refine ⟨j1, j2, j3, j4, ?_, by rw [World.frozen?_setCell]; exact j6⟩
    rcases e3 with ⟨e3, e4⟩ | ⟨e3, e4⟩
    · have := pair_tag h.apart hq0 hp e3
      subst this
      rw [e4]
      exact World.cell?_setCell_same _ _ _ k5
    · rw [World.cell?_setCell_other _ _ _ _ (by
        intro e
        injection e with e' _
        exact e3 (congrArg Kid.tag (pair_blk h.apart hq0 hp e'.symm))), e4]
      exact j5
  · unfold setFin
    rw [List.pairwise_map]
    refine pw_mono (fun a b hab => ?_) h.apart
    constructor
    · split <;> split <;> exact hab.1
    · split <;> split <;> exact hab.2

/-- What 'keep' answers and makes of the list: the kid found and refused; found and marked or not; a new one. -/
def Step (st : List Kid) (s : ByteArray) (fl : Bool) (x : Int) (st' : List Kid) (r : Option Addr) : Prop :=
  (∃ p, seek st s = some p ∧ p.fin ≠ 0 ∧ p.fin < x ∧ r = none ∧ st' = st) ∨
  (∃ p, seek st s = some p ∧ ¬ (p.fin ≠ 0 ∧ p.fin < x) ∧ r = some ⟨p.blk, 0, none⟩ ∧ st' = if fl then setFin st s x else st) ∨
  (seek st s = none ∧ ∃ nb, r = some ⟨nb, 0, none⟩ ∧ st' = st ++ [⟨s, nb, if fl then x else 0⟩])

theorem keep_refused (R M : Nat) (s : ByteArray) (fl : Bool) (x y : Int) (kb : Nat) (w : World) (h1 : w.cell? ⟨R, 1, none⟩ = some (.map (some M)))
    (hl : (Instr.lookup 62 (.map (some M)) (.string s) true).run Try.prog w = .ok (.tuple #[.pointer (some ⟨kb, 0, none⟩), .bool true]) w)
    (hc : w.cell? ⟨kb, 3, none⟩ = some (.int .i64 y)) (hy : (y != 0) = true) (hlt : y < x) :
    Calls Try.prog 41 #[.pointer (some ⟨R, 0, none⟩), .string s, .bool fl, .int .i64 x] w fun e w' => e = .returned (.pointer none) ∧ w' = w := by
  go_enter Try.func41, Try.ntmps41
  go_wp2
  go_ret
  exact ⟨rfl, rfl⟩

theorem keep_there (R M : Nat) (s : ByteArray) (x y : Int) (kb : Nat) (w : World) (h1 : w.cell? ⟨R, 1, none⟩ = some (.map (some M)))
    (hl : (Instr.lookup 62 (.map (some M)) (.string s) true).run Try.prog w = .ok (.tuple #[.pointer (some ⟨kb, 0, none⟩), .bool true]) w)
    (hc : w.cell? ⟨kb, 3, none⟩ = some (.int .i64 y)) (hy : (y != 0) = false ∨ ((y != 0) = true ∧ ¬ y < x)) :
    Calls Try.prog 41 #[.pointer (some ⟨R, 0, none⟩), .string s, .bool false, .int .i64 x] w fun e w' => e = .returned (.pointer (some ⟨kb, 0, none⟩)) ∧ w' = w := by
  rcases hy with hy | ⟨hy, hlt⟩
  · go_enter Try.func41, Try.ntmps41
    go_wp2
    go_ret
    exact ⟨rfl, rfl⟩
  · go_enter Try.func41, Try.ntmps41
    go_wp2
    go_ret
    exact ⟨rfl, rfl⟩

theorem keep_marks (R M : Nat) (s : ByteArray) (x y : Int) (kb : Nat) (w : World) (h1 : w.cell? ⟨R, 1, none⟩ = some (.map (some M)))
    (hl : (Instr.lookup 62 (.map (some M)) (.string s) true).run Try.prog w = .ok (.tuple #[.pointer (some ⟨kb, 0, none⟩), .bool true]) w)
    (hc : w.cell? ⟨kb, 3, none⟩ = some (.int .i64 y)) (hf : w.frozen? ⟨kb, 3, none⟩ = false) (hy : (y != 0) = false ∨ ((y != 0) = true ∧ ¬ y < x)) :
    Calls Try.prog 41 #[.pointer (some ⟨R, 0, none⟩), .string s, .bool true, .int .i64 x] w fun e w' => e = .returned (.pointer (some ⟨kb, 0, none⟩)) ∧ w' = w.setCell ⟨kb, 3, none⟩ (.int .i64 x) := by
  rcases hy with hy | ⟨hy, hlt⟩
  · go_enter Try.func41, Try.ntmps41
    go_wp2
    go_ret
    exact ⟨rfl, rfl⟩
  · go_enter Try.func41, Try.ntmps41
    go_wp2
    go_ret
    exact ⟨rfl, rfl⟩
end Go.Proofs.Qxb6600554a
