/-
  'keep' at a tag that is not there yet; and 'keep' whole.
-/
import Derived.Test.Qxb6600554aRoot
namespace Go.Proofs.Qxb6600554a
open Go.RowKit

theorem seek_snoc (st : List Kid) (p : Kid) (s' : ByteArray) (hn : seek st p.tag = none) : seek (st ++ [p]) s' = if s' = p.tag then some p else seek st s' := by
  unfold seek at hn ⊢
  rw [List.find?_append]
  by_cases c : s' = p.tag
  · subst c; rw [hn]; simp
  · rw [if_neg c]
    have : [p].find? (fun p => decide (p.tag = s')) = none := by simp; exact fun h => c h.symm
    rw [this]; simp

theorem seek_none {st : List Kid} {s : ByteArray} (h : seek st s = none) : ∀ p ∈ st, p.tag ≠ s := by
  unfold seek at h
  intro p hp
  have := List.find?_eq_none.1 h p hp
  simpa using this

theorem setFin_snoc {st : List Kid} {s : ByteArray} (h : seek st s = none) (nb : Nat) (y x : Int) : setFin (st ++ [⟨s, nb, y⟩]) s x = st ++ [⟨s, nb, x⟩] := by
  unfold setFin
  rw [List.map_append]
  congr 1
  · have : st.map (fun p => if p.tag = s then { p with fin := x } else p) = st.map id := by
      apply List.map_congr_left
      intro p hp
      rw [if_neg (seek_none h p hp)]; rfl
    rw [this, List.map_id]
  · simp

/-- The blocks of the tree with a new kid and the block of its order. -/
def Wider (F : Nat → Prop) (nb g : Nat) (k : Nat) : Prop := F k ∨ k = nb ∨ k = g

section
variable {w w3 w4 w6 : World} {B R M nb g cap : Nat} {F : Nat → Prop} {v : Value} {st : List Kid} {s : ByteArray} {o : Obj}

theorem chain_block (g4 : w3.grownBy w4 (some M)) (g6 : (w4.alloc o).grownBy w6 v.ownBlock)
    {k : Nat} (hk : k < w3.heap.size) (hM : k ≠ M) (hv : v.ownBlock ≠ some k) : w6.heap[k]? = w3.heap[k]? := by
  have s4 : k < w4.heap.size := Nat.lt_of_lt_of_le hk g4.size
  rw [g6.block k (by simp; omega) (Ne.symm hv), Below.heap_alloc w4 o k s4]
  exact g4.block k hk (fun e => hM (by simpa using e))

theorem Root.add (h : Root w B R M F v st) (hn : seek st s = none) (hB : B ≤ w.heap.size)
    (b3 : Below w.heap.size w w3) (hnb : w.heap.size ≤ nb ∧ nb < w3.heap.size) (c3 : w3.cell? ⟨nb, 3, none⟩ = some (.int .i64 0)) (f3 : w3.frozen? ⟨nb, 3, none⟩ = false)
    (m4 : MapFn w4 M (fun s' => if s' = s then some (.pointer (some ⟨nb, 0, none⟩)) else (seek st s').map fun p => .pointer (some ⟨p.blk, 0, none⟩))) (g4 : w3.grownBy w4 (some M))
    (own6 : w6.ownsRow B 9 1 (.slice (some ⟨g, 0, none⟩) (st.length + 1) cap) (st.length + 1) (st.map (fun p => Value.string p.tag) ++ [.string s]))
    (g6 : (w4.alloc o).grownBy w6 v.ownBlock) (hat : v.ownBlock = some g ∨ g = w4.heap.size + 1) (hlt : g < w6.heap.size) :
    Root (w6.setCell ⟨R, 2, none⟩ (.slice (some ⟨g, 0, none⟩) (st.length + 1) cap)) B R M (Wider F nb g) (.slice (some ⟨g, 0, none⟩) (st.length + 1) cap) (st ++ [⟨s, nb, 0⟩]) := by
  have hRl := (h.low R h.fR).2
  have hMl := (h.low M h.fM).2
  have hs3 := b3.size
  have hs4 := g4.size
  have hs6 := g6.size
  simp only [World.size_alloc] at hs6
  have hvF : ∀ k, v.ownBlock = some k → k < w.heap.size := fun k hk => (h.low k (h.oblk k hk).1).2
  have hgl : g < w.heap.size ∨ w3.heap.size ≤ g := by
    rcases hat with e | e
    · exact .inl (hvF g e)
    · right; omega
  have hgR : g ≠ R := by
    rcases hat with e | e
    · exact (h.oblk g e).2.1
    · omega
  have hgM : g ≠ M := by
    rcases hat with e | e
    · exact (h.oblk g e).2.2
    · omega
  have hgB : B ≤ g := by
    rcases hat with e | e
    · exact (h.low g (h.oblk g e).1).1
    · omega
  have hvR : v.ownBlock ≠ some R := fun e => (h.oblk R e).2.1 rfl
  have hvn : v.ownBlock ≠ some nb := fun e => by have := hvF nb e; omega
  have hset : ∀ k, k ≠ R → (w6.setCell ⟨R, 2, none⟩ (.slice (some ⟨g, 0, none⟩) (st.length + 1) cap)).heap[k]? = w6.heap[k]? := fun k hk => Below.heap_setCell w6 _ _ k hk
  have h63 : ∀ k, k < w3.heap.size → k ≠ M → v.ownBlock ≠ some k → w6.heap[k]? = w3.heap[k]? := fun k h1 h2 h3 => chain_block g4 g6 h1 h2 h3
  have hR6 : w6.heap[R]? = w.heap[R]? := (h63 R (by omega) h.rm hvR).trans (b3.block R hRl)
  have hM6 : w6.heap[M]? = w4.heap[M]? := by
    rw [g6.block M (by simp; omega) (fun e => (h.oblk M e.symm).2.2 rfl), Below.heap_alloc w4 o M (by omega)]
  have cR2 : w6.cell? ⟨R, 2, none⟩ = some v := by rw [World.cell?_of_block (w := w) (a := ⟨R, 2, none⟩) hR6]; exact h.ord
  refine ⟨.inl h.fR, .inl h.fM, h.rm, ?_, ?_, World.cell?_setCell_same _ _ _ cR2, ?_, ?_, ?_, ?_, ?_, ?_⟩
  · rintro k (hk | rfl | rfl)
    · have := h.low k hk
      simp only [World.size_setCell]; omega
    · simp only [World.size_setCell]; omega
    · simp only [World.size_setCell]; omega
  · rw [World.cell?_setCell_other _ _ _ _ (by intro e; injection e; omega), World.cell?_of_block (w := w) (a := ⟨R, 1, none⟩) hR6]; exact h.map1
  · rw [World.frozen?_setCell, World.frozen?_of_block (w := w) (a := ⟨R, 2, none⟩) hR6]; exact h.ofree
  · rw [List.length_append, List.map_append]
    exact own_same own6 (fun k hk => by
      simp only [Value.ownBlock, Option.some.injEq] at hk
      subst hk; exact hset g hgR)
  · intro k hk
    simp only [Value.ownBlock, Option.some.injEq] at hk
    subst hk
    exact ⟨.inr (.inr rfl), hgR, hgM⟩
  · obtain ⟨es, clock, m1, m2, m3⟩ := m4.same ((hset M (Ne.symm h.rm)).trans hM6)
    refine ⟨es, clock, m1, m2, fun s' => (m3 s').trans ?_⟩
    show _ = (seek (st ++ [⟨s, nb, 0⟩]) s').map fun p => Value.pointer (some ⟨p.blk, 0, none⟩)
    rw [seek_snoc st ⟨s, nb, 0⟩ s' hn]
    show (if s' = s then _ else _) = _
    by_cases c : s' = s
    · rw [if_pos c, if_pos c]; rfl
    · rw [if_neg c, if_neg c]
  · intro p hp
    rcases List.mem_append.1 hp with hp | hp
    · obtain ⟨k1, k2, k3, k4, k5, k6⟩ := h.kids p hp
      have hpl := (h.low _ k1).2
      have e6 : (w6.setCell ⟨R, 2, none⟩ (.slice (some ⟨g, 0, none⟩) (st.length + 1) cap)).heap[p.blk]? = w.heap[p.blk]? :=
        (hset _ k2).trans ((h63 _ (by omega) k3 k4).trans (b3.block _ hpl))
      refine ⟨.inl k1, k2, k3, ?_, ?_, ?_⟩
      · intro e
        simp only [Value.ownBlock, Option.some.injEq] at e
        rcases hat with e' | e'
        · exact k4 (e'.trans (by rw [e]))
        · omega
      · rw [World.cell?_of_block (w := w) (a := ⟨p.blk, 3, none⟩) e6]; exact k5
      · rw [World.frozen?_of_block (w := w) (a := ⟨p.blk, 3, none⟩) e6]; exact k6
    · simp only [List.mem_singleton] at hp
      subst hp
      have e6 : (w6.setCell ⟨R, 2, none⟩ (.slice (some ⟨g, 0, none⟩) (st.length + 1) cap)).heap[nb]? = w3.heap[nb]? :=
        (hset _ (by omega)).trans (h63 _ (by omega) (by omega) hvn)
      refine ⟨.inr (.inl rfl), by simp only; omega, by simp only; omega, ?_, ?_, ?_⟩
      · intro e
        simp only [Value.ownBlock, Option.some.injEq] at e
        rcases hat with e' | e'
        · have := hvF g e'; omega
        · omega
      · rw [World.cell?_of_block (w := w3) (a := ⟨nb, 3, none⟩) e6]; exact c3
      · rw [World.frozen?_of_block (w := w3) (a := ⟨nb, 3, none⟩) e6]; exact f3
  · rw [List.pairwise_append]
    refine ⟨h.apart, List.pairwise_singleton _ _, fun p hp q hq => ?_⟩
    simp only [List.mem_singleton] at hq
    subst hq
    refine ⟨?_, seek_none hn p hp⟩
    have := (h.low _ (h.kids p hp).1).2
    simp only; omega

theorem Root.add_upd (h : Root w B R M F v st) (b3 : Below w.heap.size w w3) (g4 : w3.grownBy w4 (some M)) (g6 : (w4.alloc o).grownBy w6 v.ownBlock) (u : Value) :
    Upd F w (w6.setCell ⟨R, 2, none⟩ u) := by
  have u1 : Upd F w w3 := ⟨b3.os, b3.tape, b3.output, b3.size, fun k hk _ => b3.block k hk⟩
  have u2 : Upd F w w4 := u1.trans (Upd.grown (F := F) g4 (fun k e => by cases e; exact h.fM)) (fun x hx => .inl hx)
  have u3 : Upd F w (w4.alloc o) := u2.trans (Upd.alloc (F := F) w4 o) (fun x hx => .inl hx)
  have u4 : Upd F w w6 := u3.trans (Upd.grown (F := F) g6 (fun k e => (h.oblk k e).1)) (fun x hx => .inl hx)
  exact u4.trans (Upd.setCell (F := F) h.fR u) (fun x hx => .inl hx)
end

theorem after_update {w w3 w4 : World} {B R M : Nat} {F : Nat → Prop} {v : Value} {st : List Kid} (h : Root w B R M F v st) (b3 : Below w.heap.size w w3) (g4 : w3.grownBy w4 (some M)) :
    w4.cell? ⟨R, 2, none⟩ = some v ∧ w4.ownsRow B 9 1 v st.length (st.map fun p => .string p.tag) := by
  have hs3 := b3.size
  have e : ∀ k, F k → k ≠ M → w4.heap[k]? = w.heap[k]? := fun k hF hk => by
    have hl := (h.low k hF).2
    exact (g4.block k (by omega) (fun e => hk (by simpa using e))).trans (b3.block k hl)
  constructor
  · rw [World.cell?_of_block (w := w) (a := ⟨R, 2, none⟩) (e R h.fR h.rm)]; exact h.ord
  · exact own_same h.own (fun k hk => e k (h.oblk k hk).1 (h.oblk k hk).2.2)

theorem after_append {w w3 w4 w6 : World} {B R M nb : Nat} {F : Nat → Prop} {v : Value} {st : List Kid} {o : Obj} (h : Root w B R M F v st) (b3 : Below w.heap.size w w3) (g4 : w3.grownBy w4 (some M)) (g6 : (w4.alloc o).grownBy w6 v.ownBlock)
    (hnb : w.heap.size ≤ nb ∧ nb < w3.heap.size) (c3 : w3.cell? ⟨nb, 3, none⟩ = some (.int .i64 0)) (f3 : w3.frozen? ⟨nb, 3, none⟩ = false) :
    w6.cell? ⟨R, 2, none⟩ = some v ∧ w6.frozen? ⟨R, 2, none⟩ = false ∧ w6.cell? ⟨nb, 3, none⟩ = some (.int .i64 0) ∧ w6.frozen? ⟨nb, 3, none⟩ = false := by
  have hs3 := b3.size
  have hRl := (h.low R h.fR).2
  have hMl := (h.low M h.fM).2
  have hvR : v.ownBlock ≠ some R := fun e => (h.oblk R e).2.1 rfl
  have hvn : v.ownBlock ≠ some nb := fun e => by have := (h.low nb (h.oblk nb e).1).2; omega
  have hR6 : w6.heap[R]? = w.heap[R]? := (chain_block g4 g6 (by omega) h.rm hvR).trans (b3.block R hRl)
  have hn6 : w6.heap[nb]? = w3.heap[nb]? := chain_block g4 g6 (by omega) (by omega) hvn
  refine ⟨?_, ?_, ?_, ?_⟩
  · rw [World.cell?_of_block (w := w) (a := ⟨R, 2, none⟩) hR6]; exact h.ord
  · rw [World.frozen?_of_block (w := w) (a := ⟨R, 2, none⟩) hR6]; exact h.ofree
  · rw [World.cell?_of_block (w := w3) (a := ⟨nb, 3, none⟩) hn6]; exact c3
  · rw [World.frozen?_of_block (w := w3) (a := ⟨nb, 3, none⟩) hn6]; exact f3

def NewPost (s : ByteArray) (fl : Bool) (x : Int) (w : World) (B R M : Nat) (F : Nat → Prop) (st : List Kid) (e : Ending) (w' : World) : Prop :=
  ∃ nb g v', e = .returned (.pointer (some ⟨nb, 0, none⟩)) ∧ w.heap.size ≤ nb ∧ (F g ∨ w.heap.size ≤ g) ∧
      Root w' B R M (Wider F nb g) v' (st ++ [⟨s, nb, if fl then x else 0⟩]) ∧ Upd F w w'

set_option maxHeartbeats 800000 in
theorem keep_new (s : ByteArray) (fl : Bool) (x : Int) (w : World) (B R M : Nat) (F : Nat → Prop) (v : Value) (st : List Kid) (h : Root w B R M F v st) (hn : seek st s = none) (hB : B ≤ w.heap.size) (hst : st.length ≤ 4096) :
    Calls Try.prog 41 #[.pointer (some ⟨R, 0, none⟩), .string s, .bool fl, .int .i64 x] w (NewPost s fl x w B R M F st) := by
  obtain ⟨i0, hi, hz0, hz1, hz2⟩ := info_parts Try.info9
  have hl := h.mapf.look (P := Try.prog) Try.underlying62 Try.underlying9 (zero39 w) s
  rw [hn] at hl
  simp only [Option.map_none, Option.getD_none, Option.isSome_none] at hl
  have h1 := h.map1
  have hRl := (h.low R h.fR).2
  have hMl := (h.low M h.fM).2
  have HR : Hid (Root w B R M F v st) := h
  have HN : Hid (seek st s = none) := hn
  clear h hn
  cases fl
  all_goals
    go_enter Try.func41, Try.ntmps41
    go_wp2_with (first
      | (go_at_call 40; refine (new_any _).mono ?_; rintro e w3 ⟨rfl, hw3⟩; have b3 : Below w.heap.size w w3 := (by rw [hw3]; exact (((Below.refl _ _).alloc (Nat.le_refl _) _).alloc (by simp) _).alloc (by simp; omega) _); have s3 : w3.heap.size = w.heap.size + 3 := (by rw [hw3]; simp); have c3 : w3.cell? ⟨w.heap.size + 2, 3, none⟩ = some (.int .i64 0) := (by rw [hw3]; rw [World.cell?_alloc_at _ _ _ _ (by simp)]; rfl); have f3 : w3.frozen? ⟨w.heap.size + 2, 3, none⟩ = false := (by rw [hw3]; exact World.frozen?_alloc_at _ _ _ _ (by simp)); clear hw3; have k1 := (b3.cell (p := ⟨R, 1, none⟩) hRl).trans h1)
      | (at_mapUpdate; refine wpList_mapUpdate_fn _ rfl _ _ _ 62 rfl 9 39 Try.underlying62 Try.underlying9 M _ rfl (HR.out.mapf.same (b3.block M hMl)) s _ rfl rfl ?_; intro w4 m4 g4; obtain ⟨k2, own4⟩ := after_update HR.out b3 g4)
      | (at_builtin; refine wpList_append_lies _ rfl _ _ _ rfl B 9 i0 (.string ByteArray.empty) 1 16 Try.underlying32 hi hz0 hz1 hz2 rfl (by decide) v st.length (st.map fun p => .string p.tag) rfl (own4.alloc _) ⟨w4.heap.size, 0, none⟩ 1 1 [.string s] rfl rfl (cell_one_new _ _ _) (by simp [Value.oneCell']) (by decide) (by unfold maxLen; omega) (by omega) (by have := b3.size; have := g4.size; simp; omega) (w4.heap.size + 1) (by simp) ?_; intro g cap w6 own6 g6 hat hlt; obtain ⟨j1, j2, j3, j4⟩ := after_append (nb := w.heap.size + 2) HR.out b3 g4 g6 (by omega) c3 f3))
  · go_ret
    refine ⟨w.heap.size + 2, g, _, rfl, by omega, ?_, HR.out.add HN.out hB b3 (by omega) c3 f3 m4 g4 own6 g6 hat hlt, HR.out.add_upd b3 g4 g6 _⟩
    rcases hat with e | e
    · exact .inl (HR.out.oblk g e).1
    · have := b3.size; have := g4.size; right; omega
  · go_ret
    have hr := HR.out.add HN.out hB b3 (by omega) c3 f3 m4 g4 own6 g6 hat hlt
    have hm := hr.mark (p := ⟨s, w.heap.size + 2, 0⟩) (by simp) x
    rw [setFin_snoc HN.out] at hm
    refine ⟨w.heap.size + 2, g, _, rfl, by omega, ?_, hm, (HR.out.add_upd b3 g4 g6 _).trans (Upd.setCell (F := Wider F (w.heap.size + 2) g) (.inr (.inl rfl)) _) ?_⟩
    · rcases hat with e | e
      · exact .inl (HR.out.oblk g e).1
      · have := b3.size; have := g4.size; right; omega
    · rintro k (hk | rfl | rfl)
      · exact .inl hk
      · right; omega
      · rcases hat with e | e
        · exact .inl (HR.out.oblk k e).1
        · have := b3.size; have := g4.size; right; omega

theorem keep_any (s : ByteArray) (fl : Bool) (x : Int) (w : World) (B R M : Nat) (F : Nat → Prop) (v : Value) (st : List Kid) (h : Root w B R M F v st) (hB : B ≤ w.heap.size) (hst : st.length ≤ 4096) :
    Calls Try.prog 41 #[.pointer (some ⟨R, 0, none⟩), .string s, .bool fl, .int .i64 x] w fun e w' => ∃ r F' v' st', e = .returned (.pointer r) ∧ Root w' B R M F' v' st' ∧ Step st s fl x st' r ∧ Upd F w w' ∧ ∀ k, F' k → F k ∨ w.heap.size ≤ k := by
  cases hs : seek st s with
  | none =>
    refine (keep_new s fl x w B R M F v st h hs hB hst).mono fun e w' ⟨nb, g, v', he, hnb, hg, hr, hu⟩ => ?_
    refine ⟨_, _, v', _, he, hr, .inr (.inr ⟨hs, nb, rfl, rfl⟩), hu, ?_⟩
    rintro k (hk | rfl | rfl)
    · exact .inl hk
    · exact .inr hnb
    · exact hg
  | some p =>
    have hl := h.mapf.look (P := Try.prog) Try.underlying62 Try.underlying9 (zero39 w) s
    rw [hs] at hl
    simp only [Option.map_some, Option.getD_some, Option.isSome_some] at hl
    obtain ⟨hp, ht⟩ := seek_mem hs
    obtain ⟨k1, k2, k3, k4, k5, k6⟩ := h.kids p hp
    by_cases c : p.fin ≠ 0 ∧ p.fin < x
    · refine (keep_refused R M s fl x p.fin p.blk w h.map1 hl k5 (by simpa using c.1) c.2).mono fun e w' ⟨he, hw⟩ => ?_
      subst hw
      exact ⟨_, F, v, st, he, h, .inl ⟨p, hs, c.1, c.2, rfl, rfl⟩, Upd.refl _ _, fun k hk => .inl hk⟩
    · have hy : (p.fin != 0) = false ∨ ((p.fin != 0) = true ∧ ¬ p.fin < x) := by
        by_cases c0 : p.fin = 0
        · left; simpa using c0
        · right; exact ⟨by simpa using c0, fun hx => c ⟨c0, hx⟩⟩
      cases fl with
      | false =>
        refine (keep_there R M s x p.fin p.blk w h.map1 hl k5 hy).mono fun e w' ⟨he, hw⟩ => ?_
        subst hw
        exact ⟨_, F, v, st, he, h, .inr (.inl ⟨p, hs, c, rfl, rfl⟩), Upd.refl _ _, fun k hk => .inl hk⟩
      | true =>
        refine (keep_marks R M s x p.fin p.blk w h.map1 hl k5 k6 hy).mono fun e w' ⟨he, hw⟩ => ?_
        subst hw
        have hm := h.mark hp x
        rw [ht] at hm
        exact ⟨_, F, v, _, he, hm, .inr (.inl ⟨p, hs, c, rfl, rfl⟩), Upd.setCell k1 _, fun k hk => .inl hk⟩

theorem zzkeep_any (s : ByteArray) (fl : Bool) (x : Int) (w : World) (B R M : Nat) (F : Nat → Prop) (v : Value) (st : List Kid) (h : Root w B R M F v st) (hB : B ≤ w.heap.size) (hst : st.length ≤ 4096) :
    Calls Try.prog 26 #[.pointer (some ⟨R, 0, none⟩), .string s, .bool fl, .int .i64 x] w fun e w' => ∃ r F' v' st', e = .returned (.pointer r) ∧ Root w' B R M F' v' st' ∧ Step st s fl x st' r ∧ Upd F w w' ∧ ∀ k, F' k → F k ∨ w.heap.size ≤ k := by
  have key := keep_any s fl x w B R M F v st h hB hst
  clear h
  go_enter Try.func26, Try.ntmps26
  go_wp2_with (go_at_call 41; refine key.mono ?_; rintro e w' ⟨r, F', v', st', rfl, hr, hs, hu, hF⟩; clear key)
  go_ret
  exact ⟨r, F', v', st', rfl, hr, hs, hu, hF⟩
end Go.Proofs.Qxb6600554a
