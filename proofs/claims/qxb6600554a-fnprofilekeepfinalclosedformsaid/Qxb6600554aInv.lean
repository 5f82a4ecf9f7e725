/-
  WHAT HOLDS AT THE HEAD OF EACH ROUND OF THE LAW's LOOP.
-/
import Derived.Test.Qxb6600554aHist
import Derived.Test.Qxb6600554aSmall
namespace Go.Proofs.Qxb6600554a
open Go.RowKit

/-- The row of the pointers P 0 .. P (n-1). -/
def ptrs (n : Nat) (P : Nat → Option Addr) : List Value := (List.range n).map fun j => .pointer (P j)
theorem ptrs_at {n : Nat} {P : Nat → Option Addr} {j : Nat} (h : j < n) : (ptrs n P)[j]? = some (.pointer (P j)) := by simp [ptrs, h]
theorem ptrs_set {n : Nat} {P : Nat → Option Addr} {j : Nat} (r : Option Addr) : (ptrs n P).set j (.pointer r) = ptrs n (fun i => if i = j then r else P i) := by
  apply List.ext_getElem?
  intro i
  rw [List.getElem?_set]
  by_cases hi : i < n
  · by_cases e : j = i
    · subst e; simp [ptrs, hi]
    · rw [if_neg e, ptrs_at hi, ptrs_at hi, if_neg (Ne.symm e)]
  · by_cases e : j = i
    · subst e; simp [ptrs, hi]
    · rw [if_neg e]; simp [ptrs, hi]

/-- Memory: the tree; the slice of the first answers (block G); the slice 'want' (block W). -/
structure Mem (B n : Nat) (w3 : World) (R M G W : Nat) (wr : World) (F : Nat → Prop) (v : Value) (st : List Kid) (P : Nat → Option Addr) : Prop where
  root : Root wr B R M F v st
  firsts : wr.ownsRow B 39 1 (.slice (some ⟨G, 0, none⟩) n n) n (ptrs n P)
  want : wr.ownsRow B 9 1 (.slice (some ⟨W, 0, none⟩) st.length n) st.length (st.map fun p => .string p.tag)
  nG : ¬ F G
  nW : ¬ F W
  gw : G ≠ W
  below : Below B w3 wr
  size : B ≤ w3.heap.size

theorem owned_lt {w : World} {B : Nat} {e : TypeId} {g n c : Nat} {xs : List Value} (h : w.ownsRow B e 1 (.slice (some ⟨g, 0, none⟩) n c) n xs) : B ≤ g ∧ g < w.heap.size := h.lt g rfl

section
variable {B n : Nat} {w3 : World} {R M G W : Nat} {wr w' : World} {F F' : Nat → Prop} {v v' : Value} {st st' : List Kid} {P : Nat → Option Addr}

/-- Behind a call of 'keep' the two rows of the law stand as they stood. -/
theorem Mem.kept (h : Mem B n w3 R M G W wr F v st P) (u : Upd F wr w') (hF : ∀ k, F' k → F k ∨ wr.heap.size ≤ k) :
    w'.ownsRow B 39 1 (.slice (some ⟨G, 0, none⟩) n n) n (ptrs n P) ∧ w'.ownsRow B 9 1 (.slice (some ⟨W, 0, none⟩) st.length n) st.length (st.map fun p => .string p.tag) ∧ ¬ F' G ∧ ¬ F' W ∧ Below B w3 w' := by
  have lG := (owned_lt h.firsts).2
  have lW := (owned_lt h.want).2
  refine ⟨own_same h.firsts (fun k hk => ?_), own_same h.want (fun k hk => ?_), fun f => ?_, fun f => ?_, ?_⟩
  · simp only [Value.ownBlock, Option.some.injEq] at hk; subst hk; exact u.block G lG h.nG
  · simp only [Value.ownBlock, Option.some.injEq] at hk; subst hk; exact u.block W lW h.nW
  · rcases hF G f with h1 | h1
    · exact h.nG h1
    · omega
  · rcases hF W f with h1 | h1
    · exact h.nW h1
    · omega
  · refine h.below.trans (u.below ?_ (fun k hk => (h.root.low k hk).1))
    exact Nat.le_trans h.size h.below.size
end

/-- What the law knows behind its call of 'keep'. -/
def KeepPost (B n : Nat) (w3 : World) (R M G W : Nat) (st : List Kid) (P : Nat → Option Addr) (s : ByteArray) (fl : Bool) (x : Int) (e : Ending) (w7 : World) : Prop :=
  ∃ r F v st', e = .returned (.pointer r) ∧ Root w7 B R M F v st' ∧ Step st s fl x st' r ∧ w7.ownsRow B 39 1 (.slice (some ⟨G, 0, none⟩) n n) n (ptrs n P) ∧
    w7.ownsRow B 9 1 (.slice (some ⟨W, 0, none⟩) st.length n) st.length (st.map fun p => .string p.tag) ∧ ¬ F G ∧ ¬ F W ∧ Below B w3 w7

theorem keep_mem {B n : Nat} {w3 : World} {R M G W : Nat} {wr : World} {F : Nat → Prop} {v : Value} {st : List Kid} {P : Nat → Option Addr} (h : Mem B n w3 R M G W wr F v st P) (hst : st.length ≤ 4096) (s : ByteArray) (fl : Bool) (x : Int) (q : Nat) :
    Calls Try.prog 26 #[.pointer (some ⟨R, 0, none⟩), .string s, .bool fl, .int .i64 x] (wr.drewN q) (KeepPost B n w3 R M G W st P s fl x) := by
  have hr : Root (wr.drewN q) B R M F v st := h.root.same (Nat.le_refl _) (fun _ _ => rfl)
  refine (zzkeep_any s fl x (wr.drewN q) B R M F v st hr (Nat.le_trans h.size h.below.size) hst).mono fun e w7 ⟨r, F', v', st', he, hr', hs, hu, hF⟩ => ?_
  have hu' : Upd F wr w7 := (Upd.drewN (F := F) wr q).trans hu (fun k hk => .inl hk)
  obtain ⟨m1, m2, m3, m4, m5⟩ := h.kept hu' (F' := F') hF
  exact ⟨r, F', v', st', he, hr', hs, m1, m2, m3, m4, m5⟩

theorem tags_at {st : List Kid} {i : Nat} (h : i < st.length) : (st.map fun p => Value.string p.tag)[i]? = some (.string (((st[i]?).map Kid.tag).getD ByteArray.empty)) := by
  simp [h]

/-- 'zzSameStringsB1' of two rows that hold the same tags. -/
theorem same_tags {w : World} {B g1 c1 g2 c2 m : Nat} {v1 v2 : Value} {st : List Kid} (hl : st.length = m) (o1 : w.ownsRow B 9 1 v1 st.length (st.map fun p => .string p.tag)) (e1 : v1 = .slice (some ⟨g1, 0, none⟩) m c1)
    (o2 : w.ownsRow B 9 1 v2 st.length (st.map fun p => .string p.tag)) (e2 : v2 = .slice (some ⟨g2, 0, none⟩) m c2) (hm : m ≤ 4096) :
    Calls Try.prog 28 #[.slice (some ⟨g1, 0, none⟩) m c1, .slice (some ⟨g2, 0, none⟩) m c2] w fun e w' => e = .returned (.bool true) ∧ ∃ q, w' = w.drewN q := by
  subst hl e1 e2
  exact same_some g1 g2 c1 c2 st.length (fun i => ((st[i]?).map Kid.tag).getD ByteArray.empty) w hm
    (fun i hi => by rw [o1.cellAt i (by omega)]; exact tags_at hi) (fun i hi => by rw [o2.cellAt i (by omega)]; exact tags_at hi)

theorem Root.shape {w : World} {B R M : Nat} {F : Nat → Prop} {v : Value} {st : List Kid} (h : Root w B R M F v st) (h0 : 0 < st.length) : ∃ g cap, v = .slice (some ⟨g, 0, none⟩) st.length cap := by
  rcases h.own.2 with ⟨_, e⟩ | ⟨g, cap, _, e, _⟩
  · omega
  · exact ⟨g, cap, e⟩

/-- The pieces, behind draws. -/
theorem Root.drewN {w : World} {B R M : Nat} {F : Nat → Prop} {v : Value} {st : List Kid} (h : Root w B R M F v st) (q : Nat) : Root (w.drewN q) B R M F v st := h.same (Nat.le_refl _) (fun _ _ => rfl)
theorem own_drewN {w : World} {B : Nat} {e : TypeId} {v : Value} {n : Nat} {xs : List Value} (h : w.ownsRow B e 1 v n xs) (q : Nat) : (w.drewN q).ownsRow B e 1 v n xs := own_same h (fun _ _ => rfl)
theorem below_drew {B : Nat} {a w : World} (h : Below B a w) (q : Nat) : Below B a (w.drewN q) := h.trans ⟨rfl, rfl, rfl, Nat.le_refl _, fun _ _ => rfl⟩

section
variable {B n : Nat} {w3 : World} {R M G W : Nat} {w8 w9 : World} {F : Nat → Prop} {v : Value} {st : List Kid} {P : Nat → Option Addr}

/-- 'firsts[k] = got' and 'want = append(want, tag)', behind a new kid. -/
theorem Mem.add {kid : Kid} (hroot : Root w8 B R M F v (st ++ [kid])) (ownG : w8.ownsRow B 39 1 (.slice (some ⟨G, 0, none⟩) n n) n (ptrs n P)) (nG : ¬ F G) (nW : ¬ F W) (gw : G ≠ W) (hbel : Below B w3 w8) (hB : B ≤ w3.heap.size)
    {k : Nat} {r : Option Addr} {o : Obj} (hWB : B ≤ W)
    (own9 : w9.ownsRow B 9 1 (.slice (some ⟨W, 0, none⟩) (st.length + 1) n) (st.length + 1) ((st.map fun p => Value.string p.tag) ++ [.string kid.tag]))
    (g9 : ((w8.setCell ⟨G, k, none⟩ (.pointer r)).alloc o).grownBy w9 (some W)) :
    Mem B n w3 R M G W w9 F v (st ++ [kid]) (fun j => if j = k then r else P j) := by
  have lG := owned_lt ownG
  have s9 := g9.size
  simp only [World.size_alloc, World.size_setCell] at s9
  have e9 : ∀ j, j < w8.heap.size → j ≠ W → w9.heap[j]? = (w8.setCell ⟨G, k, none⟩ (.pointer r)).heap[j]? := fun j hj hW => by
    rw [g9.block j (by simp; omega) (fun e => hW (by simpa using e)), Below.heap_alloc _ _ _ (by simpa using hj)]
  refine ⟨hroot.same (by omega) (fun j hj => ?_), ?_, ?_, nG, nW, gw, ?_, hB⟩
  · rw [e9 j (hroot.low j hj).2 (fun e => nW (e ▸ hj))]
    exact Below.heap_setCell w8 _ _ j (fun e => nG (by have e' : j = G := e; rw [← e']; exact hj))
  · have := (ownG.stored k (.pointer r)).1
    rw [ptrs_set] at this
    exact own_same this (fun j hj => by
      simp only [Value.ownBlock, Option.some.injEq] at hj
      subst hj; exact e9 G lG.2 gw)
  · rw [List.length_append, List.map_append]
    exact own9
  · refine ((hbel.setCell (p := ⟨G, k, none⟩) lG.1 (.pointer r)).alloc ?_ o).grown g9 ?_ ?_
    · simp only [World.size_setCell]; omega
    · simp only [World.size_alloc, World.size_setCell]; omega
    · intro j hj; cases hj; exact hWB
end

theorem Mem.drewN {B n : Nat} {w3 : World} {R M G W : Nat} {wr : World} {F : Nat → Prop} {v : Value} {st : List Kid} {P : Nat → Option Addr} (h : Mem B n w3 R M G W wr F v st P) (q : Nat) : Mem B n w3 R M G W (wr.drewN q) F v st P :=
  ⟨h.root.drewN q, own_drewN h.firsts q, own_drewN h.want q, h.nG, h.nW, h.gw, below_drew h.below q, h.size⟩
theorem own_set {w : World} {B : Nat} {e : TypeId} {g m c : Nat} {xs : List Value} (h : w.ownsRow B e 1 (.slice (some ⟨g, 0, none⟩) m c) m xs) {a : Addr} (ha : g ≠ a.block) (u : Value) : (w.setCell a u).ownsRow B e 1 (.slice (some ⟨g, 0, none⟩) m c) m xs :=
  own_same h (fun k hk => by
    simp only [Value.ownBlock, Option.some.injEq] at hk
    subst hk; exact Below.heap_setCell w a u g ha)
theorem cell_one_at (w : World) (x : Value) (t : TypeId) (m : Nat) (hm : m = w.heap.size) : ∀ j u, [x][j]? = some u → (w.alloc (.cells #[x] t)).cell? ((⟨m, 0, none⟩ : Addr).add j) = some u := by
  subst hm; exact cell_one_new w x t
end Go.Proofs.Qxb6600554a
