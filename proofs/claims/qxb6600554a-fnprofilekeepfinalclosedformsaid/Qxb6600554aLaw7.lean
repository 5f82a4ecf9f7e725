/-
  'FnProfileKeepFinalClosedForm' (function 7): the walk of a script of calls.
-/
import Derived.Test.Qxb6600554aHist7
import Derived.Test.Qxb6600554aInv
import Derived.Test.Qxb6600554aPtr
import Derived.Deep.RegionHeld3
import Derived.Deep.DeepCutAuto
namespace Go.Proofs.Qxb6600554a
open Go.RowKit

theorem Try.info39 : (Try.prog.info? 39).map (fun i => (i.zero, i.size, i.bytes)) = some (some (.pointer none), 1, 8) := by kernel_rfl

theorem own_cells {α : Type} {f : α → Value} {d : α} {w w' : World} {B e g n : Nat} {zs : List α} (hl : zs.length = n) (h : w.ownsRow B e 1 (.slice (some ⟨g, 0, none⟩) n n) n (zs.map f)) (hb : Below w.heap.size w w') :
    ∀ i, i < n → w'.cell? ⟨g, i, none⟩ = some (f (zs.getD i d)) := by
  intro i hi
  have := (owned_lt h).2
  rw [hb.cell (p := ⟨g, i, none⟩) this, h.cellAt i (by omega)]
  simp [List.getD, hl, hi]

theorem ptrs_made (n : Nat) : (madeCells (Value.pointer none).cells (n * 1)).toList = ptrs n (fun _ => none) := by
  rw [Nat.mul_one]
  refine (toList_madeCells_one (Value.pointer none) n).trans ?_
  apply List.ext_getElem?
  intro i
  by_cases h : i < n <;> simp [ptrs, h]

/-- The tree as 'newProfileNode' lays it. -/
theorem Root.made (w3 w4 : World) (hw : w4 = ((w3.alloc (.map #[] 0)).alloc (.map #[] 0)).alloc (.cells #[.map (some w3.heap.size), .map (some (w3.heap.size + 1)), .slice none 0 0, .int .i64 0] 64)) :
    Root w4 w3.heap.size (w3.heap.size + 2) (w3.heap.size + 1) (fun k => k = w3.heap.size + 1 ∨ k = w3.heap.size + 2) (.slice none 0 0) [] := by
  subst hw
  refine ⟨.inr rfl, .inl rfl, by omega, ?_, ?_, ?_, ?_, World.ownsRow_nil _ _ _ _, ?_, ?_, ?_, List.Pairwise.nil⟩
  · rintro k (rfl | rfl) <;> simp
  · rw [World.cell?_alloc_at _ _ _ _ (by simp)]; rfl
  · rw [World.cell?_alloc_at _ _ _ _ (by simp)]; rfl
  · exact World.frozen?_alloc_at _ _ _ _ (by simp)
  · intro k hk; simp [Value.ownBlock] at hk
  · have h : MapFn ((w3.alloc (.map #[] 0)).alloc (.map #[] 0)) (w3.heap.size + 1) (fun _ => none) := by
      have := MapFn.made (w3.alloc (.map #[] 0))
      simpa using this
    exact h.same (Below.heap_alloc _ _ _ (by simp))
  · intro p hp; exact absurd hp List.not_mem_nil

theorem Mem.start {n : Nat} {w3 w4 w5 w6 : World} (hw : w4 = ((w3.alloc (.map #[] 0)).alloc (.map #[] 0)).alloc (.cells #[.map (some w3.heap.size), .map (some (w3.heap.size + 1)), .slice none 0 0, .int .i64 0] 64))
    (own5 : w5.ownsRow w3.heap.size 39 1 (.slice (some ⟨w4.heap.size, 0, none⟩) n n) n (madeCells (Value.pointer none).cells (n * 1)).toList) (g5 : w4.grownBy w5 none)
    (own6 : w6.ownsRow w3.heap.size 9 1 (.slice (some ⟨w5.heap.size, 0, none⟩) 0 n) 0 []) (g6 : w5.grownBy w6 none) :
    Mem w3.heap.size n w3 (w3.heap.size + 2) (w3.heap.size + 1) (w3.heap.size + 3) w5.heap.size w6 (fun k => k = w3.heap.size + 1 ∨ k = w3.heap.size + 2) (.slice none 0 0) [] (fun _ => none) := by
  have s4 : w4.heap.size = w3.heap.size + 3 := by rw [hw]; simp
  have s5 := g5.size
  have s6 := g6.size
  have e6 : ∀ k, k < w4.heap.size → w6.heap[k]? = w4.heap[k]? := fun k hk => (g6.block k (by omega) (by simp)).trans (g5.block k hk (by simp))
  have l5 := (owned_lt own5).2
  rw [s4, ptrs_made] at own5
  rw [s4] at l5
  refine ⟨(Root.made w3 w4 hw).same (by omega) ?_, own_same own5 ?_, own6, by omega, by omega, by omega, ?_, Nat.le_refl _⟩
  · rintro k (rfl | rfl) <;> exact e6 _ (by omega)
  · intro k hk
    simp only [Value.ownBlock, Option.some.injEq] at hk
    subst hk
    exact g6.block _ l5 (by simp)
  · have b4 : Below w3.heap.size w3 w4 := by
      rw [hw]; exact (((Below.refl _ _).alloc (Nat.le_refl _) _).alloc (by simp) _).alloc (by simp; omega) _
    exact (b4.grown g5 (by omega) (by simp)).grown g6 (by omega) (by simp)


section
variable {B n : Nat} {w3 : World} {R M G W : Nat} {w8 w9 : World} {F : Nat → Prop} {v : Value} {st : List Kid} {P : Nat → Option Addr}

/-- 'want = append(want, tag)' and then 'firsts[k] = got', behind a new kid. -/
theorem Mem.add7 {kid : Kid} (hroot : Root w8 B R M F v (st ++ [kid])) (ownG : w8.ownsRow B 39 1 (.slice (some ⟨G, 0, none⟩) n n) n (ptrs n P)) (nG : ¬ F G) (nW : ¬ F W) (gw : G ≠ W) (hbel : Below B w3 w8) (hB : B ≤ w3.heap.size)
    {k : Nat} {r : Option Addr} {o : Obj} (hWB : B ≤ W)
    (own9 : w9.ownsRow B 9 1 (.slice (some ⟨W, 0, none⟩) (st.length + 1) n) (st.length + 1) ((st.map fun p => Value.string p.tag) ++ [.string kid.tag]))
    (g9 : (w8.alloc o).grownBy w9 (some W)) :
    Mem B n w3 R M G W (w9.setCell ⟨G, k, none⟩ (.pointer r)) F v (st ++ [kid]) (fun j => if j = k then r else P j) := by
  have lG := owned_lt ownG
  have s9 := g9.size
  simp only [World.size_alloc] at s9
  have e9 : ∀ j, j < w8.heap.size → j ≠ W → w9.heap[j]? = w8.heap[j]? := fun j hj hW => by
    rw [g9.block j (by simp; omega) (fun e => hW (by simpa using e)), Below.heap_alloc _ _ _ hj]
  have eS : ∀ j, j ≠ G → (w9.setCell ⟨G, k, none⟩ (.pointer r)).heap[j]? = w9.heap[j]? := fun j hj => Below.heap_setCell w9 _ _ j hj
  have ownG9 : w9.ownsRow B 39 1 (.slice (some ⟨G, 0, none⟩) n n) n (ptrs n P) := own_same ownG (fun j hj => by
    simp only [Value.ownBlock, Option.some.injEq] at hj
    subst hj; exact e9 G lG.2 gw)
  refine ⟨hroot.same (by simp only [World.size_setCell]; omega) (fun j hj => ?_), ?_, ?_, nG, nW, gw, ?_, hB⟩
  · rw [eS j (fun e => nG (e ▸ hj))]
    exact e9 j (hroot.low j hj).2 (fun e => nW (e ▸ hj))
  · have := (ownG9.stored k (.pointer r)).1
    rw [ptrs_set] at this
    exact this
  · rw [List.length_append, List.map_append]
    exact own_set own9 (Ne.symm gw) _
  · refine ((hbel.alloc ?_ o).grown g9 ?_ ?_).setCell lG.1 _
    · omega
    · simp only [World.size_alloc]; omega
    · intro j hj; cases hj; exact hWB

theorem mem_slot7 (ownG : w8.ownsRow B 39 1 (.slice (some ⟨G, 0, none⟩) n n) n (ptrs n P)) (gw : G ≠ W) {k : Nat} {o : Obj} (hk : k < n) (g9 : (w8.alloc o).grownBy w9 (some W)) :
    ∃ pv, w9.cell? ⟨G, k, none⟩ = some pv ∧ w9.frozen? ⟨G, k, none⟩ = false := by
  have lG := owned_lt ownG
  have e9 : w9.heap[G]? = w8.heap[G]? := by
    rw [g9.block G (by simp; omega) (fun e => gw (by simpa using e)), Below.heap_alloc _ _ _ lG.2]
  have ownG9 : w9.ownsRow B 39 1 (.slice (some ⟨G, 0, none⟩) n n) n (ptrs n P) := own_same ownG (fun j hj => by
    simp only [Value.ownBlock, Option.some.injEq] at hj
    subst hj; exact e9)
  exact ⟨_, by rw [ownG9.cellAt k (by omega)]; exact ptrs_at hk, ownG9.frozenAt k⟩
end


set_option maxRecDepth 100000 in
set_option maxHeartbeats 3200000 in
theorem law7_main (b0 o0 c0 : Nat) (ss : List ByteArray) (b1 o1 c1 : Nat) (bs : List Bool) (b2 o2 c2 : Nat) (xs : List Int) (w : World)
    (h0 : ∀ i, i < ss.length → w.cell? ⟨b0, o0 + i, none⟩ = some (.string (ss.getD i ByteArray.empty))) (h1 : ∀ i, i < bs.length → w.cell? ⟨b1, o1 + i, none⟩ = some (.bool (bs.getD i false)))
    (h2 : ∀ i, i < xs.length → w.cell? ⟨b2, o2 + i, none⟩ = some (.int .i64 (xs.getD i 0))) (hs : ∀ s ∈ ss, s.size ≤ maxLen)
    (hle : ss.length ≤ 4096) (h01 : bs.length = ss.length) (h02 : xs.length = ss.length) (hpos : 0 < ss.length) :
    Calls Try.prog 7 #[.slice (some ⟨b0, o0, none⟩) ss.length c0, .slice (some ⟨b1, o1, none⟩) bs.length c1, .slice (some ⟨b2, o2, none⟩) xs.length c2] w fun e w' => e = .returned (.bool true) ∧ Below w.heap.size w w' := by
  have l0 : b0 < w.heap.size := World.block_lt_of_cell? _ _ (h0 0 hpos)
  have l1 : b1 < w.heap.size := World.block_lt_of_cell? _ _ (h1 0 (by omega))
  have l2 : b2 < w.heap.size := World.block_lt_of_cell? _ _ (h2 0 (by omega))
  have kb := bytes20_any (some ⟨b0, o0, none⟩) c0 ss (some ⟨b1, o1, none⟩) bs.length c1 (some ⟨b2, o2, none⟩) xs.length c2 w (by unfold maxLen; omega) (by unfold maxLen; omega) (by unfold maxLen; omega) (.inr ⟨_, _, rfl, h0⟩) hs
  have kf := fit_any (some ⟨b0, o0, none⟩) c0 ss (some ⟨b1, o1, none⟩) bs.length c1 (some ⟨b2, o2, none⟩) xs.length c2 w hle (by omega) (by omega) (.inr ⟨_, _, rfl, h0⟩)
  have k0 := fun w1 (hb : Below w.heap.size w w1) => clS_some b0 o0 c0 ss w1 (by omega) (Nat.lt_of_lt_of_le l0 hb.size) (fun i hi => (hb.cell (p := ⟨b0, o0 + i, none⟩) l0).trans (h0 i hi))
  have k1 := fun w1 (hb : Below w.heap.size w w1) => clB_some b1 o1 c1 bs w1 (by omega) (Nat.lt_of_lt_of_le l1 hb.size) (fun i hi => (hb.cell (p := ⟨b1, o1 + i, none⟩) l1).trans (h1 i hi))
  have k2 := fun w1 (hb : Below w.heap.size w w1) => clI_some b2 o2 c2 xs w1 (by omega) (Nat.lt_of_lt_of_le l2 hb.size) (fun i hi => (hb.cell (p := ⟨b2, o2 + i, none⟩) l2).trans (h2 i hi))
  have HC2 : Hid _ := h2
  rw [h01, h02] at kb kf
  rw [h01] at k1 ⊢
  rw [h02] at k2 HC2 ⊢
  obtain ⟨n, hn⟩ : ∃ n, n = ss.length := ⟨_, rfl⟩
  have H0 : Hid (ss.length = n) := hn.symm
  rw [← hn] at kb kf k0 k1 k2 HC2 hle hpos ⊢
  have H1 : Hid (bs.length = n) := h01.trans hn.symm
  have H2 : Hid (xs.length = n) := h02.trans hn.symm
  clear hn h01 h02 h0 h1 h2 hs l0 l1 l2
  have hne : ((n : Int) != (n : Int)) = false := by simp
  go_enter Try.func7, Try.ntmps7
  go_wp2_with (first
    | (go_at_call 20; refine kb.mono ?_; rintro e w' ⟨⟨r, rfl⟩, rfl⟩; clear kb; cases r)
    | (go_at_call 21; refine kf.mono ?_; rintro e w' ⟨⟨r, rfl⟩, rfl⟩; clear kf; cases r))
  · go_ret
    exact ⟨rfl, Below.refl _ _⟩
  · go_ret
    exact ⟨rfl, Below.refl _ _⟩
  · go_loopw [8] (fun i wr => ∃ k q : Nat, k ≤ n ∧ i = .int .i64 k ∧ wr = w'.drewN q ∧ Rising (fun j => xs.getD j 0) k) (fun i _ => n - (intOf i).toNat)
    case atStart => exact ⟨0, 0, by omega, rfl, rfl, fun j hj => by omega⟩
    case round =>
      obtain ⟨k, q, hk, rfl, rfl, hris⟩ := hrel
      have HR : Hid (Rising (fun j => xs.getD j 0) k) := hris
      clear hris
      by_cases hlt : k < n
      -- CHECK BEGIN
      · have hlt' : (k : Int) < (n : Int) := by omega
        have cX := HC2.out k hlt
        have cY := HC2.out (k - 1) (by omega)
        obtain ⟨x, hxv⟩ : ∃ x, x = xs.getD k 0 := ⟨_, rfl⟩
        obtain ⟨y, hyv⟩ : ∃ x, x = xs.getD (k - 1) 0 := ⟨_, rfl⟩
        rw [← hxv] at cX
        rw [← hyv] at cY
        have HX : Hid (x = xs.getD k 0) := hxv
        have HY : Hid (y = xs.getD (k - 1) 0) := hyv
        clear hxv hyv
        by_cases hx1 : x < 1
        · clear cY
          go_wp2
          go_ret
          exact ⟨rfl, below_drew (Below.refl _ _) _⟩
        · by_cases hk0 : k = 0
          · have hd : decide (0 < k) = false := by simp; omega
            have RN : Hid (Rising (fun j => xs.getD j 0) (k + 1)) := by
              intro j hj
              have e : j = k := by omega
              refine ⟨?_, fun h => by omega⟩
              rw [e]
              show 1 ≤ xs.getD k 0
              rw [← HX.out]; omega
            clear cY
            have HK : Hid (k = 0) := hk0
            clear hk0
            go_wp2
            go_quiet (fail)
            go_wp2
            go_roundw
            case rel => exact ⟨k + 1, _, by omega, by go_num, rfl, RN.out⟩
            case measure => simp [intOf]; omega
          · have hk1 : 0 < k := by omega
            have hk2 : (k : Int) - 1 < (n : Int) := by omega
            have hk3 : (0 : Int) ≤ (k : Int) - 1 := by omega
            by_cases hxy : x < y
            · go_wp2
              go_quiet (fail)
              go_wp2
              go_ret
              exact ⟨rfl, below_drew (below_drew (Below.refl _ _) _) _⟩
            · have RN : Hid (Rising (fun j => xs.getD j 0) (k + 1)) := fun j hj => by
                by_cases e : j = k
                · subst e
                  refine ⟨?_, fun _ => ?_⟩
                  · show 1 ≤ xs.getD j 0; rw [← HX.out]; omega
                  · show xs.getD (j - 1) 0 ≤ xs.getD j 0; rw [← HX.out, ← HY.out]; omega
                · exact HR.out j (by omega)
              go_wp2
              go_quiet (fail)
              go_wp2
              go_roundw
              case rel => exact ⟨k + 1, _, by omega, by go_num, rfl, RN.out⟩
              case measure => simp [intOf]; omega
      -- CHECK END
      · have hkn : n = k := by omega
        subst hkn
        have bq : Below w'.heap.size w' (w'.drewN q) := below_drew (Below.refl _ _) q
        have sq : (w'.drewN q).heap.size = w'.heap.size := rfl
        obtain ⟨wq, hwq⟩ : ∃ wq, w'.drewN q = wq := ⟨_, rfl⟩
        rw [hwq] at bq sq ⊢
        have k0' := k0 wq bq
        clear hwq k0 HC2 hne
        obtain ⟨i9, hi9, hz90, hz91, hz92⟩ := info_parts Try.info9
        obtain ⟨i39, hi39, hz390, hz391, hz392⟩ := info_parts Try.info39
        go_wp2_with (first
          | (go_at_call 22; refine k0'.mono ?_; rintro e w1 ⟨rfl, r0, b1'⟩; have k1' := k1 w1 (bq.trans (b1'.mono (Nat.le_of_eq sq.symm))); clear k0' k1)
          | (go_at_call 23; refine k1'.mono ?_; rintro e w2 ⟨rfl, r1, b2'⟩; have b2'' := b1'.trans (b2'.mono b1'.size); have k2' := k2 w2 (bq.trans (b2''.mono (Nat.le_of_eq sq.symm))); clear k1' k2)
          | (go_at_call 24; refine k2'.mono ?_; rintro e w3 ⟨rfl, r2, b3'⟩; have b3'' := b2''.trans (b3'.mono b2''.size); have cT := own_cells (d := ByteArray.empty) H0.out r0 (b2'.trans (b3'.mono b2'.size)); have cF := own_cells (d := false) H1.out r1 b3'; have cX := own_cells (d := 0) H2.out r2 (Below.refl _ _); have lT := Nat.lt_of_lt_of_le (owned_lt r0).2 (Nat.le_trans b2'.size b3'.size); have lF := Nat.lt_of_lt_of_le (owned_lt r1).2 b3'.size; have lX := (owned_lt r2).2; clear k2' r0 r1 r2 b2' b3' b2'')
          | (go_at_call 25; refine (zznew_any _).mono ?_; rintro e w4 ⟨rfl, hw4⟩; have s4 : w4.heap.size = w3.heap.size + 3 := (by rw [hw4]; simp); have HW4 : Hid (w4 = _) := hw4; clear hw4)
          | (at_make; refine wpList_make_full _ rfl _ _ 41 rfl w3.heap.size 39 i39 (.pointer none) 1 Try.underlying41 hi39 hz390 hz391 _ _ _ _ n rfl rfl (by omega) (by omega) (by rw [hz392]; omega) (by unfold maxLen; omega) (by omega) ?_; intro w5 own5 g5)
          | (at_make; refine wpList_make_own _ rfl _ _ 32 rfl w3.heap.size 9 i9 (.string ByteArray.empty) 1 Try.underlying32 hi9 hz90 hz91 _ _ _ n rfl rfl (by omega) (by rw [hz92]; omega) (by unfold maxLen; omega) (by have := g5.size; omega) ?_; intro w6 own6 g6))
        rw [sq] at cT lT
        have mem := Mem.start HW4.out own5 g5 own6 g6
        have hW0 := g5.size
        have hfin : Below w'.heap.size w' w3 := bq.trans (b3''.mono (Nat.le_of_eq sq.symm))
        have CT : Hid _ := cT
        have CF : Hid _ := cF
        have CX : Hid _ := cX
        clear own5 g5 own6 g6 HW4 hz90 hz91 hz92 hz390 hz391 hz392 hi9 hi39 H0 H1 H2 cT cF cX bq sq b1' b3''
        go_loopw [11, 12] (fun want i wr => ∃ (k : Nat) (F : Nat → Prop) (v : Value) (st : List Kid) (P : Nat → Option Addr), k ≤ n ∧ i = .int .i64 k ∧ want = .slice (some ⟨w5.heap.size, 0, none⟩) st.length n ∧
            Mem w3.heap.size n w3 (w3.heap.size + 2) (w3.heap.size + 1) (w3.heap.size + 3) w5.heap.size wr F v st P ∧ Hist7 (fun j => ss.getD j ByteArray.empty) (fun j => bs.getD j false) (fun j => xs.getD j 0) k st P ∧ st.length ≤ k)
          (fun _ i _ => n - (intOf i).toNat)
        case atStart => exact ⟨0, _, _, [], _, by omega, rfl, rfl, mem, Hist7.start _ _ _ _, Nat.le_refl _⟩
        case round =>
          clear mem
          obtain ⟨k, F, v, st, P, hk2, rfl, rfl, mem, hist, hst⟩ := hrel
          by_cases hlt2 : k < n
          · have hlt' : (k : Int) < (n : Int) := by omega
            have cT := (mem.below.cell (p := ⟨w'.heap.size, k, none⟩) lT).trans (CT.out k hlt2)
            have cF := (mem.below.cell (p := ⟨w1.heap.size, k, none⟩) lF).trans (CF.out k hlt2)
            have cX := (mem.below.cell (p := ⟨w2.heap.size, k, none⟩) lX).trans (CX.out k hlt2)
            obtain ⟨s, hsv⟩ : ∃ s, s = ss.getD k ByteArray.empty := ⟨_, rfl⟩
            obtain ⟨fl, hfv⟩ : ∃ s, s = bs.getD k false := ⟨_, rfl⟩
            obtain ⟨x, hxv⟩ : ∃ s, s = xs.getD k 0 := ⟨_, rfl⟩
            rw [← hsv] at cT
            rw [← hfv] at cF
            rw [← hxv] at cX
            have HS : Hid (s = ss.getD k ByteArray.empty) := hsv
            have HF : Hid (fl = bs.getD k false) := hfv
            have HX : Hid (x = xs.getD k 0) := hxv
            have HM : Hid _ := mem
            have HH : Hid _ := hist
            have AP : Hid _ := mem.root.apart
            clear hsv hfv hxv mem hist
            have key := fun q => keep_mem HM.out (by omega) s fl x q
            have hgw := HM.out.gw
            go_wp2
            have key0 := key 1
            go_region_held3 (fun wx => wx.cell? ⟨w'.heap.size, k, none⟩ = some (.string s) ∧ wx.cell? ⟨w1.heap.size, k, none⟩ = some (.bool fl) ∧ wx.cell? ⟨w2.heap.size, k, none⟩ = some (.int .i64 x)) (go_keep)
              ((go_at_call 26; refine key0.mono ?_; rintro e w7 ⟨r, F', v', st', rfl, hroot, hstep, ownG, ownW, nG, nW, hbel⟩; have dT := (hbel.cell (p := ⟨w'.heap.size, k, none⟩) lT).trans (CT.out k hlt2); have dF := (hbel.cell (p := ⟨w1.heap.size, k, none⟩) lF).trans (CF.out k hlt2); have dX := (hbel.cell (p := ⟨w2.heap.size, k, none⟩) lX).trans (CX.out k hlt2); rw [← HS.out] at dT; rw [← HF.out] at dF; rw [← HX.out] at dX))
            rename_i hHeld
            go_wp2
            clear key key0 cT cF cX HM
            go_loopw [14, 15, 16] (fun f g j wr => ∃ jn q : Nat, jn ≤ k + 1 ∧ j = .int .i64 jn ∧ f = .int .i64 (fstI (fun j => ss.getD j ByteArray.empty) s jn) ∧ g = .int .i64 (ffI (fun j => ss.getD j ByteArray.empty) (fun j => bs.getD j false) s jn) ∧ wr = w7.drewN q) (fun _ _ j _ => k + 1 - (intOf j).toNat)
            case atStart => exact ⟨0, 0, by omega, rfl, rfl, rfl, rfl⟩
            case round =>
              obtain ⟨jn, q, hj, rfl, rfl, rfl, rfl⟩ := hrel
              by_cases hjk : jn ≤ k
              -- INNER BEGIN
              · have hjk' : (jn : Int) ≤ (k : Int) := by omega
                have hjn' : (jn : Int) < (n : Int) := by omega
                have eT := (hbel.cell (p := ⟨w'.heap.size, jn, none⟩) lT).trans (CT.out jn (by omega))
                have eF := (hbel.cell (p := ⟨w1.heap.size, jn, none⟩) lF).trans (CF.out jn (by omega))
                have EF : Hid (fstI (fun j => ss.getD j ByteArray.empty) s (jn + 1) = _) := fstI.eq_2 (fun j => ss.getD j ByteArray.empty) s jn
                have EG : Hid (ffI (fun j => ss.getD j ByteArray.empty) (fun j => bs.getD j false) s (jn + 1) = _) := ffI.eq_2 (fun j => ss.getD j ByteArray.empty) (fun j => bs.getD j false) s jn
                have fb := fstI_bd (fun j => ss.getD j ByteArray.empty) s jn
                have gb := ffI_bd (fun j => ss.getD j ByteArray.empty) (fun j => bs.getD j false) s jn
                obtain ⟨t, htv⟩ : ∃ t, t = ss.getD jn ByteArray.empty := ⟨_, rfl⟩
                obtain ⟨fj, hfv⟩ : ∃ t, t = bs.getD jn false := ⟨_, rfl⟩
                obtain ⟨fv, hfs⟩ : ∃ t, t = fstI (fun j => ss.getD j ByteArray.empty) s jn := ⟨_, rfl⟩
                obtain ⟨gv, hgs⟩ : ∃ t, t = ffI (fun j => ss.getD j ByteArray.empty) (fun j => bs.getD j false) s jn := ⟨_, rfl⟩
                simp only [← htv, ← hfv, ← hfs, ← hgs] at eT eF EF EG fb gb ⊢
                clear htv hfv hfs hgs
                have HR : Hid _ := hroot
                have HP : Hid _ := hstep
                clear hroot hstep ownG ownW hHeld
                by_cases htt : s = t
                · have EF1 : fstI (fun j => ss.getD j ByteArray.empty) s (jn + 1) = if fv < 0 then (jn : Int) else fv := by rw [EF.out]; simp [htt]
                  have EG1 : ffI (fun j => ss.getD j ByteArray.empty) (fun j => bs.getD j false) s (jn + 1) = if gv < 0 ∧ fj = true then (jn : Int) else gv := by rw [EG.out]; simp [htt]
                  subst htt
                  clear EF EG
                  obtain ⟨fv', hfc, EF2⟩ : ∃ fv' : Int, ((fv < 0 ∧ fv' = jn) ∨ (¬ fv < 0 ∧ fv' = fv)) ∧ Hid (fstI (fun j => ss.getD j ByteArray.empty) s (jn + 1) = fv') := by
                    by_cases c : fv < 0
                    · exact ⟨jn, .inl ⟨c, rfl⟩, by rw [EF1, if_pos c]; exact rfl⟩
                    · exact ⟨fv, .inr ⟨c, rfl⟩, by rw [EF1, if_neg c]; exact rfl⟩
                  clear EF1
                  rcases hfc with ⟨hf0, rfl⟩ | ⟨hf0, rfl⟩
                  all_goals
                    by_cases hg0 : gv < 0
                    · cases fj
                      · have EG2 : Hid (ffI (fun j => ss.getD j ByteArray.empty) (fun j => bs.getD j false) s (jn + 1) = gv) := by rw [EG1, if_neg (fun c => absurd c.2 (by simp))]; exact rfl
                        clear EG1
                        go_wp2
                        go_quiet (fail)
                        go_wp2
                        go_roundw
                        case rel => exact ⟨jn + 1, _, by omega, by go_num, by rw [EF2.out], by rw [EG2.out], rfl⟩
                        case measure => simp [intOf]; omega
                      · have EG2 : Hid (ffI (fun j => ss.getD j ByteArray.empty) (fun j => bs.getD j false) s (jn + 1) = jn) := by rw [EG1, if_pos ⟨hg0, rfl⟩]; exact rfl
                        clear EG1
                        go_wp2
                        go_quiet (fail)
                        go_wp2
                        go_roundw
                        case rel => exact ⟨jn + 1, _, by omega, by go_num, by rw [EF2.out], by rw [EG2.out], rfl⟩
                        case measure => simp [intOf]; omega
                    · have EG2 : Hid (ffI (fun j => ss.getD j ByteArray.empty) (fun j => bs.getD j false) s (jn + 1) = gv) := by rw [EG1, if_neg (fun c => hg0 c.1)]; exact rfl
                      clear EG1
                      go_wp2
                      go_quiet (fail)
                      go_wp2
                      go_roundw
                      case rel => exact ⟨jn + 1, _, by omega, by go_num, by rw [EF2.out], by rw [EG2.out], rfl⟩
                      case measure => simp [intOf]; omega
                · have hts : (t.toList == s.toList) = false := by
                    have : ¬ t.toList = s.toList := fun e => htt (bytes_ext e.symm)
                    simpa using this
                  have EF2 : Hid (fstI (fun j => ss.getD j ByteArray.empty) s (jn + 1) = fv) := by rw [EF.out, if_neg (fun c => htt c.2.symm)]; exact rfl
                  have EG2 : Hid (ffI (fun j => ss.getD j ByteArray.empty) (fun j => bs.getD j false) s (jn + 1) = gv) := by rw [EG.out, if_neg (fun c => htt c.2.1.symm)]; exact rfl
                  go_wp2
                  go_quiet (fail)
                  go_wp2
                  go_roundw
                  case rel => exact ⟨jn + 1, _, by omega, by go_num, by rw [EF2.out], by rw [EG2.out], rfl⟩
                  case measure => simp [intOf]; omega
              -- INNER END
              · have hjk' : k + 1 = jn := by omega
                subst hjk'
                have hroot8 := hroot.drewN q
                have ownG8 := own_drewN ownG q
                have ownW8 := own_drewN ownW q
                have hbel8 := below_drew hbel q
                have dX8 : (w7.drewN q).cell? ⟨w2.heap.size, k, none⟩ = some (.int .i64 x) := dX
                have dT8 : (w7.drewN q).cell? ⟨w'.heap.size, k, none⟩ = some (.string s) := dT
                obtain ⟨w8, hw8⟩ : ∃ w8, w7.drewN q = w8 := ⟨_, rfl⟩
                rw [hw8] at hroot8 ownG8 ownW8 hbel8 dX8 dT8 ⊢
                clear hw8 hroot ownG ownW hbel dF dX dT hHeld
                rcases hstep with ⟨p, hseek, hp0, hpx, rfl, rfl⟩ | ⟨p, hseek, hpn, rfl, hst'⟩ | ⟨hseek, nb, rfl, hst'⟩
                -- CASE1
                · obtain ⟨j0, hf, hj0, _⟩ := HH.out.fst_old (p := p) (by rw [← HS.out]; exact hseek)
                  obtain ⟨hpm, hpt⟩ := seek_mem hseek
                  obtain ⟨jf, hjf, f2, f3, f4, f5⟩ : ∃ j, j < k ∧ (fun j => ss.getD j ByteArray.empty) j = p.tag ∧ (fun j => bs.getD j false) j = true ∧ (∀ i, i < j → (fun j => ss.getD j ByteArray.empty) i = p.tag → (fun j => bs.getD j false) i = false) ∧ p.fin = (fun j => xs.getD j 0) j := by
                    rcases HH.out.fin p hpm with ⟨e, _⟩ | e
                    · exact absurd e hp0
                    · exact e
                  have hg := FinIs.ff1 (S := (fun j => ss.getD j ByteArray.empty)) (Fl := (fun j => bs.getD j false)) (hpt.trans HS.out) hjf f2 f3 f4
                  have HI : Hid _ := HH.out.stays AP.out (p := p) (by rw [← HS.out]; exact hseek) (.inl ⟨jf, hjf, f2, f3, f4, f5⟩)
                  simp only [← HS.out] at hf hg
                  rw [hf, hg]
                  have cY := (hbel8.cell (p := ⟨w2.heap.size, jf, none⟩) lX).trans (CX.out jf (by omega))
                  have hyx : xs.getD jf 0 < x := by
                    have e5 : p.fin = xs.getD jf 0 := f5
                    rw [← e5]; exact hpx
                  obtain ⟨y, hyv⟩ : ∃ y, y = xs.getD jf 0 := ⟨_, rfl⟩
                  rw [← hyv] at cY hyx
                  have hpos' : 0 < st'.length := List.length_pos_of_mem hpm
                  obtain ⟨g, cap, hv⟩ := hroot8.shape hpos'
                  subst hv
                  have mem9 : Mem w3.heap.size n w3 (w3.heap.size + 2) (w3.heap.size + 1) (w3.heap.size + 3) w5.heap.size w8 F' _ st' P := ⟨hroot8, ownG8, ownW8, nG, nW, hgw, hbel8, Nat.le_refl _⟩
                  have ow0 := fun (q : Nat) => zzfinal_any p.blk p.fin (w8.drewN q) (hroot8.kids p hpm).2.2.2.2.1
                  have ow1 := fun q => zzorder_any _ _ _ (mem9.root.drewN q).ord _ _ _ rfl
                  have ow2 := fun q => same_tags rfl (mem9.root.drewN q).own rfl (own_drewN mem9.want q) rfl (by omega)
                  have HM9 : Hid _ := mem9
                  have hjfk : (jf : Int) < (k : Int) := by omega
                  have hjfn : (jf : Int) < (n : Int) := by omega
                  have hj0e : ((j0 : Int) == (k : Int)) = false := by simp; omega
                  clear mem9 hroot8 ownG8 ownW8 hbel8 hseek hp0 hpx hf hg f2 f3 f4 f5 hyv hpm hpt
                  go_wp2
                  go_quiet (fail)
                  go_wp2_with (first | (go_at_call 27; go_must (refine (ow0 _).mono ?_; rintro e wx ⟨rfl, rfl⟩)) | (go_at_call 29; go_must (refine (ow1 _).mono ?_; rintro e wx ⟨rfl, rfl⟩)) | (go_at_call 28; go_must (refine (ow2 _).mono ?_; rintro e wx ⟨rfl, q2, rfl⟩)))
                  go_roundw
                  case rel => exact ⟨k + 1, _, _, _, _, by omega, by go_num, rfl, HM9.out.drewN _, HI.out, by omega⟩
                  case measure => simp [intOf]; omega
                -- CASE2
                · obtain ⟨j0, hf, hj0, hP⟩ := HH.out.fst_old (p := p) (by rw [← HS.out]; exact hseek)
                  obtain ⟨hpm, hpt⟩ := seek_mem hseek
                  have hlen : st'.length = st.length := by rw [hst']; split <;> simp [setFin_length]
                  have htag : (st'.map fun p => Value.string p.tag) = st.map fun p => Value.string p.tag := by rw [hst']; split <;> simp [setFin_tags]
                  have hpos' : 0 < st.length := List.length_pos_of_mem hpm
                  obtain ⟨g, cap, hv⟩ := hroot8.shape (by omega)
                  rw [hlen] at hv
                  subst hv
                  have hfc : w8.cell? ⟨w3.heap.size + 3, j0, none⟩ = some (.pointer (some ⟨p.blk, 0, none⟩)) := by
                    rw [ownG8.cellAt j0 (by omega), ptrs_at (by omega), hP]
                  have hj0' : (j0 : Int) < (n : Int) := by omega
                  have hj0e : ((j0 : Int) == (k : Int)) = false := by simp; omega
                  have hns := neq_self p.blk
                  have mem9 : Mem w3.heap.size n w3 (w3.heap.size + 2) (w3.heap.size + 1) (w3.heap.size + 3) w5.heap.size w8 F' _ st' P := ⟨hroot8, ownG8, by rw [hlen, htag]; exact ownW8, nG, nW, hgw, hbel8, Nat.le_refl _⟩
                  have hkid : w8.cell? ⟨p.blk, 3, none⟩ = some (.int .i64 (if fl then x else p.fin)) := by
                    by_cases c : fl = true
                    · rw [if_pos c] at hst' ⊢
                      have hm : ({ p with fin := x } : Kid) ∈ st' := by
                        rw [hst']
                        exact List.mem_map.2 ⟨p, hpm, by rw [if_pos hpt]⟩
                      exact (hroot8.kids _ hm).2.2.2.2.1
                    · rw [if_neg c] at hst' ⊢
                      rw [hst'] at hroot8
                      exact (hroot8.kids p hpm).2.2.2.2.1
                  have ow1 := fun q => zzorder_any _ _ _ (mem9.root.drewN q).ord _ _ _ rfl
                  have ow2 := fun q => same_tags hlen (mem9.root.drewN q).own rfl (own_drewN mem9.want q) (by rw [hlen]) (by omega)
                  have HM9 : Hid _ := mem9
                  have HLE : Hid (st'.length = _) := hlen
                  have hfin' := HH.out.fin p hpm
                  simp only [← HS.out] at hf
                  rw [hf]
                  clear mem9 ownG8 ownW8 hP htag hlen hf
                  rcases hfin' with ⟨hp0, hnone⟩ | ⟨jf, hjf, f2, f3, f4, f5⟩
                  · have hg := FinIs.ff0 (S := (fun j => ss.getD j ByteArray.empty)) (Fl := (fun j => bs.getD j false)) (hpt.trans HS.out) hnone
                    simp only [← HS.out, ← HF.out] at hg
                    cases fl
                    · have HI : Hid _ := HH.out.stays AP.out (p := p) (by rw [← HS.out]; exact hseek) (.inr HF.out.symm)
                      simp only [Bool.false_eq_true, if_false] at hg hst' hkid
                      rw [hp0] at hkid
                      rw [hg]
                      have HST : Hid (st' = _) := hst'
                      have ow0 := fun (q : Nat) => zzfinal_any p.blk 0 (w8.drewN q) hkid
                      clear hg hst' hroot8 hseek hpn hp0 hnone hpm hpt hbel8 hkid
                      go_wp2
                      go_quiet (fail)
                      go_wp2_with (first | (go_at_call 27; go_must (refine (ow0 _).mono ?_; rintro e wx ⟨rfl, rfl⟩)) | (go_at_call 29; go_must (refine (ow1 _).mono ?_; rintro e wx ⟨rfl, rfl⟩)) | (go_at_call 28; go_must (refine (ow2 _).mono ?_; rintro e wx ⟨rfl, q2, rfl⟩)))
                      go_roundw
                      case rel => exact ⟨k + 1, _, _, _, _, by omega, by go_num, by rw [HLE.out], HM9.out.drewN _, by rw [HST.out]; exact HI.out, by rw [HLE.out]; omega⟩
                      case measure => simp [intOf]; omega
                    · have HI : Hid _ := HH.out.marks AP.out (p := p) (by rw [← HS.out]; exact hseek) HF.out.symm (.inl ⟨hp0, hnone⟩)
                      simp only [← HS.out, ← HX.out] at HI
                      simp only [if_true] at hg hst' hkid
                      rw [hg]
                      have HST : Hid (st' = _) := hst'
                      have ow0 := fun (q : Nat) => zzfinal_any p.blk x (w8.drewN q) hkid
                      clear hg hst' hroot8 hseek hpn hp0 hnone hpm hpt hbel8 hkid
                      go_wp2
                      go_quiet (fail)
                      go_wp2_with (first | (go_at_call 27; go_must (refine (ow0 _).mono ?_; rintro e wx ⟨rfl, rfl⟩)) | (go_at_call 29; go_must (refine (ow1 _).mono ?_; rintro e wx ⟨rfl, rfl⟩)) | (go_at_call 28; go_must (refine (ow2 _).mono ?_; rintro e wx ⟨rfl, q2, rfl⟩)))
                      go_roundw
                      case rel => exact ⟨k + 1, _, _, _, _, by omega, by go_num, by rw [HLE.out], HM9.out.drewN _, by rw [HST.out]; exact HI.out, by rw [HLE.out]; omega⟩
                      case measure => simp [intOf]; omega
                  · have hg := FinIs.ff1 (S := (fun j => ss.getD j ByteArray.empty)) (Fl := (fun j => bs.getD j false)) (hpt.trans HS.out) hjf f2 f3 f4
                    simp only [← HS.out] at hg
                    rw [hg]
                    have hX1 := (HR.out jf (by omega)).1
                    have hX2 := HR.out.le jf k (by omega) (by omega)
                    have cY := (hbel8.cell (p := ⟨w2.heap.size, jf, none⟩) lX).trans (CX.out jf (by omega))
                    have hxx : xs.getD jf 0 = x := by
                      have e1 : p.fin = xs.getD jf 0 := f5
                      have e2 : 1 ≤ xs.getD jf 0 := hX1
                      have e3 : xs.getD jf 0 ≤ xs.getD k 0 := hX2
                      rw [← HX.out] at e3
                      by_cases c : p.fin < x
                      · exact absurd ⟨by omega, c⟩ hpn
                      · omega
                    have hkid' : w8.cell? ⟨p.blk, 3, none⟩ = some (.int .i64 x) := by
                      rw [hkid]
                      have e1 : p.fin = x := by
                        have : p.fin = xs.getD jf 0 := f5
                        rw [this, hxx]
                      rw [e1]; split <;> rfl
                    have HI : Hid (Hist7 (fun j => ss.getD j ByteArray.empty) (fun j => bs.getD j false) (fun j => xs.getD j 0) (k + 1) st' P) := by
                      by_cases c : fl = true
                      · rw [if_pos c] at hst'
                        rw [hst', HS.out, HX.out]
                        exact HH.out.marks AP.out (p := p) (by rw [← HS.out]; exact hseek) (by rw [← HF.out]; exact c) (.inr ⟨jf, hjf, f2, f3, f4, by rw [← HX.out]; exact hxx.symm⟩)
                      · rw [if_neg c] at hst'
                        rw [hst']
                        exact HH.out.stays AP.out (p := p) (by rw [← HS.out]; exact hseek) (.inl ⟨jf, hjf, f2, f3, f4, f5⟩)
                    rw [hxx] at cY
                    have ow0 := fun (q : Nat) => zzfinal_any p.blk x (w8.drewN q) hkid'
                    have hjfk : (jf : Int) < (k : Int) := by omega
                    have hjfn : (jf : Int) < (n : Int) := by omega
                    clear hg hst' hroot8 hseek hpn hpm hpt hbel8 hkid hkid' hX1 hX2 hxx f2 f3 f4 f5
                    go_wp2
                    go_quiet (fail)
                    go_wp2_with (first | (go_at_call 27; go_must (refine (ow0 _).mono ?_; rintro e wx ⟨rfl, rfl⟩)) | (go_at_call 29; go_must (refine (ow1 _).mono ?_; rintro e wx ⟨rfl, rfl⟩)) | (go_at_call 28; go_must (refine (ow2 _).mono ?_; rintro e wx ⟨rfl, q2, rfl⟩)))
                    go_roundw
                    case rel => exact ⟨k + 1, _, _, _, _, by omega, by go_num, by rw [HLE.out], HM9.out.drewN _, HI.out, by rw [HLE.out]; omega⟩
                    case measure => simp [intOf]; omega
                -- CASE3
                · have hf := HH.out.fst_new (by rw [← HS.out]; exact hseek)
                  have hg := HH.out.ff_new (by rw [← HS.out]; exact hseek)
                  have hist9 := HH.out.new (by rw [← HS.out]; exact hseek) nb
                  simp only [← HS.out, ← HF.out, ← HX.out] at hf hg hist9
                  have HI : Hid _ := hist9
                  clear hist9
                  subst hst'
                  obtain ⟨g, cap, hv⟩ := hroot8.shape (by simp)
                  have hL : ∀ kid : Kid, (st ++ [kid]).length = st.length + 1 := fun kid => by simp
                  rw [hL] at hv
                  subst hv
                  have hWB := (owned_lt ownW8).1
                  obtain ⟨i9', hi9, _, hz91, _⟩ := info_parts Try.info9
                  have HR8 : Hid _ := hroot8
                  have OG8 : Hid _ := ownG8
                  have OW8 : Hid _ := ownW8
                  have HB8 : Hid _ := hbel8
                  clear hroot8 hseek ownG8 ownW8 hbel8
                  cases fl
                  all_goals
                    simp only [if_true, Bool.false_eq_true, if_false] at hg
                    rw [hf, hg]
                    clear hf hg
                    go_wp2
                    go_quiet (fail)
                    have hroota := HR8.out.drewN nq
                    have ownGa := own_drewN OG8.out nq
                    have ownWa := own_drewN OW8.out nq
                    have hbela := below_drew HB8.out nq
                    have dXa : (w8.drewN nq).cell? ⟨w2.heap.size, k, none⟩ = some (.int .i64 x) := dX8
                    have dTa : (w8.drewN nq).cell? ⟨w'.heap.size, k, none⟩ = some (.string s) := dT8
                    obtain ⟨wa, hwa⟩ : ∃ wa, w8.drewN nq = wa := ⟨_, rfl⟩
                    rw [hwa] at hroota ownGa ownWa hbela dXa dTa ⊢
                    clear hwa HR8 OG8 OW8 HB8 dX8 dT8
                    go_wp2_with (first | (at_builtin; go_must (refine wpList_append_fits _ rfl _ _ 32 rfl w3.heap.size 9 i9' 1 Try.underlying32 hi9 hz91 w5.heap.size st.length n _ rfl (ownWa.alloc _) ⟨wa.heap.size, 0, none⟩ 1 1 [.string s] rfl rfl (cell_one_at _ _ _ _ (by simp)) (by simp [Value.oneCell']) (by omega) ?_; intro w9 own9 g9; have mem9 := Mem.add7 (k := k) (r := some ⟨nb, 0, none⟩) hroota ownGa nG nW hgw hbela (Nat.le_refl _) hWB own9 g9; obtain ⟨pv, hpv, hpf⟩ := mem_slot7 ownGa hgw hlt2 g9; have eX := (mem9.below.cell (p := ⟨w2.heap.size, k, none⟩) lX).trans (CX.out k hlt2); rw [← HX.out] at eX; have hkid := (mem9.root.kids ⟨s, nb, _⟩ (List.mem_append_right _ (List.mem_singleton.2 rfl))).2.2.2.2.1; simp only [if_true, Bool.false_eq_true, if_false] at hkid; have HM9 : Hid _ := mem9; have ow0 := zzfinal_any _ _ _ hkid; have ow1 := zzorder_any _ _ _ mem9.root.ord _ _ _ rfl; have ow2 := same_tags (hL _) mem9.root.own rfl mem9.want (by rw [hL]) (by omega); clear own9 g9 mem9)) | (go_at_call 27; go_must (refine ow0.mono ?_; rintro e wx ⟨rfl, rfl⟩)) | (go_at_call 29; go_must (refine ow1.mono ?_; rintro e wx ⟨rfl, rfl⟩)) | (go_at_call 28; go_must (refine ow2.mono ?_; rintro e wx ⟨rfl, q2, rfl⟩)))
                    go_roundw
                    case rel => exact ⟨k + 1, _, _, _, _, by omega, by go_num, by simp, HM9.out.drewN _, HI.out, by simp; omega⟩
                    case measure => simp [intOf]; omega
          · go_wp2
            go_ret
            exact ⟨rfl, hfin.trans (mem.below.mono hfin.size)⟩
end Go.Proofs.Qxb6600554a
