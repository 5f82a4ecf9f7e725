import Derived.Test.Qxb6600554aInv
import Derived.Test.Qxb6600554aPtr
import Derived.Deep.RegionHeld3
import Derived.Deep.DeepCutAuto
namespace Go.Proofs.Qxb6600554a
open Go.RowKit

theorem Try.info39 : (Try.prog.info? 39).map (fun i => (i.zero, i.size, i.bytes)) = some (some (.pointer none), 1, 8) := by kernel_rfl

theorem own_cells {α : Type} {f : α → Value} {d : α} {w w' : World} {B e g n : Nat} {zs : List α} (hl : zs.length = n) (h : w.ownsRow B e 1 (.slice (some ⟨g, 0, none⟩) n n) n (zs.map f)) (hb : Below w.heap.size w w') :
    ∀ i, i < n → w'.cell? ⟨g, i, none⟩ = some (f (zs.getD i d)) := by
  intro i hi
  have := (owned_lt h).2
  rw [hb.cell (p := ⟨g, i, none⟩) this, h.cellAt i (by omega)]
  simp [List.getD, hl, hi]

theorem ptrs_made (n : Nat) : (madeCells (Value.pointer none).cells (n * 1)).toList = ptrs n (fun _ => none) := by
  rw [Nat.mul_one]
  refine (toList_madeCells_one (Value.pointer none) n).trans ?_
  apply List.ext_getElem?
  intro i
  by_cases h : i < n <;> simp [ptrs, h]

/-- The tree as 'newProfileNode' lays it. -/
theorem Root.made (w3 w4 : World) (hw : w4 = ((w3.alloc (.map #[] 0)).alloc (.map #[] 0)).alloc (.cells #[.map (some w3.heap.size), .map (some (w3.heap.size + 1)), .slice none 0 0, .int .i64 0] 64)) :
    Root w4 w3.heap.size (w3.heap.size + 2) (w3.heap.size + 1) (fun k => k = w3.heap.size + 1 ∨ k = w3.heap.size + 2) (.slice none 0 0) [] := by
  subst hw
  refine ⟨.inr rfl, .inl rfl, by omega, ?_, ?_, ?_, ?_, World.ownsRow_nil _ _ _ _, ?_, ?_, ?_, List.Pairwise.nil⟩
  · rintro k (rfl | rfl) <;> simp
  · rw [World.cell?_alloc_at _ _ _ _ (by simp)]; rfl
  · rw [World.cell?_alloc_at _ _ _ _ (by simp)]; rfl
  · exact World.frozen?_alloc_at _ _ _ _ (by simp)
  · intro k hk; simp [Value.ownBlock] at hk
  · have h : MapFn ((w3.alloc (.map #[] 0)).alloc (.map #[] 0)) (w3.heap.size + 1) (fun _ => none) := by
      have := MapFn.made (w3.alloc (.map #[] 0))
      simpa using this
    exact h.same (Below.heap_alloc _ _ _ (by simp))
  · intro p hp; exact absurd hp List.not_mem_nil

theorem Mem.start {n : Nat} {w3 w4 w5 w6 : World} (hw : w4 = ((w3.alloc (.map #[] 0)).alloc (.map #[] 0)).alloc (.cells #[.map (some w3.heap.size), .map (some (w3.heap.size + 1)), .slice none 0 0, .int .i64 0] 64))
    (own5 : w5.ownsRow w3.heap.size 39 1 (.slice (some ⟨w4.heap.size, 0, none⟩) n n) n (madeCells (Value.pointer none).cells (n * 1)).toList) (g5 : w4.grownBy w5 none)
    (own6 : w6.ownsRow w3.heap.size 9 1 (.slice (some ⟨w5.heap.size, 0, none⟩) 0 n) 0 []) (g6 : w5.grownBy w6 none) :
    Mem w3.heap.size n w3 (w3.heap.size + 2) (w3.heap.size + 1) (w3.heap.size + 3) w5.heap.size w6 (fun k => k = w3.heap.size + 1 ∨ k = w3.heap.size + 2) (.slice none 0 0) [] (fun _ => none) := by
  have s4 : w4.heap.size = w3.heap.size + 3 := by rw [hw]; simp
  have s5 := g5.size
  have s6 := g6.size
  have e6 : ∀ k, k < w4.heap.size → w6.heap[k]? = w4.heap[k]? := fun k hk => (g6.block k (by omega) (by simp)).trans (g5.block k hk (by simp))
  have l5 := (owned_lt own5).2
  rw [s4, ptrs_made] at own5
  rw [s4] at l5
  refine ⟨(Root.made w3 w4 hw).same (by omega) ?_, own_same own5 ?_, own6, by omega, by omega, by omega, ?_, Nat.le_refl _⟩
  · rintro k (rfl | rfl) <;> exact e6 _ (by omega)
  · intro k hk
    simp only [Value.ownBlock, Option.some.injEq] at hk
    subst hk
    exact g6.block _ l5 (by simp)
  · have b4 : Below w3.heap.size w3 w4 := by
      rw [hw]; exact (((Below.refl _ _).alloc (Nat.le_refl _) _).alloc (by simp) _).alloc (by simp; omega) _
    exact (b4.grown g5 (by omega) (by simp)).grown g6 (by omega) (by simp)

set_option maxRecDepth 100000 in
set_option maxHeartbeats 1600000 in
theorem law8_main (b0 o0 c0 : Nat) (ss : List ByteArray) (b1 o1 c1 : Nat) (bs : List Bool) (b2 o2 c2 : Nat) (xs : List Int) (w : World)
    (h0 : ∀ i, i < ss.length → w.cell? ⟨b0, o0 + i, none⟩ = some (.string (ss.getD i ByteArray.empty))) (h1 : ∀ i, i < bs.length → w.cell? ⟨b1, o1 + i, none⟩ = some (.bool (bs.getD i false)))
    (h2 : ∀ i, i < xs.length → w.cell? ⟨b2, o2 + i, none⟩ = some (.int .i64 (xs.getD i 0))) (hs : ∀ s ∈ ss, s.size ≤ maxLen)
    (hle : ss.length ≤ 4096) (h01 : bs.length = ss.length) (h02 : xs.length = ss.length) (hpos : 0 < ss.length) :
    Calls Try.prog 8 #[.slice (some ⟨b0, o0, none⟩) ss.length c0, .slice (some ⟨b1, o1, none⟩) bs.length c1, .slice (some ⟨b2, o2, none⟩) xs.length c2] w fun e w' => e = .returned (.bool true) ∧ Below w.heap.size w w' := by
  have l0 : b0 < w.heap.size := World.block_lt_of_cell? _ _ (h0 0 hpos)
  have l1 : b1 < w.heap.size := World.block_lt_of_cell? _ _ (h1 0 (by omega))
  have l2 : b2 < w.heap.size := World.block_lt_of_cell? _ _ (h2 0 (by omega))
  have kb := bytes30_any (some ⟨b0, o0, none⟩) c0 ss (some ⟨b1, o1, none⟩) bs.length c1 (some ⟨b2, o2, none⟩) xs.length c2 w (by unfold maxLen; omega) (by unfold maxLen; omega) (by unfold maxLen; omega) (.inr ⟨_, _, rfl, h0⟩) hs
  have kf := fit_any (some ⟨b0, o0, none⟩) c0 ss (some ⟨b1, o1, none⟩) bs.length c1 (some ⟨b2, o2, none⟩) xs.length c2 w hle (by omega) (by omega) (.inr ⟨_, _, rfl, h0⟩)
  have k0 := clS_some b0 o0 c0 ss w (by omega) l0 h0
  have k1 := fun w1 (hb : Below w.heap.size w w1) => clB_some b1 o1 c1 bs w1 (by omega) (Nat.lt_of_lt_of_le l1 hb.size) (fun i hi => (hb.cell (p := ⟨b1, o1 + i, none⟩) l1).trans (h1 i hi))
  have k2 := fun w1 (hb : Below w.heap.size w w1) => clI_some b2 o2 c2 xs w1 (by omega) (Nat.lt_of_lt_of_le l2 hb.size) (fun i hi => (hb.cell (p := ⟨b2, o2 + i, none⟩) l2).trans (h2 i hi))
  rw [h01, h02] at kb kf
  rw [h01] at k1 ⊢
  rw [h02] at k2 ⊢
  obtain ⟨n, hn⟩ : ∃ n, n = ss.length := ⟨_, rfl⟩
  have H0 : Hid (ss.length = n) := hn.symm
  rw [← hn] at kb kf k0 k1 k2 hle hpos ⊢
  have H1 : Hid (bs.length = n) := h01.trans hn.symm
  have H2 : Hid (xs.length = n) := h02.trans hn.symm
  clear hn h01 h02 h0 h1 h2 hs l0 l1 l2
  have hne : ((n : Int) != (n : Int)) = false := by simp
  obtain ⟨i9, hi9, hz90, hz91, hz92⟩ := info_parts Try.info9
  obtain ⟨i39, hi39, hz390, hz391, hz392⟩ := info_parts Try.info39
  go_enter Try.func8, Try.ntmps8
  go_wp2_with (first
    | (go_at_call 30; refine kb.mono ?_; rintro e w' ⟨⟨r, rfl⟩, rfl⟩; clear kb; cases r)
    | (go_at_call 21; refine kf.mono ?_; rintro e w' ⟨⟨r, rfl⟩, rfl⟩; clear kf; cases r)
    | (go_at_call 22; refine k0.mono ?_; rintro e w1 ⟨rfl, r0, b1'⟩; have k1' := k1 w1 b1'; clear k0 k1)
    | (go_at_call 23; refine k1'.mono ?_; rintro e w2 ⟨rfl, r1, b2'⟩; have b2'' := b1'.trans (b2'.mono b1'.size); have k2' := k2 w2 b2''; clear k1' k2)
    | (go_at_call 24; refine k2'.mono ?_; rintro e w3 ⟨rfl, r2, b3'⟩; have b3'' := b2''.trans (b3'.mono b2''.size); have cT := own_cells (d := ByteArray.empty) H0.out r0 (b2'.trans (b3'.mono b2'.size)); have cF := own_cells (d := false) H1.out r1 b3'; have cX := own_cells (d := 0) H2.out r2 (Below.refl _ _); have lT := Nat.lt_of_lt_of_le (owned_lt r0).2 (Nat.le_trans b2'.size b3'.size); have lF := Nat.lt_of_lt_of_le (owned_lt r1).2 b3'.size; have lX := (owned_lt r2).2; clear k2' r0 r1 r2 b2' b3' b2'')
    | (go_at_call 25; refine (zznew_any _).mono ?_; rintro e w4 ⟨rfl, hw4⟩; have s4 : w4.heap.size = w3.heap.size + 3 := (by rw [hw4]; simp); have HW4 : Hid (w4 = _) := hw4; clear hw4)
    | (at_make; refine wpList_make_full _ rfl _ _ 41 rfl w3.heap.size 39 i39 (.pointer none) 1 Try.underlying41 hi39 hz390 hz391 _ _ _ _ n rfl rfl (by omega) (by omega) (by rw [hz392]; omega) (by unfold maxLen; omega) (by omega) ?_; intro w5 own5 g5)
    | (at_make; refine wpList_make_own _ rfl _ _ 32 rfl w3.heap.size 9 i9 (.string ByteArray.empty) 1 Try.underlying32 hi9 hz90 hz91 _ _ _ n rfl rfl (by omega) (by rw [hz92]; omega) (by unfold maxLen; omega) (by have := g5.size; omega) ?_; intro w6 own6 g6))
  · go_ret
    exact ⟨rfl, Below.refl _ _⟩
  · go_ret
    exact ⟨rfl, Below.refl _ _⟩
  · have mem := Mem.start HW4.out own5 g5 own6 g6
    have hW0 := g5.size
    clear own5 g5 own6 g6 HW4 hz90 hz91 hz92 hz390 hz391 hz392 hi9 hi39 H0 H1 H2 hne
    have CT : Hid _ := cT
    have CF : Hid _ := cF
    have CX : Hid _ := cX
    clear cT cF cX
    go_loopw [10, 11] (fun want i wr => ∃ (k : Nat) (F : Nat → Prop) (v : Value) (st : List Kid) (P : Nat → Option Addr), k ≤ n ∧ i = .int .i64 k ∧ want = .slice (some ⟨w5.heap.size, 0, none⟩) st.length n ∧
        Mem w3.heap.size n w3 (w3.heap.size + 2) (w3.heap.size + 1) (w3.heap.size + 3) w5.heap.size wr F v st P ∧ Hist (fun j => ss.getD j ByteArray.empty) (fun j => bs.getD j false) (fun j => xs.getD j 0) k st P ∧ st.length ≤ k)
      (fun _ i _ => n - (intOf i).toNat)
    case atStart => exact ⟨0, _, _, [], _, by omega, rfl, rfl, mem, Hist.start _ _ _ _, Nat.le_refl _⟩
    case round =>
      clear mem
      obtain ⟨k, F, v, st, P, hk, rfl, rfl, mem, hist, hst⟩ := hrel
      by_cases hlt : k < n
      · have hlt' : (k : Int) < (n : Int) := by omega
        have cT := (mem.below.cell (p := ⟨w'.heap.size, k, none⟩) lT).trans (CT.out k hlt)
        have cF := (mem.below.cell (p := ⟨w1.heap.size, k, none⟩) lF).trans (CF.out k hlt)
        have cX := (mem.below.cell (p := ⟨w2.heap.size, k, none⟩) lX).trans (CX.out k hlt)
        obtain ⟨s, hsv⟩ : ∃ s, s = ss.getD k ByteArray.empty := ⟨_, rfl⟩
        obtain ⟨fl, hfv⟩ : ∃ s, s = bs.getD k false := ⟨_, rfl⟩
        obtain ⟨x, hxv⟩ : ∃ s, s = xs.getD k 0 := ⟨_, rfl⟩
        rw [← hsv] at cT
        rw [← hfv] at cF
        rw [← hxv] at cX
        have HS : Hid (s = ss.getD k ByteArray.empty) := hsv
        have HF : Hid (fl = bs.getD k false) := hfv
        have HX : Hid (x = xs.getD k 0) := hxv
        have HM : Hid _ := mem
        have HH : Hid _ := hist
        clear hsv hfv hxv mem hist
        go_wp2
        go_quiet ((go_at_call 26; exact Calls.quiet_of_same (zzkeep_nil _ _ _ _)))
        go_wp2
        have key := fun q => keep_mem HM.out (by omega) s fl x q
        have hgw := HM.out.gw
        go_region_held3 (fun wx => wx.cell? ⟨w'.heap.size, k, none⟩ = some (.string s) ∧ wx.cell? ⟨w1.heap.size, k, none⟩ = some (.bool fl) ∧ wx.cell? ⟨w2.heap.size, k, none⟩ = some (.int .i64 x)) (go_keep)
          ((go_at_call 26; refine (key _).mono ?_; rintro e w7 ⟨r, F', v', st', rfl, hroot, hstep, ownG, ownW, nG, nW, hbel⟩; have dT := (hbel.cell (p := ⟨w'.heap.size, k, none⟩) lT).trans (CT.out k hlt); have dF := (hbel.cell (p := ⟨w1.heap.size, k, none⟩) lF).trans (CF.out k hlt); have dX := (hbel.cell (p := ⟨w2.heap.size, k, none⟩) lX).trans (CX.out k hlt); rw [← HS.out] at dT; rw [← HF.out] at dF; rw [← HX.out] at dX))
        rename_i hHeld
        go_wp2
        clear key cT cF cX HM
        go_loopw [13, 14, 15] (fun f m j wr => ∃ jn q : Nat, jn ≤ k ∧ j = .int .i64 jn ∧ f = .int .i64 (fstI (fun j => ss.getD j ByteArray.empty) s jn) ∧
            m = .bool (mayR (fun j => ss.getD j ByteArray.empty) (fun j => bs.getD j false) (fun j => xs.getD j 0) s x jn) ∧ wr = w7.drewN q) (fun _ _ j _ => k - (intOf j).toNat)
        case atStart => exact ⟨0, 0, by omega, rfl, rfl, rfl, rfl⟩
        case round =>
          obtain ⟨jn, q, hj, rfl, rfl, rfl, rfl⟩ := hrel
          by_cases hjk : jn < k
          -- INNER BEGIN
          · have hjk' : (jn : Int) < (k : Int) := by omega
            have hjn' : (jn : Int) < (n : Int) := by omega
            have eT := (hbel.cell (p := ⟨w'.heap.size, jn, none⟩) lT).trans (CT.out jn (by omega))
            have eF := (hbel.cell (p := ⟨w1.heap.size, jn, none⟩) lF).trans (CF.out jn (by omega))
            have eX := (hbel.cell (p := ⟨w2.heap.size, jn, none⟩) lX).trans (CX.out jn (by omega))
            have EF : Hid (fstI (fun j => ss.getD j ByteArray.empty) s (jn + 1) = _) := fstI.eq_2 (fun j => ss.getD j ByteArray.empty) s jn
            have EM : Hid (mayR (fun j => ss.getD j ByteArray.empty) (fun j => bs.getD j false) (fun j => xs.getD j 0) s x (jn + 1) = _) := mayR.eq_2 (fun j => ss.getD j ByteArray.empty) (fun j => bs.getD j false) (fun j => xs.getD j 0) s x jn
            have fb := fstI_bd (fun j => ss.getD j ByteArray.empty) s jn
            obtain ⟨t, htv⟩ : ∃ t, t = ss.getD jn ByteArray.empty := ⟨_, rfl⟩
            obtain ⟨fj, hfv⟩ : ∃ t, t = bs.getD jn false := ⟨_, rfl⟩
            obtain ⟨xj, hxv⟩ : ∃ t, t = xs.getD jn 0 := ⟨_, rfl⟩
            obtain ⟨fv, hfs⟩ : ∃ t, t = fstI (fun j => ss.getD j ByteArray.empty) s jn := ⟨_, rfl⟩
            obtain ⟨mv, hmv⟩ : ∃ t, t = mayR (fun j => ss.getD j ByteArray.empty) (fun j => bs.getD j false) (fun j => xs.getD j 0) s x jn := ⟨_, rfl⟩
            simp only [← htv, ← hfv, ← hxv, ← hfs, ← hmv] at eT eF eX EF EM fb ⊢
            clear htv hfv hxv hfs hmv
            by_cases htt : s = t
            · have EF1 : fstI (fun j => ss.getD j ByteArray.empty) s (jn + 1) = if fv < 0 then (jn : Int) else fv := by rw [EF.out]; simp [htt]
              have EM1 : mayR (fun j => ss.getD j ByteArray.empty) (fun j => bs.getD j false) (fun j => xs.getD j 0) s x (jn + 1) = if fj = true ∧ xj ≠ 0 ∧ xj < x then true else mv := by rw [EM.out]; simp [htt]
              subst htt
              have HR : Hid _ := hroot
              have HP : Hid _ := hstep
              clear hroot hstep ownG ownW hHeld EF EM
              obtain ⟨fv', hfc, EF2⟩ : ∃ fv' : Int, ((fv < 0 ∧ fv' = jn) ∨ (¬ fv < 0 ∧ fv' = fv)) ∧ Hid (fstI (fun j => ss.getD j ByteArray.empty) s (jn + 1) = fv') := by
                by_cases c : fv < 0
                · exact ⟨jn, .inl ⟨c, rfl⟩, by rw [EF1, if_pos c]; exact rfl⟩
                · exact ⟨fv, .inr ⟨c, rfl⟩, by rw [EF1, if_neg c]; exact rfl⟩
              clear EF1
              rcases hfc with ⟨hf0, rfl⟩ | ⟨hf0, rfl⟩
              all_goals
                cases fj
                · have EM2 : Hid (mayR (fun j => ss.getD j ByteArray.empty) (fun j => bs.getD j false) (fun j => xs.getD j 0) s x (jn + 1) = mv) := by rw [EM1, if_neg (fun c => absurd c.1 (by simp))]; exact rfl
                  clear EM1
                  go_wp2
                  go_quiet (fail)
                  go_wp2
                  go_quiet (fail)
                  go_wp2
                  go_roundw
                  case rel => exact ⟨jn + 1, _, by omega, by go_num, by rw [EF2.out], by rw [EM2.out], rfl⟩
                  case measure => simp [intOf]; omega
                · by_cases hx0 : xj = 0
                  · have EM2 : Hid (mayR (fun j => ss.getD j ByteArray.empty) (fun j => bs.getD j false) (fun j => xs.getD j 0) s x (jn + 1) = mv) := by rw [EM1, if_neg (fun c => c.2.1 hx0)]; exact rfl
                    have hx0' : (xj != 0) = false := by simpa using hx0
                    clear hx0 EM1
                    go_wp2
                    go_quiet (fail)
                    go_wp2
                    go_quiet (fail)
                    go_wp2
                    go_roundw
                    case rel => exact ⟨jn + 1, _, by omega, by go_num, by rw [EF2.out], by rw [EM2.out], rfl⟩
                    case measure => simp [intOf]; omega
                  · have hx0' : (xj != 0) = true := by simpa using hx0
                    by_cases hxx : xj < x
                    · have EM2 : Hid (mayR (fun j => ss.getD j ByteArray.empty) (fun j => bs.getD j false) (fun j => xs.getD j 0) s x (jn + 1) = true) := by rw [EM1, if_pos ⟨rfl, hx0, hxx⟩]; exact rfl
                      clear EM1
                      go_wp2
                      go_quiet (fail)
                      go_wp2
                      go_quiet (fail)
                      go_wp2
                      go_roundw
                      case rel => exact ⟨jn + 1, _, by omega, by go_num, by rw [EF2.out], by rw [EM2.out], rfl⟩
                      case measure => simp [intOf]; omega
                    · have EM2 : Hid (mayR (fun j => ss.getD j ByteArray.empty) (fun j => bs.getD j false) (fun j => xs.getD j 0) s x (jn + 1) = mv) := by rw [EM1, if_neg (fun c => hxx c.2.2)]; exact rfl
                      clear EM1
                      go_wp2
                      go_quiet (fail)
                      go_wp2
                      go_quiet (fail)
                      go_wp2
                      go_roundw
                      case rel => exact ⟨jn + 1, _, by omega, by go_num, by rw [EF2.out], by rw [EM2.out], rfl⟩
                      case measure => simp [intOf]; omega
            · have hts : (t.toList == s.toList) = false := by
                have : ¬ t.toList = s.toList := fun e => htt (bytes_ext e.symm)
                simpa using this
              have EF2 : Hid (fstI (fun j => ss.getD j ByteArray.empty) s (jn + 1) = fv) := by rw [EF.out, if_neg (fun c => htt c.2.symm)]; exact rfl
              have EM2 : Hid (mayR (fun j => ss.getD j ByteArray.empty) (fun j => bs.getD j false) (fun j => xs.getD j 0) s x (jn + 1) = mv) := by rw [EM.out, if_neg (fun c => htt c.1.symm)]; exact rfl
              go_wp2
              go_quiet (fail)
              go_wp2
              go_roundw
              case rel => exact ⟨jn + 1, _, by omega, by go_num, by rw [EF2.out], by rw [EM2.out], rfl⟩
              case measure => simp [intOf]; omega
          -- INNER END
          · have hjk' : jn = k := by omega
            subst hjk'
            have hroot8 := hroot.drewN q
            have ownG8 := own_drewN ownG q
            have ownW8 := own_drewN ownW q
            have hbel8 := below_drew hbel q
            have dF8 : (w7.drewN q).cell? ⟨w1.heap.size, jn, none⟩ = some (.bool fl) := dF
            have dX8 : (w7.drewN q).cell? ⟨w2.heap.size, jn, none⟩ = some (.int .i64 x) := dX
            have dT8 : (w7.drewN q).cell? ⟨w'.heap.size, jn, none⟩ = some (.string s) := dT
            obtain ⟨w8, hw8⟩ : ∃ w8, w7.drewN q = w8 := ⟨_, rfl⟩
            rw [hw8] at hroot8 ownG8 ownW8 hbel8 dF8 dX8 dT8 ⊢
            clear hw8 hroot ownG ownW hbel dF dX dT hHeld
            rcases hstep with ⟨p, hseek, hp0, hpx, rfl, rfl⟩ | ⟨p, hseek, hpn, rfl, hst'⟩ | ⟨hseek, nb, rfl, hst'⟩
            · obtain ⟨j0, hf, hj0, _⟩ := HH.out.fst_some (p := p) (by rw [← HS.out]; exact hseek)
              have hm := HH.out.may (p := p) (by rw [← HS.out]; exact hseek) hp0 (by rw [← HX.out]; exact hpx)
              have HI : Hid _ := HH.out.refused (p := p) (by rw [← HS.out]; exact hseek)
              simp only [← HS.out, ← HX.out] at hf hm
              rw [hf, hm]
              clear hf hm
              have hpos' : 0 < st'.length := List.length_pos_of_mem (seek_mem hseek).1
              obtain ⟨g, cap, hv⟩ := hroot8.shape hpos'
              subst hv
              have mem9 : Mem w3.heap.size n w3 (w3.heap.size + 2) (w3.heap.size + 1) (w3.heap.size + 3) w5.heap.size w8 F' _ st' P := ⟨hroot8, ownG8, ownW8, nG, nW, hgw, hbel8, Nat.le_refl _⟩
              have ow1 := fun q => zzorder_any _ _ _ (mem9.root.drewN q).ord _ _ _ rfl
              have ow2 := fun q => same_tags rfl (mem9.root.drewN q).own rfl (own_drewN mem9.want q) rfl (by omega)
              have HM9 : Hid _ := mem9
              clear mem9 hroot8 ownG8 ownW8 hbel8 hseek hp0 hpx
              go_wp2
              go_quiet (fail)
              go_wp2_with (first | (go_at_call 29; go_must (refine (ow1 _).mono ?_; rintro e wx ⟨rfl, rfl⟩)) | (go_at_call 28; go_must (refine (ow2 _).mono ?_; rintro e wx ⟨rfl, q2, rfl⟩)))
              go_roundw
              case rel => exact ⟨jn + 1, _, _, _, _, by omega, by go_num, rfl, HM9.out.drewN _, HI.out, by omega⟩
              case measure => simp [intOf]; omega
            · obtain ⟨j0, hf, hj0, hP⟩ := HH.out.fst_some (p := p) (by rw [← HS.out]; exact hseek)
              have HI : Hid _ := HH.out.accepted (p := p) (by rw [← HS.out]; exact hseek)
              simp only [← HS.out, ← HX.out, ← HF.out] at hf HI
              rw [hf]
              have hlen : st'.length = st.length := by rw [hst']; split <;> simp [setFin_length]
              have htag : (st'.map fun p => Value.string p.tag) = st.map fun p => Value.string p.tag := by rw [hst']; split <;> simp [setFin_tags]
              have hpos' : 0 < st.length := List.length_pos_of_mem (seek_mem hseek).1
              obtain ⟨g, cap, hv⟩ := hroot8.shape (by omega)
              rw [hlen] at hv
              subst hv
              have hfc : w8.cell? ⟨w3.heap.size + 3, j0, none⟩ = some (.pointer (some ⟨p.blk, 0, none⟩)) := by
                rw [ownG8.cellAt j0 (by omega), ptrs_at (by omega), hP]
              have hj0' : (j0 : Int) < (n : Int) := by omega
              have hns := neq_self p.blk
              have mem9 : Mem w3.heap.size n w3 (w3.heap.size + 2) (w3.heap.size + 1) (w3.heap.size + 3) w5.heap.size w8 F' _ st' P := ⟨hroot8, ownG8, by rw [hlen, htag]; exact ownW8, nG, nW, hgw, hbel8, Nat.le_refl _⟩
              have hkid : fl = true → w8.cell? ⟨p.blk, 3, none⟩ = some (.int .i64 x) := by
                intro hfl
                rw [if_pos hfl] at hst'
                have hm : ({ p with fin := x } : Kid) ∈ st' := by
                  rw [hst']
                  exact List.mem_map.2 ⟨p, (seek_mem hseek).1, by rw [if_pos (seek_mem hseek).2]⟩
                exact (hroot8.kids _ hm).2.2.2.2.1
              have ow1 := fun q => zzorder_any _ _ _ (mem9.root.drewN q).ord _ _ _ rfl
              have ow2 := fun q => same_tags hlen (mem9.root.drewN q).own rfl (own_drewN mem9.want q) (by rw [hlen]) (by omega)
              have HM9 : Hid _ := mem9
              have HST : Hid (st' = _) := hst'
              have HLE : Hid (st'.length = _) := hlen
              clear mem9 hroot8 ownG8 ownW8 hbel8 hseek hpn hf hP hst' hlen htag
              cases fl
              · clear hkid
                go_wp2
                go_quiet (fail)
                go_wp2_with (first | (go_at_call 29; go_must (refine (ow1 _).mono ?_; rintro e wx ⟨rfl, rfl⟩)) | (go_at_call 28; go_must (refine (ow2 _).mono ?_; rintro e wx ⟨rfl, q2, rfl⟩)))
                go_roundw
                case rel => exact ⟨jn + 1, _, _, _, _, by omega, by go_num, by rw [HLE.out], HM9.out.drewN _, by rw [HST.out]; exact HI.out, by rw [HLE.out]; omega⟩
                case measure => simp [intOf]; omega
              · have hkid' := hkid rfl
                clear hkid
                go_wp2
                go_quiet ((go_at_call 27; exact Calls.quiet_of_same (zzfinal_any _ _ _ hkid')))
                go_wp2_with (first | (go_at_call 29; go_must (refine (ow1 _).mono ?_; rintro e wx ⟨rfl, rfl⟩)) | (go_at_call 28; go_must (refine (ow2 _).mono ?_; rintro e wx ⟨rfl, q2, rfl⟩)))
                go_roundw
                case rel => exact ⟨jn + 1, _, _, _, _, by omega, by go_num, by rw [HLE.out], HM9.out.drewN _, by rw [HST.out]; exact HI.out, by rw [HLE.out]; omega⟩
                case measure => simp [intOf]; omega
            · have hf : fstI (fun j => ss.getD j ByteArray.empty) s jn = -1 := by
                have := HH.out.fst_none (by rw [← HS.out]; exact hseek)
                rw [← HS.out] at this
                exact this
              rw [hf]
              have hist9 := HH.out.new (by rw [← HS.out]; exact hseek) nb
              simp only [← HS.out, ← HF.out, ← HX.out] at hist9
              have HI : Hid _ := hist9
              clear hf hist9
              subst hst'
              obtain ⟨g, cap, hv⟩ := hroot8.shape (by simp)
              have hL : ∀ kid : Kid, (st ++ [kid]).length = st.length + 1 := fun kid => by simp
              rw [hL] at hv
              subst hv
              obtain ⟨pv, hpv⟩ : ∃ pv, w8.cell? ⟨w3.heap.size + 3, jn, none⟩ = some pv := by
                rw [ownG8.cellAt jn (by omega)]; exact ⟨_, ptrs_at hlt⟩
              have hpf := ownG8.frozenAt jn
              have ownW9 := own_set ownW8 (a := ⟨w3.heap.size + 3, jn, none⟩) (Ne.symm hgw) (.pointer (some ⟨nb, 0, none⟩))
              have hWB := (owned_lt ownW8).1
              obtain ⟨i9', hi9, _, hz91, _⟩ := info_parts Try.info9
              have HR8 : Hid _ := hroot8
              clear hroot8 ownW8 hseek
              cases fl
              all_goals
                go_wp2_with (at_builtin; go_must (refine wpList_append_fits _ rfl _ _ 32 rfl w3.heap.size 9 i9' 1 Try.underlying32 hi9 hz91 w5.heap.size st.length n _ rfl (ownW9.alloc _) ⟨w8.heap.size, 0, none⟩ 1 1 [.string s] rfl rfl (cell_one_at _ _ _ _ (by simp)) (by simp [Value.oneCell']) (by omega) ?_; intro w9 own9 g9))
                have mem9 := Mem.add HR8.out ownG8 nG nW hgw hbel8 (Nat.le_refl _) hWB own9 g9
                have eF := (mem9.below.cell (p := ⟨w1.heap.size, jn, none⟩) lF).trans (CF.out jn hlt)
                have eX := (mem9.below.cell (p := ⟨w2.heap.size, jn, none⟩) lX).trans (CX.out jn hlt)
                rw [← HF.out] at eF
                rw [← HX.out] at eX
                have hkid := (mem9.root.kids ⟨s, nb, _⟩ (List.mem_append_right _ (List.mem_singleton.2 rfl))).2.2.2.2.1
                simp only [if_true, Bool.false_eq_true, if_false] at hkid
                have HM9 : Hid _ := mem9
                have ow1 := fun q => zzorder_any _ _ _ (mem9.root.drewN q).ord _ _ _ rfl
                have ow2 := fun q => same_tags (hL _) (mem9.root.drewN q).own rfl (own_drewN mem9.want q) (by rw [hL]) (by omega)
                clear own9 g9 HR8 ownG8 ownW9 mem9 hpv hpf hbel8 dF8 dX8 dT8 hL
              · go_quiet (fail)
                go_wp2_with (first | (go_at_call 29; go_must (refine (ow1 _).mono ?_; rintro e wx ⟨rfl, rfl⟩)) | (go_at_call 28; go_must (refine (ow2 _).mono ?_; rintro e wx ⟨rfl, q2, rfl⟩)))
                go_roundw
                case rel => exact ⟨jn + 1, _, _, _, _, by omega, by go_num, by simp, HM9.out.drewN _, HI.out, by simp; omega⟩
                case measure => simp [intOf]; omega
              · go_quiet ((go_at_call 27; exact Calls.quiet_of_same (zzfinal_any _ _ _ hkid)))
                go_wp2_with (first | (go_at_call 29; go_must (refine (ow1 _).mono ?_; rintro e wx ⟨rfl, rfl⟩)) | (go_at_call 28; go_must (refine (ow2 _).mono ?_; rintro e wx ⟨rfl, q2, rfl⟩)))
                go_roundw
                case rel => exact ⟨jn + 1, _, _, _, _, by omega, by go_num, by simp, HM9.out.drewN _, HI.out, by simp; omega⟩
                case measure => simp [intOf]; omega
      · go_wp2
        go_ret
        exact ⟨rfl, b3''.trans (mem.below.mono b3''.size)⟩
end Go.Proofs.Qxb6600554a
