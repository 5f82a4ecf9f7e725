/-
  'FnMoreAndPlainNumberReadBackAnArray' (function 8).
-/
import Derived.Test.Qxb6600608aState
namespace Go.Proofs.Qxb6600608a
open Go.RowKit
open Plain
set_option linter.unusedVariables false

theorem Try.info3 : (Try.prog.info? 3).map (fun i => (i.zero, i.size, i.bytes)) = some (some (.int .i64 0), 1, 8) := by kernel_rfl
theorem under47 : Try.prog.underlying 47 = some (.slice 3) := by kernel_rfl

/-- The n numbers lie at a. -/
def Num64 (w : World) (a : Option Addr) (n : Nat) : Prop :=
  ∀ j, j < n → ∃ (B o : Nat) (z : Int), a = some ⟨B, o, none⟩ ∧ w.cell? ⟨B, o + j, none⟩ = some (.int .i64 z) ∧ z < 9223372036854775808 ∧ -9223372036854775808 ≤ z
theorem Num64.below {w w1 : World} {a : Option Addr} {n : Nat} (h : Num64 w a n) (hb : Below w.heap.size w w1) : Num64 w1 a n := by
  intro j hj
  obtain ⟨B, o, z, ha, hc, h1, h2⟩ := h j hj
  exact ⟨B, o, z, ha, (hb.cell (p := ⟨B, o + j, none⟩) (World.block_lt_of_cell? _ _ hc)).trans hc, h1, h2⟩

/-- The law's end. -/
def Good8 (w : World) (e : Ending) (w' : World) : Prop := e = .returned (.bool true) ∧ Below w.heap.size w w'

theorem zero_row {w : World} {S n : Nat} (h : w.ownsRow S 3 1 (.slice (some ⟨S, 0, none⟩) n n) n (madeCells (Value.int .i64 0).cells (n * 1)).toList) : IntRow w S n (fun _ => 0) := by
  have e : (madeCells (Value.int .i64 0).cells (n * 1)).toList = List.replicate n (Value.int .i64 0) := by rw [Nat.mul_one]; exact toList_madeCells_one _ _
  rw [e] at h
  refine ⟨fun j hj => ?_, fun j => h.frozenAt j, (h.lt S rfl).2⟩
  rw [h.cellAt j (by omega)]
  simp [hj]

/-- 'appendSpace': some white space. -/
def SpEx (T cap : Nat) (xs : List Int) (w : World) (e : Ending) (w' : World) : Prop :=
  ∃ (s : List Int) (L : Nat), (∀ y ∈ s, isSp y = true) ∧ s.length ≤ 2 ∧ e = .returned (.slice (some ⟨T, 0, none⟩) L cap) ∧ L = (xs ++ s).length ∧ Txt w' T cap (xs ++ s) ∧ Upd (fun k => k = T) w w'
theorem space_ex (T cap L : Nat) (xs : List Int) (sel : Int) (w : World) (hL : L = xs.length) (h : Txt w T cap xs) (hr : L + 2 ≤ cap) :
    Calls Try.prog 31 #[.slice (some ⟨T, 0, none⟩) L cap, .int .u8 sel] w (SpEx T cap xs w) :=
  (space_any T cap L xs sel w hL h hr).mono fun e w' ⟨he, ht, hu⟩ => ⟨spc sel, _, spc_sp sel, spc_len sel, he, rfl, ht, hu⟩
/-- 'appendInt': some integer. -/
def IntEx (T cap : Nat) (xs : List Int) (w : World) (e : Ending) (w' : World) : Prop :=
  ∃ (s : List Int) (L : Nat), IsInt s ∧ e = .returned (.slice (some ⟨T, 0, none⟩) L cap) ∧ L = (xs ++ s).length ∧ Txt w' T cap (xs ++ s) ∧ Upd (fun k => k = T) w w'
theorem int_ex (T cap L : Nat) (xs : List Int) (x : Int) (w : World) (hL : L = xs.length) (h : Txt w T cap xs) (hr : L + 21 ≤ cap) (hx : x < 9223372036854775808) (hx2 : -9223372036854775808 ≤ x) :
    Calls Try.prog 32 #[.slice (some ⟨T, 0, none⟩) L cap, .int .i64 x] w (IntEx T cap xs w) :=
  (int_any T cap L xs x w hL (by rw [hL]; exact h) hr hx hx2).mono fun e w' ⟨ds, hd, he, ht, hu⟩ => ⟨ds, _, hd, he, rfl, ht, hu⟩

theorem txt_own {w : World} {T cap L : Nat} {xs : List Int} (hL : L = xs.length) (h : Txt w T cap xs) : w.ownsRow T 5 1 (.slice (some ⟨T, 0, none⟩) L cap) L (xs.map (Value.int .u8)) := by
  rw [hL]; exact h

theorem start8 {wB wT wS wN w6 : World} {n cap : Nat} {o : Obj} (ownT : wT.ownsRow wB.heap.size 5 1 (.slice (some ⟨wB.heap.size, 0, none⟩) 0 cap) 0 []) (gS : wT.grownBy wS none)
    (ownS : wS.ownsRow wT.heap.size 3 1 (.slice (some ⟨wT.heap.size, 0, none⟩) n n) n (madeCells (Value.int .i64 0).cells (n * 1)).toList) (gN : wS.grownBy wN none)
    (ownN : wN.ownsRow wS.heap.size 3 1 (.slice (some ⟨wS.heap.size, 0, none⟩) n n) n (madeCells (Value.int .i64 0).cells (n * 1)).toList) (gT : wB.grownBy wT none)
    (own6 : w6.ownsRow wB.heap.size 5 1 (.slice (some ⟨wB.heap.size, 0, none⟩) (0 + 1) cap) (0 + 1) ([] ++ [.int .u8 91])) (g6 : (wN.alloc o).grownBy w6 (some wB.heap.size)) :
    St w6 w6 wB.heap.size wT.heap.size wS.heap.size n cap [91] (fun _ => 0) (fun _ => 0) ∧ Below wB.heap.size wB w6 ∧ wB.heap.size < wT.heap.size ∧ wT.heap.size < wS.heap.size := by
  have l1 : wB.heap.size < wT.heap.size := (ownT.lt _ rfl).2
  have l2 : wT.heap.size < wS.heap.size := (ownS.lt _ rfl).2
  have l3 : wS.heap.size < wN.heap.size := (ownN.lt _ rfl).2
  have s6 : wN.heap.size ≤ w6.heap.size := by have := g6.size; simp at this; omega
  have hb : ∀ k, k < wN.heap.size → k ≠ wB.heap.size → w6.heap[k]? = wN.heap[k]? := fun k hk hne => by
    rw [g6.block k (by simp; omega) (by intro e; injection e; omega)]
    exact ((Below.refl wN.heap.size wN).alloc (Nat.le_refl _) o).block k hk
  refine ⟨⟨own6, ?_, ?_, Upd.refl _ _, by omega, by omega, by omega⟩, ?_, l1, l2⟩
  · exact (zero_row ownS).same ((hb _ (by omega) (by omega)).trans (gN.block _ l2 (by simp))) (by have := gN.size; omega)
  · exact (zero_row ownN).same (hb _ l3 (by omega)) s6
  · exact ((((Below.refl wB.heap.size wB).grown gT (Nat.le_refl _) (by simp)).grown gS (by omega) (by simp)).grown gN (by omega) (by simp)).alloc (by omega) o |>.grown g6 (by simp; omega) (by intro k e; injection e; omega)

theorem num_bd {num : List Int} (h : IsNum num) : ∀ y ∈ num, 0 ≤ y ∧ y ≤ 255 := by
  obtain ⟨sg, D, F, E, rfl, hsg, _, hd, _, hF, hE⟩ := h
  intro y hy
  simp only [List.mem_append] at hy
  rcases hy with hy | hy | hy | hy
  · rcases hsg with rfl | rfl <;> simp at hy
    omega
  · have := (isDg_iff y).1 (hd y hy); omega
  · rcases hF with rfl | rfl <;> simp at hy
    omega
  · rcases hE with rfl | rfl <;> simp at hy
    omega
theorem sp_bd {y : Int} (h : isSp y = true) : 0 ≤ y ∧ y ≤ 255 := by
  have := (isSp_iff y).1 h; omega
theorem lays_bd {n : Nat} {its : List Itm} (h : ∀ it ∈ its, it.Ok) (k : Nat) : ∀ y ∈ lays n k its, 0 ≤ y ∧ y ≤ 255 := by
  induction its generalizing k with
  | nil => intro y hy; cases hy
  | cons it r ih =>
    intro y hy
    have ho := h it (List.mem_cons_self ..)
    have hq : ∀ q : Bool, y ∈ qm q → 0 ≤ y ∧ y ≤ 255 := by intro q hq; cases q <;> simp [qm] at hq; omega
    have hs : ∀ q : Bool, y ∈ sep q → 0 ≤ y ∧ y ≤ 255 := by intro q hq; cases q <;> simp [sep] at hq; omega
    rw [lays, Itm.lay] at hy
    simp only [List.mem_append] at hy
    rcases hy with (hy | hy | hy | hy | hy | hy) | hy
    · exact sp_bd (ho.s1 y hy)
    · exact hq _ hy
    · exact num_bd ho.num y hy
    · exact hq _ hy
    · exact sp_bd (ho.s2 y hy)
    · exact hs _ hy
    · exact ih (fun i hi => h i (List.mem_cons_of_mem _ hi)) _ y hy

theorem txt_byt {w : World} {T cap : Nat} {xs : List Int} (h : Txt w T cap xs) (hb : ∀ y ∈ xs, 0 ≤ y ∧ y ≤ 255) : Byt w (some ⟨T, 0, none⟩) xs.length (fun j => xs.getD j 0) := by
  refine ⟨fun i => ?_, fun j hj => ⟨T, 0, rfl, ?_⟩⟩
  · by_cases hi : i < xs.length
    · have := hb (xs.getD i 0) (by simp [List.getD, hi])
      exact this
    · simp [List.getD, hi]
  · rw [Nat.zero_add, World.ownsRow.cellAt h j (by omega)]
    simp [List.getD, hj]

/-- The law is ready to read. -/
structure Ready (w6 w : World) (T S N n cap L : Nat) (b : Nat → Int) (f g : Nat → Nat) (its : List Itm) : Prop where
  byt : Byt w (some ⟨T, 0, none⟩) L b
  st : IntRow w S n f
  en : IntRow w N n g
  upd : Upd (fun j => j = T ∨ j = S ∨ j = N) w6 w
  lt : T < w.heap.size
  rd : Rd b L n f g 1 0 true its

theorem ready_of {w6 w : World} {T S N n cap L : Nat} {xs : List Int} {f g : Nat → Nat} {its : List Itm} (h : St w6 w T S N n cap (xs ++ [10, 9] ++ [93]) f g) (hB : Built n n xs f g its) (hL : L = (xs ++ [10, 9] ++ [93]).length) : ∃ b, Ready w6 w T S N n cap L b f g its := by
  refine ⟨fun j => (xs ++ [10, 9] ++ [93]).getD j 0, ?_, h.st, h.en, h.upd, h.txt.lt, ?_⟩
  · rw [hL]
    refine txt_byt h.txt ?_
    obtain ⟨_, hx, _, hok, _⟩ := hB
    intro y hy
    rw [hx] at hy
    simp only [List.mem_append, List.mem_cons, List.not_mem_nil, or_false] at hy
    rcases hy with ((rfl | hy) | rfl | rfl) | rfl
    · omega
    · exact lays_bd hok 0 y hy
    · omega
    · omega
    · omega
  · rw [hL]; exact hB.ready

/-- 'ZZMore' ahead of an item; behind it 'plainNumber' finds the item. -/
theorem more_item {w : World} {T cap L n i k : Nat} {b : Nat → Int} {f g : Nat → Nat} {first : Bool} {it : Itm} {r : List Itm} (hb : Byt w (some ⟨T, 0, none⟩) L b) (hT : T < w.heap.size) (hi : i ≤ L) (hL : L ≤ 4194304) (h : Rd b L n f g i k first (it :: r)) :
    ∃ j, k < n ∧ Calls Try.prog 33 #[.slice (some ⟨T, 0, none⟩) L cap, .int .i64 i, .int .i64 1, .bool false, .int .u8 93, .bool first] w (ZMPost true j 1 w) ∧ StepAt b L n f g j k r := by
  cases first with
  | true =>
    obtain ⟨hk, h1, h2, h3⟩ := rd_first h
    refine ⟨_, hk, zm_of _ _ _ _ _ _ _ _ _ fun w1 hc hbl => more_first _ _ _ b _ i _ w1 (hb.below hbl) hi hL (fun B o s e => by cases e; omega) hc rfl h1 h2, h3⟩
  | false =>
    obtain ⟨hk, h1, h2, h3⟩ := rd_next h
    refine ⟨_, hk, zm_of _ _ _ _ _ _ _ _ _ fun w1 hc hbl => more_comma _ _ _ b _ i _ w1 (hb.below hbl) hi hL (fun B o s e => by cases e; omega) hc rfl h1 h2, h3⟩
theorem more_done {w : World} {T cap L n i k : Nat} {b : Nat → Int} {f g : Nat → Nat} {first : Bool} (hb : Byt w (some ⟨T, 0, none⟩) L b) (hT : T < w.heap.size) (hi : i ≤ L) (hL : L ≤ 4194304) (h : Rd b L n f g i k first []) :
    k = n ∧ Calls Try.prog 33 #[.slice (some ⟨T, 0, none⟩) L cap, .int .i64 i, .int .i64 1, .bool false, .int .u8 93, .bool first] w (ZMPost false L 0 w) := by
  obtain ⟨hk, h1, h2⟩ := rd_end h
  have k := zm_of (some ⟨T, 0, none⟩) L cap i first false (run isSp b L i + 1) 0 w fun w1 hc hbl => more_close _ _ _ b _ i _ _ w1 (hb.below hbl) hi hL (fun B o s e => by cases e; omega) hc rfl (by omega) h2
  rw [h1] at k
  exact ⟨hk, k⟩

/-- 'ZZPlainNumber' at an item. -/
theorem plain_item {T cap L n j k : Nat} {b : Nat → Int} {f g : Nat → Nat} {r : List Itm} (hL : L ≤ 4194304) (hcp : L ≤ cap) (hcm : cap ≤ maxLen) (h : StepAt b L n f g j k r) :
    ∃ a e c : Nat, f k = a ∧ g k = a + e ∧ a < L ∧ a + e ≤ L ∧ Rd b L n f g c (k + 1) false r ∧ ∀ w, Byt w (some ⟨T, 0, none⟩) L b → T < w.heap.size → Calls Try.prog 23 #[.slice (some ⟨T, 0, none⟩) L cap, .int .i64 j, .int .i64 1, .bool false] w (ZZPost (.slice (some ⟨T, a, none⟩) e (cap - a)) c 1 false w) := by
  obtain ⟨hj, hok, hS, hE, hR⟩ := h
  have hsc : (scan (fun i => b (pS b L j + i)) (L - pS b L j)).2 = true := by
    unfold pOk at hok
    simp only [Bool.and_eq_true] at hok
    exact hok.1
  have hle : pE b L j ≤ L - pS b L j := scan_le _ _ hsc
  have hSL := (pS_le (b := b) hj).2
  have hlt : pS b L j < L := by
    by_cases e : pS b L j < L
    · exact e
    · have e0 : L - pS b L j = 0 := by omega
      rw [e0] at hsc
      have e1 : scan (fun i => b (pS b L j + i)) 0 = intg (fun i => b (pS b L j + i)) 0 0 := by unfold scan; rw [if_neg (by omega)]
      rw [e1, intg, run_zero, if_pos rfl] at hsc
      cases hsc
  have e1 : pV b L j T 0 cap = .slice (some ⟨T, pS b L j, none⟩) (pE b L j) (cap - pS b L j) := by simp [pV, hok]
  refine ⟨_, _, _, hS.symm, hE.symm, hlt, by omega, hR, fun w hb hT => ?_⟩
  have k := zz_some T 0 L cap b j 1 false w hb hj hL hcp hcm hT
  rw [e1] at k
  exact k
theorem view_txt {w : World} {T L : Nat} {b : Nat → Int} (h : Byt w (some ⟨T, 0, none⟩) L b) {a e : Nat} (he : a + e ≤ L) (q : Nat) : ∀ i, i < e → ∃ z : Int, (w.drewN q).cell? ⟨T, a + i, none⟩ = some (.int .u8 z) := by
  intro i hi
  obtain ⟨B', o', ee, hc⟩ := h.2 (a + i) (by omega)
  cases ee
  rw [Nat.zero_add] at hc
  exact ⟨_, hc⟩
theorem rd_le {b : Nat → Int} {L n i k : Nat} {f g : Nat → Nat} {first : Bool} {rest : List Itm} (h : Rd b L n f g i k first rest) : i ≤ L ∧ k ≤ n := by
  obtain ⟨hk, _, s2, _, _, _, hL, _⟩ := h
  omega

set_option maxRecDepth 100000 in
set_option maxHeartbeats 3200000 in
theorem eight (a0 : Option Addr) (n c0 : Nat) (a1 : Option Addr) (m c1 : Nat) (b : Nat → Int) (w : World) (hn : n ≤ 65536) (hm : m ≤ 65536) (hs : 8 * n + m ≤ 1048576)
    (k28 : Calls Try.prog 28 #[.slice a0 n c0, .slice a1 m c1] w fun e w' => e = .returned (.bool true) ∧ w = w')
    (k29 : Calls Try.prog 29 #[.slice a0 n c0] w fun e w' => (∃ a' cap', e = .returned (.slice a' n cap') ∧ Num64 w' a' n) ∧ Below w.heap.size w w')
    (k20 : ∀ w1, Below w.heap.size w w1 → Calls Try.prog 20 #[.slice a1 m c1] w1 fun e w' => (∃ a' cap', e = .returned (.slice a' m cap') ∧ Byt w' a' m b) ∧ Below w1.heap.size w1 w') :
    Calls Try.prog 8 #[.slice a0 n c0, .slice a1 m c1] w (Good8 w) := by
  obtain ⟨i0, hi, hz0, hz1, hz2⟩ := info_parts Try.info5
  obtain ⟨i3, hi3, hy0, hy1, hy2⟩ := info_parts Try.info3
  have h1 : ¬ (65536 : Int) < (n : Int) := by omega
  have h2 : ¬ (65536 : Int) < (m : Int) := by omega
  have h3 : ¬ (1048576 : Int) < 8 * (n : Int) + (m : Int) := by omega
  go_enter Try.func8, Try.ntmps8
  go_wp2_with (first
    | (go_at_call 28; go_must (refine k28.mono ?_; rintro e wx ⟨rfl, rfl⟩; clear k28))
    | (go_at_call 29; go_must (refine k29.mono ?_; rintro e wA ⟨⟨aN, cN, rfl, hNum⟩, hbA⟩; have k20' := k20 wA hbA; clear k29 k20))
    | (go_at_call 20; go_must (refine k20'.mono ?_; rintro e wB ⟨⟨aF, cF, rfl, hByt⟩, hbB⟩; clear k20'; have hNumB := hNum.below hbB; have hbAB := hbA.trans (hbB.mono hbA.size); clear hNum hbA hbB))
    | (at_make; refine wpList_make_own _ rfl _ _ 33 rfl wB.heap.size 5 i0 (.int .u8 0) 1 Try.underlying33 hi hz0 hz1 _ _ _ (40 * n + 8) rfl rfl (by omega) (by rw [hz2]; omega) (by unfold maxLen; omega) (Nat.le_refl _) ?_; intro wT ownT gT)
    | (at_make; refine wpList_make_full _ rfl _ _ 47 rfl wS.heap.size 3 i3 (.int .i64 0) 1 under47 hi3 hy0 hy1 _ _ _ _ n rfl rfl (by omega) (by omega) (by rw [hy2]; omega) (by unfold maxLen; omega) (Nat.le_refl _) ?_; intro wN ownN gN)
    | (at_make; refine wpList_make_full _ rfl _ _ 47 rfl wT.heap.size 3 i3 (.int .i64 0) 1 under47 hi3 hy0 hy1 _ _ _ _ n rfl rfl (by omega) (by omega) (by rw [hy2]; omega) (by unfold maxLen; omega) (Nat.le_refl _) ?_; intro wS ownS gS)
    | (at_builtin; refine wpList_append_fits _ rfl _ _ 33 rfl wB.heap.size 5 i0 1 Try.underlying33 hi hz1 wB.heap.size 0 (40 * n + 8) [] rfl (((ownT.kept gS (.inr (by simp [Value.ownBlock]))).kept gN (.inr (by simp [Value.ownBlock]))).alloc _) ⟨wN.heap.size, 0, none⟩ 1 1 [.int .u8 91] rfl rfl (new_cells wN [.int .u8 91] 5) (by simp [Value.oneCell']) (by omega) ?_; intro w6 own6 g6))
  -- the state at the first loop
  obtain ⟨hSt, hB6, hTS, hSN⟩ := start8 ownT gS ownS gN ownN gT own6 g6
  have hW6 : Below w.heap.size w w6 := hbAB.trans (hB6.mono hbAB.size)
  have hT6 : wB.heap.size ≤ w6.heap.size := hB6.size
  have hTw : w.heap.size ≤ wB.heap.size := hbAB.size
  obtain ⟨T, hT⟩ : ∃ T, T = wB.heap.size := ⟨_, rfl⟩
  obtain ⟨S, hS⟩ : ∃ S, S = wT.heap.size := ⟨_, rfl⟩
  obtain ⟨N, hN⟩ : ∃ N, N = wS.heap.size := ⟨_, rfl⟩
  obtain ⟨cap, hcap⟩ : ∃ cap, cap = 40 * n + 8 := ⟨_, rfl⟩
  rw [← hT, ← hS, ← hN, ← hcap] at hSt
  rw [← hT] at hB6 hT6 hTw hTS
  rw [← hS] at hTS hSN
  rw [← hN] at hSN
  rw [← hT, ← hS, ← hN, ← hcap]
  have HNum : Hid (Num64 wB aN n) := hNumB
  have HByt : Hid (Byt wB aF m b) := hByt
  have HB6 : Hid (Below T wB w6) := hB6
  have HTB : Hid (T = wB.heap.size) := hT
  have HCAP : Hid (cap = 40 * n + 8) := hcap
  have HW6 : Hid (Below w.heap.size w w6) := hW6
  clear hNumB hByt hB6 hT hcap hW6 hS hN ownT gS ownS gN ownN gT own6 g6 hbAB h1 h2 h3
  go_loopw [5, 8, 9, 10] (fun v5 v8 v9 v10 wr => ∃ (k L : Nat) (xs : List Int) (f g : Nat → Nat) (its : List Itm), k ≤ n ∧ v8 = .int .i64 (k : Int) ∧ v5 = .slice (some ⟨T, 0, none⟩) L cap ∧ L = xs.length ∧ St w6 wr T S N n cap xs f g ∧ Built n k xs f g its) (fun _ v8 _ _ _ => n - (intOf v8).toNat)
  case atStart => exact ⟨0, 1, [91], _, _, [], Nat.zero_le _, rfl, rfl, rfl, hSt, rfl, rfl, by decide, by simp, trivial⟩
  case round =>
    clear hSt
    obtain ⟨k, L, xs, f, g, its, hk, rfl, rfl, hL, hSt, hBt⟩ := hrel
    have hBel : Below T wB wr := HB6.out.trans (hSt.upd.below hT6 (by rintro j (rfl | rfl | rfl) <;> omega))
    have hlen : L ≤ 1 + 35 * k := by rw [hL]; exact hBt.2.2.1
    by_cases hlt : k < n
    · as_aux_lemma =>
      have hlt' : (k : Int) < (n : Int) := by omega
      have hroom : L + 35 ≤ cap := by have := HCAP.out; omega
      have hFl := HByt.out.below (by rw [← HTB.out]; exact hBel)
      have HBt : Hid (Built n k xs f g its) := hBt
      have HSt : Hid (St w6 wr T S N n cap xs f g) := hSt
      have HL : Hid (L = xs.length) := hL
      clear hBt hSt hL hBel
      go_upto_region 16 with (first
        | (go_at_call 30; go_must (refine (flag_any aF m cF b k wr hFl).mono ?_; rintro e wf ⟨⟨z, hzl, hzh, rfl⟩, rfl⟩))
        | (go_at_call 31; go_must (refine (space_ex T cap L xs _ wr HL.out HSt.out.txt (by omega)).mono ?_; rintro e w1 ⟨s1, L1, hs1, hl1, rfl, hL1, ht1, hu1⟩; have hb1 : L1 ≤ L + 2 := (by rw [hL1, List.length_append, ← HL.out]; omega); have HL1 : Hid (L1 = (xs ++ s1).length) := hL1; have HS1 : Hid (∀ y ∈ s1, isSp y = true) := hs1; have HSt1 : Hid (St w6 w1 T S N n cap (xs ++ s1) f g) := HSt.out.app hu1 ht1; clear hL1 hs1 ht1 hu1)))
      go_cut [10] (fun v wx => (∃ q : Bool, v = .bool q) ∧ w1 = wx)
      case first =>
        go_wp2
        go_meet
        case rel => exact ⟨⟨_, rfl⟩, rfl⟩
      case rest =>
      obtain ⟨⟨q, rfl⟩, rfl⟩ := hcut
      go_upto_if 88 with fail
      go_cut [5] (fun v wx => ∃ L2 : Nat, v = .slice (some ⟨T, 0, none⟩) L2 cap ∧ L2 = (xs ++ s1 ++ qm q).length ∧ L2 ≤ L1 + 1 ∧ St w6 wx T S N n cap (xs ++ s1 ++ qm q) f g)
      case first =>
        cases q
        case false =>
          go_wp2
          go_meet
          case rel => exact ⟨L1, rfl, by rw [HL1.out]; simp [qm], by omega, by simpa [qm] using HSt1.out⟩
        case true =>
          go_wp2_with (at_builtin; refine wpList_append_fits _ rfl _ _ 33 rfl T 5 i0 1 Try.underlying33 hi hz1 T L1 cap ((xs ++ s1).map (Value.int .u8)) rfl (World.ownsRow.alloc (txt_own HL1.out HSt1.out.txt) _) ⟨w1.heap.size, 0, none⟩ 1 1 [.int .u8 34] rfl rfl (new_cells w1 [.int .u8 34] 5) (by simp [Value.oneCell']) (by omega) ?_; intro wy owny gy)
          go_meet
          case rel => exact ⟨L1 + 1, rfl, by rw [List.length_append, ← HL1.out]; rfl, by omega, HSt1.out.more HL1.out owny gy rfl rfl⟩
      case rest =>
      obtain ⟨L2, rfl, hL2, hb2, hSt2⟩ := hcut
      have HL2 : Hid (L2 = (xs ++ s1 ++ qm q).length) := hL2
      have HSt3 : Hid (St w6 (wc.setCell ⟨S, k, none⟩ (.int .i64 (L2 : Int))) T S N n cap (xs ++ s1 ++ qm q) (put f k L2) g) := hSt2.setS hlt L2
      have cS := hSt2.st.cell k hlt
      have gS := hSt2.st.free k
      have hBel3 : Below T wB (wc.setCell ⟨S, k, none⟩ (.int .i64 (L2 : Int))) := HB6.out.trans (HSt3.out.upd.below hT6 (by rintro j (rfl | rfl | rfl) <;> omega))
      obtain ⟨BN, oN, zN, rfl, cN3, hzN1, hzN2⟩ := (HNum.out.below (by rw [← HTB.out]; exact hBel3)) k hlt
      have k32 := int_ex T cap L2 (xs ++ s1 ++ qm q) zN (wc.setCell ⟨S, k, none⟩ (.int .i64 (L2 : Int))) HL2.out HSt3.out.txt (by omega) hzN1 hzN2
      clear hL2 hSt2 hBel3 hzN1 hzN2
      go_upto_region 21 with (go_at_call 32; go_must (refine k32.mono ?_; rintro e w4 ⟨ds, L4, hds, rfl, hL4, ht4, hu4⟩; have hb4 : L4 ≤ L2 + 21 := (by rw [hL4, List.length_append, ← HL2.out]; have := (isNum_of hds true true).2; omega); have HL4 : Hid (L4 = (xs ++ s1 ++ qm q ++ ds).length) := hL4; have HDS : Hid (IsInt ds) := hds; have HSt4 : Hid (St w6 w4 T S N n cap (xs ++ s1 ++ qm q ++ ds) (put f k L2) g) := HSt3.out.app hu4 ht4; clear hL4 hds ht4 hu4 k32))
      go_cut [105] (fun v wx => (∃ t : Bool, v = .bool t) ∧ w4 = wx)
      case first =>
        go_wp2
        go_meet
        case rel => exact ⟨⟨_, rfl⟩, rfl⟩
      case rest =>
      obtain ⟨⟨t1, rfl⟩, rfl⟩ := hcut
      go_upto_if 105 with fail
      go_cut [5] (fun v wx => ∃ (L5 : Nat) (F : List Int), F = (if t1 then [46, 50, 53] else []) ∧ v = .slice (some ⟨T, 0, none⟩) L5 cap ∧ L5 = (xs ++ s1 ++ qm q ++ ds ++ F).length ∧ L5 ≤ L4 + 3 ∧ St w6 wx T S N n cap (xs ++ s1 ++ qm q ++ ds ++ F) (put f k L2) g)
      case first =>
        cases t1
        case false =>
          go_wp2
          go_meet
          case rel => exact ⟨L4, [], rfl, rfl, by rw [HL4.out, List.append_nil], by omega, by rw [List.append_nil]; exact HSt4.out⟩
        case true =>
          go_wp2_with (at_builtin; refine wpList_append_fits _ rfl _ _ 33 rfl T 5 i0 1 Try.underlying33 hi hz1 T L4 cap ((xs ++ s1 ++ qm q ++ ds).map (Value.int .u8)) rfl (World.ownsRow.alloc (txt_own HL4.out HSt4.out.txt) _) ⟨w4.heap.size, 0, none⟩ 3 3 [.int .u8 46, .int .u8 50, .int .u8 53] rfl rfl (new_cells w4 [.int .u8 46, .int .u8 50, .int .u8 53] 5) (by simp [Value.oneCell']) (by omega) ?_; intro wy owny gy)
          go_meet
          case rel => exact ⟨L4 + 3, [46, 50, 53], rfl, rfl, by rw [List.length_append, ← HL4.out]; rfl, by omega, HSt4.out.more HL4.out owny gy rfl rfl⟩
      case rest =>
      obtain ⟨L5, F, hF, rfl, hL5, hb5, hSt5⟩ := hcut
      have HF : Hid (F = (if t1 then [46, 50, 53] else [])) := hF
      have HL5 : Hid (L5 = (xs ++ s1 ++ qm q ++ ds ++ F).length) := hL5
      have HSt5 : Hid (St w6 wc T S N n cap (xs ++ s1 ++ qm q ++ ds ++ F) (put f k L2) g) := hSt5
      obtain ⟨w5, hw5⟩ : ∃ w5, w5 = wc := ⟨_, rfl⟩
      rw [← hw5] at HSt5 ⊢
      clear hF hL5 hSt5 hw5
      go_upto_region 23 with fail
      go_cut [111] (fun v wx => (∃ t : Bool, v = .bool t) ∧ w5 = wx)
      case first =>
        go_wp2
        go_meet
        case rel => exact ⟨⟨_, rfl⟩, rfl⟩
      case rest =>
      obtain ⟨⟨t2, rfl⟩, rfl⟩ := hcut
      go_upto_if 111 with fail
      go_cut [5] (fun v wx => ∃ (L6 : Nat) (E : List Int), E = (if t2 then [69, 45, 48, 55] else []) ∧ v = .slice (some ⟨T, 0, none⟩) L6 cap ∧ L6 = (xs ++ s1 ++ qm q ++ ds ++ F ++ E).length ∧ L6 ≤ L5 + 4 ∧ St w6 wx T S N n cap (xs ++ s1 ++ qm q ++ ds ++ F ++ E) (put f k L2) g)
      case first =>
        cases t2
        case false =>
          go_wp2
          go_meet
          case rel => exact ⟨L5, [], rfl, rfl, by rw [HL5.out, List.append_nil], by omega, by rw [List.append_nil]; exact HSt5.out⟩
        case true =>
          go_wp2_with (at_builtin; refine wpList_append_fits _ rfl _ _ 33 rfl T 5 i0 1 Try.underlying33 hi hz1 T L5 cap ((xs ++ s1 ++ qm q ++ ds ++ F).map (Value.int .u8)) rfl (World.ownsRow.alloc (txt_own HL5.out HSt5.out.txt) _) ⟨w5.heap.size, 0, none⟩ 4 4 [.int .u8 69, .int .u8 45, .int .u8 48, .int .u8 55] rfl rfl (new_cells w5 [.int .u8 69, .int .u8 45, .int .u8 48, .int .u8 55] 5) (by simp [Value.oneCell']) (by omega) ?_; intro wy owny gy)
          go_meet
          case rel => exact ⟨L5 + 4, [69, 45, 48, 55], rfl, rfl, by rw [List.length_append, ← HL5.out]; rfl, by omega, HSt5.out.more HL5.out owny gy rfl rfl⟩
      case rest =>
      obtain ⟨L6, E, hE, rfl, hL6, hb6, hSt6⟩ := hcut
      have HE : Hid (E = (if t2 then [69, 45, 48, 55] else [])) := hE
      have HL6 : Hid (L6 = (xs ++ s1 ++ qm q ++ ds ++ F ++ E).length) := hL6
      have HSt7 : Hid (St w6 (wc.setCell ⟨N, k, none⟩ (.int .i64 (L6 : Int))) T S N n cap (xs ++ s1 ++ qm q ++ ds ++ F ++ E) (put f k L2) (put g k L6)) := hSt6.setN hlt L6
      have cN := hSt6.en.cell k hlt
      have gN := hSt6.en.free k
      clear hE hL6 hSt6
      go_upto_if 120 with fail
      obtain ⟨w7, hw7⟩ : ∃ w7, wc.setCell ⟨N, k, none⟩ (.int .i64 (L6 : Int)) = w7 := ⟨_, rfl⟩
      rw [hw7] at HSt7 ⊢
      clear hw7 cN gN cS gS cN3
      go_cut [5] (fun v wx => ∃ L8 : Nat, v = .slice (some ⟨T, 0, none⟩) L8 cap ∧ L8 = (xs ++ s1 ++ qm q ++ ds ++ F ++ E ++ qm q).length ∧ L8 ≤ L6 + 1 ∧ St w6 wx T S N n cap (xs ++ s1 ++ qm q ++ ds ++ F ++ E ++ qm q) (put f k L2) (put g k L6))
      case first =>
        cases q
        case false =>
          go_wp2
          go_meet
          case rel => exact ⟨L6, rfl, by rw [HL6.out]; simp [qm], by omega, by simpa [qm] using HSt7.out⟩
        case true =>
          go_wp2_with (at_builtin; refine wpList_append_fits _ rfl _ _ 33 rfl T 5 i0 1 Try.underlying33 hi hz1 T L6 cap ((xs ++ s1 ++ qm true ++ ds ++ F ++ E).map (Value.int .u8)) rfl (World.ownsRow.alloc (txt_own HL6.out HSt7.out.txt) _) ⟨w7.heap.size, 0, none⟩ 1 1 [.int .u8 34] rfl rfl (new_cells w7 [.int .u8 34] 5) (by simp [Value.oneCell']) (by omega) ?_; intro wy owny gy)
          go_meet
          case rel => exact ⟨L6 + 1, rfl, by rw [List.length_append, ← HL6.out]; rfl, by omega, HSt7.out.more HL6.out owny gy rfl rfl⟩
      case rest =>
      obtain ⟨L8, rfl, hL8, hb8, hSt8⟩ := hcut
      have k31 := fun sel => space_ex T cap L8 (xs ++ s1 ++ qm q ++ ds ++ F ++ E ++ qm q) sel wc hL8 hSt8.txt (by omega)
      have HL8 : Hid (L8 = (xs ++ s1 ++ qm q ++ ds ++ F ++ E ++ qm q).length) := hL8
      have HSt8 : Hid (St w6 wc T S N n cap (xs ++ s1 ++ qm q ++ ds ++ F ++ E ++ qm q) (put f k L2) (put g k L6)) := hSt8
      clear hL8 hSt8
      by_cases hlast : k + 1 < n
      · have hlast' : (k : Int) + 1 < (n : Int) := by omega
        go_wp2_with (first
          | (go_at_call 31; go_must (refine (k31 _).mono ?_; rintro e w9 ⟨s2, L9, hs2, hl2, rfl, hL9, ht9, hu9⟩; have hb9 : L9 ≤ L8 + 2 := (by rw [hL9, List.length_append, ← HL8.out]; omega); have HL9 : Hid (L9 = (xs ++ s1 ++ qm q ++ ds ++ F ++ E ++ qm q ++ s2).length) := hL9; have HS2 : Hid (∀ y ∈ s2, isSp y = true) := hs2; have HSt9 : Hid (St w6 w9 T S N n cap (xs ++ s1 ++ qm q ++ ds ++ F ++ E ++ qm q ++ s2) (put f k L2) (put g k L6)) := HSt8.out.app hu9 ht9; clear hL9 hs2 ht9 hu9 k31))
          | (at_builtin; refine wpList_append_fits _ rfl _ _ 33 rfl T 5 i0 1 Try.underlying33 hi hz1 T L9 cap ((xs ++ s1 ++ qm q ++ ds ++ F ++ E ++ qm q ++ s2).map (Value.int .u8)) rfl (World.ownsRow.alloc (txt_own HL9.out HSt9.out.txt) _) ⟨w9.heap.size, 0, none⟩ 1 1 [.int .u8 44] rfl rfl (new_cells w9 [.int .u8 44] 5) (by simp [Value.oneCell']) (by omega) ?_; intro wy owny gy))
        go_roundw
        case rel =>
          obtain ⟨it, hBn⟩ := HBt.out.snoc HS1.out hl1 HS2.out hl2 HDS.out HF.out HE.out HL2.out HL6.out
          rw [decide_eq_true hlast] at hBn
          exact ⟨k + 1, L9 + 1, _, _, _, _, by omega, by go_num, rfl, by rw [List.length_append, ← HL9.out]; rfl, HSt9.out.more (ys := sep true) HL9.out owny gy rfl rfl, hBn⟩
        case measure => simp [intOf]; omega
      · have hlast' : ¬ (k : Int) + 1 < (n : Int) := by omega
        go_wp2_with (go_at_call 31; go_must (refine (k31 _).mono ?_; rintro e w9 ⟨s2, L9, hs2, hl2, rfl, hL9, ht9, hu9⟩; have HL9 : Hid (L9 = (xs ++ s1 ++ qm q ++ ds ++ F ++ E ++ qm q ++ s2).length) := hL9; have HS2 : Hid (∀ y ∈ s2, isSp y = true) := hs2; have HSt9 : Hid (St w6 w9 T S N n cap (xs ++ s1 ++ qm q ++ ds ++ F ++ E ++ qm q ++ s2) (put f k L2) (put g k L6)) := HSt8.out.app hu9 ht9; clear hL9 hs2 ht9 hu9 k31))
        go_roundw
        case rel =>
          obtain ⟨it, hBn⟩ := HBt.out.snoc HS1.out hl1 HS2.out hl2 HDS.out HF.out HE.out HL2.out HL6.out
          rw [decide_eq_false hlast, sep, if_neg (by decide), List.append_nil] at hBn
          exact ⟨k + 1, L9, _, _, _, _, by omega, by go_num, rfl, HL9.out, HSt9.out, hBn⟩
        case measure => simp [intOf]; omega
    · have hkn : k = n := by omega
      subst hkn
      have hroom : L + 3 ≤ cap := by have := HCAP.out; omega
      have hcapM : cap ≤ 4194304 := by have := HCAP.out; omega
      have k31 : Calls Try.prog 31 #[.slice (some ⟨T, 0, none⟩) L cap, .int .u8 2] wr fun e w' => (∃ L' : Nat, e = .returned (.slice (some ⟨T, 0, none⟩) L' cap) ∧ L' = (xs ++ [10, 9]).length) ∧ Txt w' T cap (xs ++ [10, 9]) ∧ Upd (fun k => k = T) wr w' :=
        (space_any T cap L xs 2 wr hL hSt.txt (by omega)).mono fun e w' ⟨he, ht, hu⟩ => ⟨⟨_, he, rfl⟩, ht, hu⟩
      have HBt : Hid (Built k k xs f g its) := hBt
      have HSt : Hid (St w6 wr T S N k cap xs f g) := hSt
      have HL : Hid (L = xs.length) := hL
      clear hBt hSt hL hBel hlt hk
      go_wp2_with (first
        | (go_at_call 31; go_must (refine k31.mono ?_; rintro e w1 ⟨⟨L1, rfl, hL1⟩, ht1, hu1⟩; have hb1 : L1 = L + 2 := (by rw [hL1, List.length_append, ← HL.out]; rfl); have HL1 : Hid (L1 = (xs ++ [10, 9]).length) := hL1; have HSt1 : Hid (St w6 w1 T S N k cap (xs ++ [10, 9]) f g) := HSt.out.app hu1 ht1; have hb1' : L1 + 1 ≤ cap := (by omega); clear hL1 ht1 hu1 k31 hb1))
        | (at_builtin; refine wpList_append_fits _ rfl _ _ 33 rfl T 5 i0 1 Try.underlying33 hi hz1 T L1 cap ((xs ++ [10, 9]).map (Value.int .u8)) rfl (World.ownsRow.alloc (txt_own HL1.out HSt1.out.txt) _) ⟨w1.heap.size, 0, none⟩ 1 1 [.int .u8 93] rfl rfl (new_cells w1 [.int .u8 93] 5) (by simp [Value.oneCell']) (by omega) ?_; intro w9 own9 g9))
      obtain ⟨bb, hRdy⟩ := ready_of (L := L1 + 1) (HSt1.out.more (ys := [93]) HL1.out own9 g9 rfl rfl) HBt.out (by rw [List.length_append, ← HL1.out]; rfl)
      have hW9 : Below w.heap.size w w9 := HW6.out.trans (hRdy.upd.below (by have := HW6.out.size; omega) (by rintro j (rfl | rfl | rfl) <;> omega))
      obtain ⟨LL, hLL⟩ : ∃ LL, LL = L1 + 1 := ⟨_, rfl⟩
      rw [← hLL] at hRdy ⊢
      have hLc : LL ≤ cap := by omega
      have HLL : Hid (LL = L1 + 1) := hLL
      have HW9 : Hid (Below w.heap.size w w9) := hW9
      have HR : Hid (Ready w6 w9 T S N k cap LL bb f g its) := hRdy
      clear hLL own9 g9 hW9 hRdy
      go_loopw [11, 12, 13, 14, 15, 16, 17, 18, 19, 20, 21, 22, 23, 24, 25, 26, 27, 28, 29, 30, 31] (fun v11 v12 v13 v14 v15 v16 _ _ _ _ _ _ _ _ _ _ _ _ _ _ _ wx => ∃ (i j : Nat) (first : Bool) (rest : List Itm), v11 = .int .i64 (i : Int) ∧ v12 = .int .i64 1 ∧ v13 = .bool false ∧ v14 = .bool first ∧ v15 = .int .i64 (j : Int) ∧ v16 = .int .i64 (j : Int) ∧ Rd bb LL k f g i j first rest ∧ Below w9.heap.size w9 wx) (fun _ _ _ _ _ v16 _ _ _ _ _ _ _ _ _ _ _ _ _ _ _ _ => k + 1 - (intOf v16).toNat)
      case atStart => exact ⟨1, 0, true, its, rfl, rfl, rfl, rfl, rfl, rfl, HR.out.rd, Below.refl _ _⟩
      case round =>
        obtain ⟨i, j, first, rest, rfl, rfl, rfl, rfl, rfl, rfl, hRd, hBl⟩ := hrel
        obtain ⟨hiL, hjk⟩ := rd_le hRd
        have hByt := HR.out.byt.below hBl
        have hTl : T < wr.heap.size := by have := hBl.size; have := HR.out.lt; omega
        have hjk' : (j : Int) ≤ (k : Int) := by omega
        cases rest with
        | nil =>
          obtain ⟨hjk2, kM⟩ := more_done (cap := cap) hByt hTl hiL (by omega) hRd
          subst hjk2
          clear hRd hByt
          go_wp2_with (go_at_call 33; go_must (refine kM.mono ?_; rintro e wm ⟨rfl, hbm⟩; clear kM))
          go_ret
          exact ⟨by simp, HW9.out.trans ((hBl.trans (hbm.mono hBl.size)).mono HW9.out.size)⟩
        | cons it r =>
          obtain ⟨jj, hlt2, kM, hStep⟩ := more_item (cap := cap) hByt hTl hiL (by omega) hRd
          have hlt3 : ((j : Int) == (k : Int)) = false := by simp; omega
          have hlt4 : (j : Int) < (k : Int) := by omega
          obtain ⟨a, e, c, ha, he, haL, heL, hRn, kz⟩ := plain_item (T := T) (cap := cap) (by omega) hLc (by unfold maxLen; omega) hStep
          have hcells : ∀ wz, Below w9.heap.size w9 wz → wz.cell? ⟨S, j, none⟩ = some (.int .i64 (a : Int)) ∧ wz.cell? ⟨N, j, none⟩ = some (.int .i64 ((a : Int) + (e : Int))) := by
            intro wz hz
            have hS := HR.out.st.cell j hlt2
            have hN := HR.out.en.cell j hlt2
            rw [ha] at hS
            rw [he] at hN
            exact ⟨(hz.cell (p := ⟨S, j, none⟩) HR.out.st.lt).trans hS, (hz.cell (p := ⟨N, j, none⟩) HR.out.en.lt).trans (by rw [hN]; congr 2)⟩
          have HRn : Hid (Rd bb LL k f g c (j + 1) false r) := hRn
          have HBl : Hid (Below w9.heap.size w9 wr) := hBl
          have hnil := fun w => Lib.run_eql_slice_nil (P := Try.prog) w 33 5 (some ⟨T, a, none⟩) e (cap - a) 0 0 Try.underlying33
          have q1 : ¬ cap = a := by omega
          have q2 : (a : Int) + (e : Int) ≤ (cap : Int) := by omega
          have q3 : (a : Int) ≤ (cap : Int) := by omega
          clear hRd hStep hRn ha he hBl
          go_wp2_with (first
            | (go_at_call 33; go_must (refine kM.mono ?_; rintro x wm ⟨rfl, hbm⟩; have kz' := kz wm (hByt.below hbm) (by have := hbm.size; omega); have hBm : Below w9.heap.size w9 wm := HBl.out.trans (hbm.mono HBl.out.size); have hbytm := hByt.below hbm; clear kM kz hByt hbm))
            | (go_at_call 23; go_must (refine kz'.mono ?_; rintro x wz ⟨z0, z1, z2, z3, z4, z5, zf, rfl, hbz⟩; have HBz : Hid (Below w9.heap.size w9 wz) := hBm.trans (hbz.mono hBm.size); obtain ⟨cS, cN⟩ := hcells wz HBz.out; have HVz : Hid (Byt wz (some ⟨T, 0, none⟩) LL bb) := hbytm.below hbz; clear kz' hbz hBm hbytm hcells)))
          go_quiet ((go_at_call 24; exact Calls.quiet_of (same_self T a e _ _ _ (view_txt HVz.out heL _) (by omega))))
          go_wp2
          go_roundw
          case rel => exact ⟨c, j + 1, false, r, rfl, rfl, rfl, rfl, by go_num, by go_num, HRn.out, by have := HBz.out; exact ⟨this.os, this.tape, this.output, this.size, this.block⟩⟩
          case measure => simp [intOf]; omega
end Go.Proofs.Qxb6600608a
