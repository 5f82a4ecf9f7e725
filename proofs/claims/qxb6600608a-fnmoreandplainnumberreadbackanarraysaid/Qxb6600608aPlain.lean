/-
  THE PLAIN LAWS OF THE SEAT: bytes by their index; runs; the number's scanner and the number's automaton agree. No Go in sight.
-/
namespace Go.Proofs.Qxb6600608a.Plain

/-- Where the run of bytes that meet p ends, from i on, with so many to look at. -/
def runE (p : Int → Bool) (b : Nat → Int) : Nat → Nat → Nat
  | 0, i => i
  | f + 1, i => if p (b i) = true then runE p b f (i + 1) else i
def run (p : Int → Bool) (b : Nat → Int) (n i : Nat) : Nat := runE p b (n - i) i

def isSp (x : Int) : Bool := decide (x = 32 ∨ x = 9 ∨ x = 10 ∨ x = 13)
def isDg (x : Int) : Bool := decide (48 ≤ x ∧ x ≤ 57)
theorem isDg_iff (x : Int) : isDg x = true ↔ 48 ≤ x ∧ x ≤ 57 := by simp [isDg]
theorem isSp_iff (x : Int) : isSp x = true ↔ x = 32 ∨ x = 9 ∨ x = 10 ∨ x = 13 := by simp [isSp]

section
variable {p : Int → Bool} {b : Nat → Int} {n i : Nat}
theorem run_out (h : n ≤ i) : run p b n i = i := by
  unfold run
  rw [show n - i = 0 by omega]; rfl
theorem run_stop (h : p (b i) = false) : run p b n i = i := by
  unfold run
  cases n - i with
  | zero => rfl
  | succ f => simp [runE, h]
theorem run_step (hi : i < n) (h : p (b i) = true) : run p b n i = run p b n (i + 1) := by
  unfold run
  rw [show n - i = (n - (i + 1)) + 1 by omega]
  simp [runE, h]
theorem run_ge : i ≤ run p b n i := by
  unfold run
  generalize n - i = f
  induction f generalizing i with
  | zero => exact Nat.le_refl _
  | succ f ih =>
    rw [runE]
    split
    · exact Nat.le_trans (Nat.le_succ _) ih
    · exact Nat.le_refl _
theorem run_le (h : i ≤ n) : run p b n i ≤ n := by
  unfold run
  obtain ⟨f, hf⟩ : ∃ f, n = i + f := ⟨n - i, by omega⟩
  rw [show n - i = f by omega]
  clear h
  induction f generalizing i with
  | zero => rw [runE]; omega
  | succ f ih =>
    rw [runE]
    split
    · exact ih (i := i + 1) (by omega)
    · omega
theorem run_at (h : run p b n i < n) : p (b (run p b n i)) = false := by
  unfold run at h ⊢
  obtain ⟨f, hf⟩ : ∃ f, f = n - i := ⟨_, rfl⟩
  rw [← hf] at h ⊢
  induction f generalizing i with
  | zero => rw [runE] at h; omega
  | succ f ih =>
    rw [runE] at h ⊢
    by_cases c : p (b i) = true
    · rw [if_pos c] at h ⊢
      exact ih h (by omega)
    · rw [if_neg c]
      simpa using c
theorem run_all (j : Nat) (h1 : i ≤ j) (h2 : j < run p b n i) : p (b j) = true := by
  unfold run at h2
  generalize n - i = f at h2
  induction f generalizing i with
  | zero => rw [runE] at h2; omega
  | succ f ih =>
    rw [runE] at h2
    by_cases c : p (b i) = true
    · rw [if_pos c] at h2
      by_cases e : j = i
      · rw [e]; exact c
      · exact ih (i := i + 1) (by omega) h2
    · rw [if_neg c] at h2; omega
/-- A run is known by its end. -/
theorem run_eq {e : Nat} (h1 : i ≤ e) (h2 : e ≤ n) (ha : ∀ j, i ≤ j → j < e → p (b j) = true) (he : e < n → p (b e) = false) : run p b n i = e := by
  have hg : i ≤ run p b n i := run_ge
  have hl : run p b n i ≤ n := run_le (by omega)
  by_cases c : run p b n i < e
  · have := run_at (p := p) (b := b) (n := n) (i := i) (by omega)
    rw [ha _ hg c] at this; cases this
  · by_cases c' : e < run p b n i
    · have := run_all (p := p) (b := b) (n := n) e h1 c'
      rw [he (by omega)] at this; cases this
    · omega
end

/-! ### THE SCANNER -/
def expo (c : Nat → Int) (m i : Nat) : Nat × Bool :=
  if i < m ∧ (c i = 101 ∨ c i = 69) then
    let k := if i + 1 < m ∧ (c (i + 1) = 43 ∨ c (i + 1) = 45) then i + 2 else i + 1
    (run isDg c m k, decide (run isDg c m k ≠ k))
  else (i, true)
def frac (c : Nat → Int) (m i : Nat) : Nat × Bool :=
  if i < m ∧ c i = 46 then
    if run isDg c m (i + 1) = i + 1 then (i + 1, false) else expo c m (run isDg c m (i + 1))
  else expo c m i
def intg (c : Nat → Int) (m i : Nat) : Nat × Bool :=
  if run isDg c m i = i then (i, false)
  else if 1 < run isDg c m i - i ∧ c i = 48 then (run isDg c m i, false)
  else frac c m (run isDg c m i)
def scan (c : Nat → Int) (m : Nat) : Nat × Bool := intg c m (if 0 < m ∧ c 0 = 45 then 1 else 0)

/-! ### THE AUTOMATON -/
def goOn (st : Nat) (x : Int) : Option Nat :=
  if st = 0 then (if x = 45 then some 1 else if x = 48 then some 2 else if isDg x = true then some 3 else none)
  else if st = 1 then (if x = 48 then some 2 else if isDg x = true then some 3 else none)
  else if st = 2 then (if isDg x = true then none else if x = 46 then some 4 else if x = 101 ∨ x = 69 then some 6 else none)
  else if st = 3 then (if x = 46 then some 4 else if x = 101 ∨ x = 69 then some 6 else if isDg x = true then some 3 else none)
  else if st = 4 then (if isDg x = true then some 5 else none)
  else if st = 5 then (if x = 101 ∨ x = 69 then some 6 else if isDg x = true then some 5 else none)
  else if st = 6 then (if x = 43 ∨ x = 45 then some 7 else if isDg x = true then some 8 else none)
  else if st = 7 then (if isDg x = true then some 8 else none)
  else (if isDg x = true then some 8 else none)
def halt (st : Nat) (x : Int) : Bool := decide ((st = 2 ∧ isDg x = false) ∨ st = 3 ∨ st = 5 ∨ st = 8)
def fin (st : Nat) : Bool := decide (st = 2 ∨ st = 3 ∨ st = 5 ∨ st = 8)
def auto (c : Nat → Int) : Nat → Nat → Nat → Nat × Bool
  | 0, st, k => (k, fin st)
  | f + 1, st, k => match goOn st (c k) with
    | some st' => auto c f st' (k + 1)
    | none => (k, halt st (c k))
def autoAt (c : Nat → Int) (m st k : Nat) : Nat × Bool := auto c (m - k) st k

section
variable {c : Nat → Int} {m st k : Nat}
theorem auto_out (h : m ≤ k) : autoAt c m st k = (k, fin st) := by
  unfold autoAt; rw [show m - k = 0 by omega]; rfl
theorem auto_go {st' : Nat} (h : k < m) (hg : goOn st (c k) = some st') : autoAt c m st k = autoAt c m st' (k + 1) := by
  unfold autoAt
  rw [show m - k = (m - (k + 1)) + 1 by omega, auto, hg]
theorem auto_stop (h : k < m) (hg : goOn st (c k) = none) : autoAt c m st k = (k, halt st (c k)) := by
  unfold autoAt
  rw [show m - k = (m - (k + 1)) + 1 by omega, auto, hg]
end

/-- The same verdict; and, where it is yes, the same end. -/
def Agree (x y : Nat × Bool) : Prop := x.2 = y.2 ∧ (x.2 = true → x.1 = y.1)
theorem Agree.of_eq {x y : Nat × Bool} (h : x = y) : Agree x y := by subst h; exact ⟨rfl, fun _ => rfl⟩
theorem Agree.no {i j : Nat} : Agree (i, false) (j, false) := ⟨rfl, fun h => by cases h⟩

theorem dg_ne {x : Int} (h : isDg x = true) : x ≠ 46 ∧ x ≠ 101 ∧ x ≠ 69 ∧ x ≠ 43 ∧ x ≠ 45 := by
  rw [isDg_iff] at h; omega

theorem auto8 (c : Nat → Int) (m : Nat) : ∀ f k, m - k = f → autoAt c m 8 k = (run isDg c m k, true)
  | 0, k, h => by rw [auto_out (by omega), run_out (by omega)]; rfl
  | f + 1, k, h => by
    by_cases d : isDg (c k) = true
    · rw [auto_go (st' := 8) (by omega) (by simp [goOn, d]), auto8 c m f (k + 1) (by omega), ← run_step (by omega) d]
    · have d' : isDg (c k) = false := by simpa using d
      rw [auto_stop (by omega) (by simp [goOn, d']), run_stop d']; rfl

theorem auto7 (c : Nat → Int) (m k : Nat) : autoAt c m 7 k = (run isDg c m k, decide (run isDg c m k ≠ k)) := by
  by_cases hk : k < m
  · by_cases d : isDg (c k) = true
    · rw [auto_go (st' := 8) hk (by simp [goOn, d]), auto8 c m _ _ rfl, run_step hk d]
      have : k + 1 ≤ run isDg c m (k + 1) := run_ge
      have e : run isDg c m (k + 1) ≠ k := by omega
      simp [e]
    · have d' : isDg (c k) = false := by simpa using d
      rw [auto_stop hk (by simp [goOn, d']), run_stop d']
      simp [halt]
  · rw [auto_out (by omega), run_out (by omega)]
    simp [fin]

theorem auto6 (c : Nat → Int) (m k : Nat) : Agree (autoAt c m 6 k) (run isDg c m (if k < m ∧ (c k = 43 ∨ c k = 45) then k + 1 else k), decide (run isDg c m (if k < m ∧ (c k = 43 ∨ c k = 45) then k + 1 else k) ≠ (if k < m ∧ (c k = 43 ∨ c k = 45) then k + 1 else k))) := by
  by_cases hk : k < m
  · by_cases s : c k = 43 ∨ c k = 45
    · rw [if_pos ⟨hk, s⟩, auto_go (st' := 7) hk (by simp [goOn, s]), auto7]
      exact Agree.of_eq rfl
    · rw [if_neg (fun x => s x.2)]
      by_cases d : isDg (c k) = true
      · rw [auto_go (st' := 8) hk (by simp [goOn, s, d]), auto8 c m _ _ rfl, run_step hk d]
        have : k + 1 ≤ run isDg c m (k + 1) := run_ge
        have e : run isDg c m (k + 1) ≠ k := by omega
        simp [e, Agree]
      · have d' : isDg (c k) = false := by simpa using d
        rw [auto_stop hk (by simp [goOn, s, d']), run_stop d']
        simp [halt, Agree]
  · rw [if_neg (fun x => hk x.1), auto_out (by omega), run_out (by omega)]
    simp [fin, Agree]

/-- Behind an accepting state at a byte that is no digit. -/
theorem auto_e (c : Nat → Int) (m k st : Nat) (hs : st = 2 ∨ st = 3 ∨ st = 5) (hd : k < m → isDg (c k) = false) (hp : st ≠ 5 → ¬ (k < m ∧ c k = 46)) : Agree (autoAt c m st k) (expo c m k) := by
  unfold expo
  by_cases hk : k < m
  · have d := hd hk
    by_cases e : c k = 101 ∨ c k = 69
    · rw [if_pos ⟨hk, e⟩, auto_go (st' := 6) hk (by rcases hs with rfl | rfl | rfl <;> rcases e with e | e <;> simp [goOn, e, isDg])]
      have h6 := auto6 c m (k + 1)
      by_cases s : k + 1 < m ∧ (c (k + 1) = 43 ∨ c (k + 1) = 45)
      · rw [if_pos s] at h6
        simp only [if_pos s]; exact h6
      · rw [if_neg s] at h6
        simp only [if_neg s]; exact h6
    · rw [if_neg (fun x => e x.2)]
      have hne : c k = 46 → st = 5 := fun x => by
        by_cases c5 : st = 5
        · exact c5
        · exact absurd ⟨hk, x⟩ (hp c5)
      rw [auto_stop hk (by
        rcases hs with rfl | rfl | rfl
        · have : c k ≠ 46 := fun x => by have := hne x; omega
          simp [goOn, d, e, this]
        · have : c k ≠ 46 := fun x => by have := hne x; omega
          simp [goOn, d, e, this]
        · simp [goOn, d, e])]
      rcases hs with rfl | rfl | rfl <;> simp [halt, d, Agree]
  · rw [if_neg (fun x => hk x.1), auto_out (by omega)]
    rcases hs with rfl | rfl | rfl <;> simp [fin, Agree]

theorem auto5 (c : Nat → Int) (m : Nat) : ∀ f k, m - k = f → autoAt c m 5 k = autoAt c m 5 (run isDg c m k)
  | 0, k, h => by rw [run_out (by omega)]
  | f + 1, k, h => by
    by_cases d : isDg (c k) = true
    · have := dg_ne d
      rw [auto_go (st' := 5) (by omega) (by simp [goOn, d, this]), auto5 c m f (k + 1) (by omega), ← run_step (by omega) d]
    · have d' : isDg (c k) = false := by simpa using d
      rw [run_stop d']

theorem auto3 (c : Nat → Int) (m : Nat) : ∀ f k, m - k = f → autoAt c m 3 k = autoAt c m 3 (run isDg c m k)
  | 0, k, h => by rw [run_out (by omega)]
  | f + 1, k, h => by
    by_cases d : isDg (c k) = true
    · have := dg_ne d
      rw [auto_go (st' := 3) (by omega) (by simp [goOn, d, this]), auto3 c m f (k + 1) (by omega), ← run_step (by omega) d]
    · have d' : isDg (c k) = false := by simpa using d
      rw [run_stop d']

theorem auto4 (c : Nat → Int) (m k : Nat) : Agree (autoAt c m 4 k) (if run isDg c m k = k then (k, false) else expo c m (run isDg c m k)) := by
  by_cases hk : k < m
  · by_cases d : isDg (c k) = true
    · have hr := run_step (n := m) hk d
      have hg : k + 1 ≤ run isDg c m (k + 1) := run_ge
      rw [auto_go (st' := 5) hk (by simp [goOn, d]), if_neg (by omega), auto5 c m _ _ rfl, hr]
      exact auto_e c m _ 5 (by omega) (fun h => run_at h) (fun h => absurd rfl h)
    · have d' : isDg (c k) = false := by simpa using d
      rw [auto_stop hk (by simp [goOn, d']), run_stop d', if_pos rfl]
      simp [halt, Agree]
  · rw [auto_out (by omega), run_out (by omega), if_pos rfl]
    simp [fin, Agree]

/-- Behind the digits of the integer part. -/
theorem auto_f (c : Nat → Int) (m k st : Nat) (hs : st = 2 ∨ st = 3) (hd : k < m → isDg (c k) = false) : Agree (autoAt c m st k) (frac c m k) := by
  unfold frac
  by_cases h : k < m ∧ c k = 46
  · obtain ⟨hk, h46⟩ := h
    rw [if_pos ⟨hk, h46⟩, auto_go (st' := 4) hk (by rcases hs with rfl | rfl <;> simp [goOn, h46, isDg])]
    exact auto4 c m (k + 1)
  · rw [if_neg h]
    exact auto_e c m k st (by omega) hd (fun _ => h)

theorem auto_i (c : Nat → Int) (m k st : Nat) (hs : st = 1 ∨ (st = 0 ∧ ¬ (k < m ∧ c k = 45))) : Agree (autoAt c m st k) (intg c m k) := by
  unfold intg
  by_cases hk : k < m
  · by_cases d : isDg (c k) = true
    · have hr := run_step (n := m) hk d
      have hg : k + 1 ≤ run isDg c m (k + 1) := run_ge
      have h45 := (dg_ne d).2.2.2.2
      rw [if_neg (by omega)]
      by_cases z : c k = 48
      · have hgo : goOn st (c k) = some 2 := by rcases hs with rfl | ⟨rfl, _⟩ <;> simp [goOn, z]
        rw [auto_go (st' := 2) hk hgo]
        by_cases c2 : k + 1 < m ∧ isDg (c (k + 1)) = true
        · obtain ⟨hk1, d1⟩ := c2
          have hr1 := run_step (n := m) hk1 d1
          have hg1 : k + 1 + 1 ≤ run isDg c m (k + 1 + 1) := run_ge
          rw [if_pos ⟨by omega, z⟩, auto_stop hk1 (by simp [goOn, d1])]
          simp [halt, d1, Agree]
        · have hst : run isDg c m (k + 1) = k + 1 := by
            by_cases hk1 : k + 1 < m
            · exact run_stop (by simpa using fun x => c2 ⟨hk1, x⟩)
            · exact run_out (by omega)
          rw [if_neg (by omega), hr, hst]
          exact auto_f c m (k + 1) 2 (by omega) (fun h => by simpa using fun x => c2 ⟨h, x⟩)
      · have hgo : goOn st (c k) = some 3 := by rcases hs with rfl | ⟨rfl, _⟩ <;> simp [goOn, z, d, h45]
        rw [auto_go (st' := 3) hk hgo, if_neg (fun x => z x.2), auto3 c m _ _ rfl, hr]
        exact auto_f c m _ 3 (by omega) (fun h => run_at h)
    · have d' : isDg (c k) = false := by simpa using d
      have h48 : c k ≠ 48 := fun x => by rw [x] at d'; simp [isDg] at d'
      rw [run_stop d', if_pos rfl, auto_stop hk (by
        rcases hs with rfl | ⟨rfl, h⟩
        · simp [goOn, d', h48]
        · have : c k ≠ 45 := fun x => h ⟨hk, x⟩
          simp [goOn, d', h48, this])]
      rcases hs with rfl | ⟨rfl, _⟩ <;> simp [halt, Agree]
  · rw [run_out (by omega), if_pos rfl, auto_out (by omega)]
    rcases hs with rfl | ⟨rfl, _⟩ <;> simp [fin, Agree]

/-- THE PLAIN LAW: the automaton and the scanner agree. -/
theorem auto_scan (c : Nat → Int) (m : Nat) : Agree (autoAt c m 0 0) (scan c m) := by
  unfold scan
  by_cases h : 0 < m ∧ c 0 = 45
  · rw [if_pos h, auto_go (st' := 1) h.1 (by simp [goOn, h.2])]
    exact auto_i c m 1 1 (.inl rfl)
  · rw [if_neg h]
    exact auto_i c m 0 0 (.inr ⟨rfl, h⟩)
end Go.Proofs.Qxb6600608a.Plain
