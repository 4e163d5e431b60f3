/-
  PLAIN MATHEMATICS FOR SEAT b6621704a: no Go in sight. 'g k' is byte k of the text, 'n' its length.
-/
namespace Go.Proofs.Qxb6621704a.Plain

/-! ### Strings: the quote-parity answer -/

/-- Is byte 'i + 1 + d' escaped, in the string that opens at 'i'? -/
def esc (g : Nat → Int) (i : Nat) : Nat → Bool
  | 0 => false
  | d + 1 => (g (i + 1 + d) == 92) && !(esc g i d)

/-- Byte 'i + 1 + d' closes the string that opens at 'i'. -/
def quo (g : Nat → Int) (i d : Nat) : Prop := g (i + 1 + d) = 34 ∧ esc g i d = false

/-- 'r' is the end of the string that opens at 'i'. -/
def SE (g : Nat → Int) (n i r : Nat) : Prop :=
  (∃ d, i + 1 + d < n ∧ quo g i d ∧ (∀ c, c < d → ¬ quo g i c) ∧ r = i + 1 + d + 1) ∨
  ((∀ c, i + 1 + c < n → ¬ quo g i c) ∧ r = n + 1)

theorem SE_unique {g : Nat → Int} {n i r s : Nat} (h : SE g n i r) (k : SE g n i s) : r = s := by
  rcases h with ⟨d, h1, h2, h3, rfl⟩ | ⟨h1, rfl⟩
  · rcases k with ⟨e, k1, k2, k3, rfl⟩ | ⟨k1, rfl⟩
    · rcases Nat.lt_trichotomy d e with hh | hh | hh
      · exact absurd h2 (k3 d hh)
      · subst hh; rfl
      · exact absurd k2 (h3 e hh)
    · exact absurd h2 (k1 d h1)
  · rcases k with ⟨e, k1, k2, k3, rfl⟩ | ⟨k1, rfl⟩
    · exact absurd k2 (h1 e k1)
    · rfl

theorem SE_le {g : Nat → Int} {n i r : Nat} (h : SE g n i r) : r ≤ n + 1 := by
  rcases h with ⟨d, h1, h2, h3, rfl⟩ | ⟨h1, rfl⟩ <;> omega

theorem SE_lo {g : Nat → Int} {n i r : Nat} (hi : i ≤ n) (h : SE g n i r) : i < r := by
  rcases h with ⟨d, h1, h2, h3, rfl⟩ | ⟨h1, rfl⟩ <;> omega

theorem esc_succ (g : Nat → Int) (i d : Nat) : esc g i (d + 1) = ((g (i + 1 + d) == 92) && !(esc g i d)) := rfl

/-- One step of the scanner over a byte that is neither a quote nor a backslash. -/
theorem step_plain {g : Nat → Int} {n i d : Nat} (he : esc g i d = false) (hq : ∀ c, c < d → ¬ quo g i c)
    (h1 : ¬ g (i + 1 + d) = 34) (h2 : ¬ g (i + 1 + d) = 92) : esc g i (d + 1) = false ∧ ∀ c, c < d + 1 → ¬ quo g i c := by
  have _ := n
  refine ⟨by rw [esc_succ, he]; simp [h2], fun c hc hcq => ?_⟩
  by_cases e : c = d
  · subst e; exact h1 hcq.1
  · exact hq c (by omega) hcq

/-- One step of the scanner over a backslash and the byte behind it. -/
theorem step_back {g : Nat → Int} {i d : Nat} (he : esc g i d = false) (hq : ∀ c, c < d → ¬ quo g i c)
    (h2 : g (i + 1 + d) = 92) : esc g i (d + 2) = false ∧ ∀ c, c < d + 2 → ¬ quo g i c := by
  have e1 : esc g i (d + 1) = true := by rw [esc_succ, he, h2]; rfl
  refine ⟨by rw [esc_succ, e1]; simp, fun c hc hcq => ?_⟩
  by_cases e : c = d
  · subst e; have := hcq.1; omega
  · by_cases e' : c = d + 1
    · subst e'; have := hcq.2; rw [e1] at this; cases this
    · exact hq c (by omega) hcq

/-- The run of backslashes ahead of a byte tells whether it is escaped. -/
theorem esc_run {g : Nat → Int} {i : Nat} : ∀ (k d : Nat), k ≤ d → (∀ t, t < k → g (i + d - t) = 92) → (k = d ∨ ¬ g (i + d - k) = 92) →
    esc g i d = decide (k % 2 = 1)
  | 0, d, _, _, hend => by
    rcases hend with h | h
    · subst h; rfl
    · cases d with
      | zero => rfl
      | succ d =>
        rw [esc_succ]
        have : g (i + 1 + d) ≠ 92 := by rw [show i + 1 + d = i + (d + 1) - 0 by omega]; exact h
        simp [this]
  | k + 1, 0, h, _, _ => by omega
  | k + 1, d + 1, h, hrun, hend => by
    have h0 : g (i + 1 + d) = 92 := by have := hrun 0 (by omega); rwa [show i + (d + 1) - 0 = i + 1 + d by omega] at this
    have ih := esc_run (g := g) (i := i) k d (by omega)
      (fun t ht => by have := hrun (t + 1) (by omega); rwa [show i + (d + 1) - (t + 1) = i + d - t by omega] at this)
      (by
        rcases hend with e | e
        · exact .inl (by omega)
        · exact .inr (by rwa [show i + (d + 1) - (k + 1) = i + d - k by omega] at e))
    rw [esc_succ, h0, ih]
    by_cases hk : k % 2 = 1
    · have : ¬ (k + 1) % 2 = 1 := by omega
      simp [hk, this]
    · have : (k + 1) % 2 = 1 := by omega
      simp [hk, this]

/-- The text moved by 'P' and extended. -/
theorem esc_shift {g g' : Nat → Int} {n P i : Nat} (hg : ∀ k, k < n → g' (P + k) = g k) : ∀ d, i + 1 + d ≤ n → esc g' (P + i) d = esc g i d
  | 0, _ => rfl
  | d + 1, h => by
    rw [esc_succ, esc_succ, esc_shift hg d (by omega), show P + i + 1 + d = P + (i + 1 + d) by omega, hg _ (by omega)]

theorem quo_shift {g g' : Nat → Int} {n P i d : Nat} (hg : ∀ k, k < n → g' (P + k) = g k) (h : i + 1 + d < n) : quo g' (P + i) d ↔ quo g i d := by
  unfold quo
  rw [esc_shift hg d (by omega), show P + i + 1 + d = P + (i + 1 + d) by omega, hg _ h]

theorem SE_shift {g g' : Nat → Int} {n P i r : Nat} (hg : ∀ k, k < n → g' (P + k) = g k) (h : SE g n i r) : SE g' (P + n) (P + i) (P + r) := by
  rcases h with ⟨d, h1, h2, h3, rfl⟩ | ⟨h1, rfl⟩
  · exact .inl ⟨d, by omega, (quo_shift hg h1).2 h2, fun c hc hq => h3 c hc ((quo_shift hg (by omega)).1 hq), by omega⟩
  · exact .inr ⟨fun c hc hq => h1 c (by omega) ((quo_shift hg (by omega)).1 hq), by omega⟩

theorem SE_extend {g g' : Nat → Int} {n m P i r : Nat} (hg : ∀ k, k < n → g' (P + k) = g k) (hr : r ≤ n) (hm : P + n ≤ m) (h : SE g n i r) : SE g' m (P + i) (P + r) := by
  rcases h with ⟨d, h1, h2, h3, rfl⟩ | ⟨h1, rfl⟩
  · exact .inl ⟨d, by omega, (quo_shift hg h1).2 h2, fun c hc hq => h3 c hc ((quo_shift hg (by omega)).1 hq), by omega⟩
  · omega

/-! ### Values: the bracket machine -/

/-- In a string? escaped? how deep? -/
structure Mach where
  inStr : Bool
  escd : Bool
  dep : Int

def Mach.step (x : Int) (s : Mach) : Mach :=
  if s.inStr = true then
    if s.escd = true then ⟨true, false, s.dep⟩
    else if x = 92 then ⟨true, true, s.dep⟩
    else if x = 34 then ⟨false, false, s.dep⟩ else s
  else if x = 34 then ⟨true, s.escd, s.dep⟩
  else if x = 123 ∨ x = 91 then ⟨false, s.escd, s.dep + 1⟩
  else if x = 125 ∨ x = 93 then ⟨false, s.escd, s.dep - 1⟩ else s

/-- The byte 'x', met in state 's', ends the value. -/
def Mach.ends (x : Int) (s : Mach) : Prop :=
  if s.inStr = true then s.escd = false ∧ x = 34 ∧ s.dep = 0 else (x = 125 ∨ x = 93) ∧ s.dep - 1 = 0

/-- The machine behind 'd' bytes from 'i' on. -/
def ms (g : Nat → Int) (i : Nat) : Nat → Mach
  | 0 => ⟨false, false, 0⟩
  | d + 1 => (ms g i d).step (g (i + d))

def clo (g : Nat → Int) (i d : Nat) : Prop := (ms g i d).ends (g (i + d))

def opens (x : Int) : Prop := x = 34 ∨ x = 123 ∨ x = 91
def stops (x : Int) : Prop := x = 44 ∨ x = 125 ∨ x = 93 ∨ x = 58 ∨ x = 32 ∨ x = 9 ∨ x = 10 ∨ x = 13

/-- A container or a string that begins at 'i' ends at 'r'. -/
def CE (g : Nat → Int) (n i r : Nat) : Prop :=
  (∃ d, i + d < n ∧ clo g i d ∧ (∀ c, c < d → ¬ clo g i c) ∧ r = i + d + 1) ∨ ((∀ c, i + c < n → ¬ clo g i c) ∧ r = n)
/-- A scalar that begins at 'i' ends at 'r'. -/
def NE (g : Nat → Int) (n i r : Nat) : Prop :=
  (∃ d, i + d < n ∧ stops (g (i + d)) ∧ (∀ c, c < d → ¬ stops (g (i + c))) ∧ r = i + d) ∨ ((∀ c, i + c < n → ¬ stops (g (i + c))) ∧ r = n)
def VE (g : Nat → Int) (n i r : Nat) : Prop :=
  (i = n ∧ r = n) ∨ (i < n ∧ opens (g i) ∧ CE g n i r) ∨ (i < n ∧ ¬ opens (g i) ∧ NE g n i r)

theorem CE_unique {g : Nat → Int} {n i r s : Nat} (h : CE g n i r) (k : CE g n i s) : r = s := by
  rcases h with ⟨d, h1, h2, h3, rfl⟩ | ⟨h1, rfl⟩
  · rcases k with ⟨e, k1, k2, k3, rfl⟩ | ⟨k1, rfl⟩
    · rcases Nat.lt_trichotomy d e with hh | hh | hh
      · exact absurd h2 (k3 d hh)
      · subst hh; rfl
      · exact absurd k2 (h3 e hh)
    · exact absurd h2 (k1 d h1)
  · rcases k with ⟨e, k1, k2, k3, rfl⟩ | ⟨k1, rfl⟩
    · exact absurd k2 (h1 e k1)
    · rfl

theorem NE_unique {g : Nat → Int} {n i r s : Nat} (h : NE g n i r) (k : NE g n i s) : r = s := by
  rcases h with ⟨d, h1, h2, h3, rfl⟩ | ⟨h1, rfl⟩
  · rcases k with ⟨e, k1, k2, k3, rfl⟩ | ⟨k1, rfl⟩
    · rcases Nat.lt_trichotomy d e with hh | hh | hh
      · exact absurd h2 (k3 d hh)
      · subst hh; rfl
      · exact absurd k2 (h3 e hh)
    · exact absurd h2 (k1 d h1)
  · rcases k with ⟨e, k1, k2, k3, rfl⟩ | ⟨k1, rfl⟩
    · exact absurd k2 (h1 e k1)
    · rfl

theorem VE_unique {g : Nat → Int} {n i r s : Nat} (h : VE g n i r) (k : VE g n i s) : r = s := by
  rcases h with ⟨h1, h2⟩ | ⟨h1, h2, h3⟩ | ⟨h1, h2, h3⟩ <;> rcases k with ⟨k1, k2⟩ | ⟨k1, k2, k3⟩ | ⟨k1, k2, k3⟩
  all_goals first
    | omega
    | exact CE_unique h3 k3
    | exact NE_unique h3 k3
    | exact absurd h2 k2
    | exact absurd k2 h2

theorem VE_le {g : Nat → Int} {n i r : Nat} (h : VE g n i r) : r ≤ n := by
  rcases h with ⟨h1, h2⟩ | ⟨h1, h2, ⟨d, h4, h5, h6, rfl⟩ | ⟨h3, rfl⟩⟩ | ⟨h1, h2, ⟨d, h4, h5, h6, rfl⟩ | ⟨h3, rfl⟩⟩ <;> omega

theorem ms_shift {g g' : Nat → Int} {n P i : Nat} (hg : ∀ k, k < n → g' (P + k) = g k) : ∀ d, i + d ≤ n → ms g' (P + i) d = ms g i d
  | 0, _ => rfl
  | d + 1, h => by
    show (ms g' (P + i) d).step (g' (P + i + d)) = (ms g i d).step (g (i + d))
    rw [ms_shift hg d (by omega), show P + i + d = P + (i + d) by omega, hg _ (by omega)]

theorem clo_shift {g g' : Nat → Int} {n P i d : Nat} (hg : ∀ k, k < n → g' (P + k) = g k) (h : i + d < n) : clo g' (P + i) d ↔ clo g i d := by
  unfold clo
  rw [ms_shift hg d (by omega), show P + i + d = P + (i + d) by omega, hg _ h]

theorem VE_shift {g g' : Nat → Int} {n P i r : Nat} (hg : ∀ k, k < n → g' (P + k) = g k) (h : VE g n i r) : VE g' (P + n) (P + i) (P + r) := by
  have hs : ∀ c, i + c < n → g' (P + i + c) = g (i + c) := fun c hc => by rw [show P + i + c = P + (i + c) by omega, hg _ hc]
  rcases h with ⟨h1, h2⟩ | ⟨h1, h2, h3⟩ | ⟨h1, h2, h3⟩
  · exact .inl ⟨by omega, by omega⟩
  · refine .inr (.inl ⟨by omega, by rw [hg i h1]; exact h2, ?_⟩)
    rcases h3 with ⟨d, h4, h5, h6, rfl⟩ | ⟨h3, rfl⟩
    · exact .inl ⟨d, by omega, (clo_shift hg h4).2 h5, fun c hc hq => h6 c hc ((clo_shift hg (by omega)).1 hq), by omega⟩
    · exact .inr ⟨fun c hc hq => h3 c (by omega) ((clo_shift hg (by omega)).1 hq), by omega⟩
  · refine .inr (.inr ⟨by omega, by rw [hg i h1]; exact h2, ?_⟩)
    rcases h3 with ⟨d, h4, h5, h6, rfl⟩ | ⟨h3, rfl⟩
    · exact .inl ⟨d, by omega, by rw [hs d h4]; exact h5, fun c hc hq => h6 c hc (by rwa [hs c (by omega)] at hq), by omega⟩
    · exact .inr ⟨fun c hc hq => h3 c (by omega) (by rwa [hs c (by omega)] at hq), by omega⟩

theorem VE_extend {g g' : Nat → Int} {n m P i r : Nat} (hg : ∀ k, k < n → g' (P + k) = g k) (hr : r < n) (hm : P + n ≤ m) (h : VE g n i r) : VE g' m (P + i) (P + r) := by
  have hs : ∀ c, i + c < n → g' (P + i + c) = g (i + c) := fun c hc => by rw [show P + i + c = P + (i + c) by omega, hg _ hc]
  rcases h with ⟨h1, h2⟩ | ⟨h1, h2, h3⟩ | ⟨h1, h2, h3⟩
  · omega
  · refine .inr (.inl ⟨by omega, by rw [hg i h1]; exact h2, ?_⟩)
    rcases h3 with ⟨d, h4, h5, h6, rfl⟩ | ⟨h3, rfl⟩
    · exact .inl ⟨d, by omega, (clo_shift hg h4).2 h5, fun c hc hq => h6 c hc ((clo_shift hg (by omega)).1 hq), by omega⟩
    · omega
  · refine .inr (.inr ⟨by omega, by rw [hg i h1]; exact h2, ?_⟩)
    rcases h3 with ⟨d, h4, h5, h6, rfl⟩ | ⟨h3, rfl⟩
    · exact .inl ⟨d, by omega, by rw [hs d h4]; exact h5, fun c hc hq => h6 c hc (by rwa [hs c (by omega)] at hq), by omega⟩
    · omega

/-- Inside a string that opens at 'i + q' the machine follows 'esc'. -/
theorem in_string {g : Nat → Int} {i q : Nat} {D : Int} (h0 : ms g i q = ⟨false, false, D⟩) (h34 : g (i + q) = 34) :
    ∀ c, (∀ e, e < c → ¬ quo g (i + q) e) → ms g i (q + 1 + c) = ⟨true, esc g (i + q) c, D⟩
  | 0, _ => by
    show (ms g i q).step (g (i + q)) = _
    rw [h0, h34]; rfl
  | c + 1, h => by
    have ih := in_string h0 h34 c (fun e he => h e (by omega))
    show (ms g i (q + 1 + c)).step (g (i + (q + 1 + c))) = _
    rw [ih, show i + (q + 1 + c) = i + q + 1 + c by omega, esc_succ]
    have hq := h c (by omega)
    cases he : esc g (i + q) c
    · by_cases h92 : g (i + q + 1 + c) = 92
      · simp [Mach.step, h92]
      · have h34' : ¬ g (i + q + 1 + c) = 34 := fun hh => hq ⟨hh, he⟩
        simp [Mach.step, h92, h34']
    · simp [Mach.step]

theorem clo_in_string {g : Nat → Int} {i q c : Nat} {D : Int} (h0 : ms g i q = ⟨false, false, D⟩) (h34 : g (i + q) = 34)
    (h : ∀ e, e < c → ¬ quo g (i + q) e) : clo g i (q + 1 + c) ↔ quo g (i + q) c ∧ D = 0 := by
  unfold clo quo
  rw [in_string h0 h34 c h, show i + (q + 1 + c) = i + q + 1 + c by omega]
  simp [Mach.ends]
  constructor
  · rintro ⟨a, b, c⟩; exact ⟨⟨b, a⟩, c⟩
  · rintro ⟨⟨a, b⟩, c⟩; exact ⟨b, a, c⟩

theorem not_clo_quote {g : Nat → Int} {i q : Nat} {D : Int} (h0 : ms g i q = ⟨false, false, D⟩) (h34 : g (i + q) = 34) : ¬ clo g i q := by
  unfold clo; rw [h0, h34]; simp [Mach.ends]

/-- A value that is a string. -/
theorem VE_string {g : Nat → Int} {n i r : Nat} (hi : i < n) (h34 : g i = 34) (h : SE g n i r) : VE g n i (min r n) := by
  refine .inr (.inl ⟨hi, .inl h34, ?_⟩)
  have h0 : ms g i 0 = ⟨false, false, 0⟩ := rfl
  have hc0 := not_clo_quote (g := g) (i := i) (q := 0) h0 h34
  rcases h with ⟨d, h1, h2, h3, rfl⟩ | ⟨h1, rfl⟩
  · refine .inl ⟨1 + d, by omega, ?_, ?_, by omega⟩
    · have := (clo_in_string (q := 0) (c := d) h0 h34 h3).2 ⟨h2, rfl⟩
      simpa using this
    · intro c hc hh
      cases c with
      | zero => exact hc0 hh
      | succ c =>
        have e : c + 1 = 0 + 1 + c := by omega
        rw [e] at hh
        exact h3 c (by omega) ((clo_in_string (q := 0) (c := c) h0 h34 (fun e he => h3 e (by omega))).1 hh).1
  · refine .inr ⟨fun c hc hh => ?_, by omega⟩
    cases c with
    | zero => exact hc0 hh
    | succ c =>
      have e : c + 1 = 0 + 1 + c := by omega
      rw [e] at hh
      exact h1 c (by omega) ((clo_in_string (q := 0) (c := c) h0 h34 (fun e he => h1 e (by omega))).1 hh).1

/-- What the container's loop knows at place 'p': it has not ended yet, and the machine stands outside strings; or the text has run out inside a string. -/
def CI (g : Nat → Int) (n i p : Nat) (D : Int) : Prop :=
  (∃ d, p = i + d ∧ p ≤ n ∧ ms g i d = ⟨false, false, D⟩ ∧ 0 ≤ D ∧ D ≤ d ∧ (0 < d → 1 ≤ D) ∧ ∀ c, c < d → ¬ clo g i c) ∨
  (p = n + 1 ∧ 0 ≤ D ∧ D ≤ n ∧ ∀ c, i + c < n → ¬ clo g i c)

theorem CI_start (g : Nat → Int) (n i : Nat) (h : i ≤ n) : CI g n i i 0 :=
  .inl ⟨0, rfl, h, rfl, by omega, by omega, fun h => by omega, fun c hc => by omega⟩

theorem CI_bounds {g : Nat → Int} {n i p : Nat} {D : Int} (h : CI g n i p D) : 0 ≤ D ∧ D ≤ n ∧ p ≤ n + 1 := by
  rcases h with ⟨d, h1, h2, h3, h4, h5, h6, h7⟩ | ⟨h1, h2, h3, h4⟩ <;> omega

/-- The loop has run out. -/
theorem CI_out {g : Nat → Int} {n i p : Nat} {D : Int} (h : CI g n i p D) (hp : n ≤ p) : CE g n i n := by
  rcases h with ⟨d, h1, h2, h3, h4, h5, h6, h7⟩ | ⟨h1, h2, h3, h4⟩
  · exact .inr ⟨fun c hc => h7 c (by omega), rfl⟩
  · exact .inr ⟨h4, rfl⟩

/-- A string inside the container is jumped over. The container's own first byte is no quote. -/
theorem CI_string {g : Nat → Int} {n i p r : Nat} {D : Int} (h : CI g n i p D) (hp : p < n) (h34 : g p = 34) (hne : ¬ g i = 34) (hs : SE g n p r) : CI g n i r D := by
  rcases h with ⟨d, rfl, h2, h3, h4, h5, h6, h7⟩ | ⟨h1, h2, h3, h4⟩
  · have hd : 0 < d := by
      cases d with
      | zero => exact absurd h34 hne
      | succ d => omega
    have hD := h6 hd
    have hc0 := not_clo_quote h3 h34
    rcases hs with ⟨e, s1, s2, s3, rfl⟩ | ⟨s1, rfl⟩
    · have hin := in_string h3 h34 e s3
      refine .inl ⟨d + 1 + e + 1, by omega, by omega, ?_, h4, by omega, fun _ => hD, ?_⟩
      · show (ms g i (d + 1 + e)).step (g (i + (d + 1 + e))) = _
        rw [hin, show i + (d + 1 + e) = i + d + 1 + e by omega, s2.1, s2.2]
        simp [Mach.step]
      · intro c hc hh
        by_cases c1 : c < d
        · exact h7 c c1 hh
        · by_cases c2 : c = d
          · subst c2; exact hc0 hh
          · obtain ⟨f, rfl⟩ : ∃ f, c = d + 1 + f := ⟨c - d - 1, by omega⟩
            have := ((clo_in_string (c := f) h3 h34 (fun e' he => s3 e' (by omega))).1 hh).2
            omega
    · refine .inr ⟨rfl, h4, by omega, fun c hc hh => ?_⟩
      by_cases c1 : c < d
      · exact h7 c c1 hh
      · by_cases c2 : c = d
        · subst c2; exact hc0 hh
        · obtain ⟨f, rfl⟩ : ∃ f, c = d + 1 + f := ⟨c - d - 1, by omega⟩
          have := ((clo_in_string (c := f) h3 h34 (fun e' he => s1 e' (by omega))).1 hh).2
          omega
  · omega

theorem clo_plain {g : Nat → Int} {i d : Nat} {D : Int} (h : ms g i d = ⟨false, false, D⟩) : clo g i d ↔ (g (i + d) = 125 ∨ g (i + d) = 93) ∧ D - 1 = 0 := by
  unfold clo; rw [h]; simp [Mach.ends]

theorem ms_plain {g : Nat → Int} {i d : Nat} {D : Int} (h : ms g i d = ⟨false, false, D⟩) : ms g i (d + 1) = Mach.step (g (i + d)) ⟨false, false, D⟩ := by
  show (ms g i d).step _ = _; rw [h]

theorem lt_succ_cases {c d : Nat} (h : c < d + 1) : c < d ∨ c = d := by omega

/-- An opening bracket. -/
theorem CI_open {g : Nat → Int} {n i p : Nat} {D : Int} (h : CI g n i p D) (hp : p < n) (hx : g p = 123 ∨ g p = 91) : CI g n i (p + 1) (D + 1) := by
  rcases h with ⟨d, rfl, h2, h3, h4, h5, h6, h7⟩ | ⟨h1, h2, h3, h4⟩
  · refine .inl ⟨d + 1, by omega, by omega, ?_, by omega, by omega, fun _ => by omega, fun c hc hh => ?_⟩
    · rw [ms_plain h3]
      have : ¬ g (i + d) = 34 := by omega
      simp [Mach.step, this, hx]
    · rcases lt_succ_cases hc with e | rfl
      · exact h7 c e hh
      · have := ((clo_plain h3).1 hh).1; omega
  · omega

/-- A closing bracket that does not end the container. -/
theorem CI_close {g : Nat → Int} {n i p : Nat} {D : Int} (h : CI g n i p D) (hp : p < n) (hx : g p = 125 ∨ g p = 93) (hD : ¬ D - 1 = 0) (hi : ¬ p = i) : CI g n i (p + 1) (D - 1) := by
  rcases h with ⟨d, rfl, h2, h3, h4, h5, h6, h7⟩ | ⟨h1, h2, h3, h4⟩
  · have := h6 (by omega)
    refine .inl ⟨d + 1, by omega, by omega, ?_, by omega, by omega, fun _ => by omega, fun c hc hh => ?_⟩
    · rw [ms_plain h3]
      have e1 : ¬ g (i + d) = 34 := by omega
      have e2 : ¬ (g (i + d) = 123 ∨ g (i + d) = 91) := by omega
      simp [Mach.step, e1, e2, hx]
    · rcases lt_succ_cases hc with e | rfl
      · exact h7 c e hh
      · exact hD ((clo_plain h3).1 hh).2
  · omega

/-- The closing bracket that ends the container. -/
theorem CI_end {g : Nat → Int} {n i p : Nat} {D : Int} (h : CI g n i p D) (hp : p < n) (hx : g p = 125 ∨ g p = 93) (hD : D - 1 = 0) : CE g n i (p + 1) := by
  rcases h with ⟨d, rfl, h2, h3, h4, h5, h6, h7⟩ | ⟨h1, h2, h3, h4⟩
  · exact .inl ⟨d, hp, (clo_plain h3).2 ⟨hx, hD⟩, h7, rfl⟩
  · omega

/-- Any other byte outside strings. -/
theorem CI_other {g : Nat → Int} {n i p : Nat} {D : Int} (h : CI g n i p D) (hp : p < n) (hi : ¬ p = i) (h1 : ¬ g p = 34) (h2 : ¬ g p = 123) (h3 : ¬ g p = 91) (h4 : ¬ g p = 125) (h5 : ¬ g p = 93) : CI g n i (p + 1) D := by
  rcases h with ⟨d, rfl, k2, k3, k4, k5, k6, k7⟩ | ⟨k1, k2, k3, k4⟩
  · have := k6 (by omega)
    refine .inl ⟨d + 1, by omega, by omega, ?_, by omega, by omega, fun _ => by omega, fun c hc hh => ?_⟩
    · rw [ms_plain k3]; simp [Mach.step, h1, h2, h3, h4, h5]
    · rcases lt_succ_cases hc with e | rfl
      · exact k7 c e hh
      · have := ((clo_plain k3).1 hh).1; omega
  · omega

end Go.Proofs.Qxb6621704a.Plain
