/-
  PLAIN MATHEMATICS FOR FnReceiversKingRotates: the kings of n phases behind one another are the n processes, each once.
-/
namespace Go.Proofs.Qxb6619470a.Rot

/-- The king of phase 'ph + j'. -/
def kj (ph n j : Nat) : Nat := (ph + j - 1) % n + 1

theorem kj_bounds (ph n j : Nat) (hn : 1 ≤ n) : 1 ≤ kj ph n j ∧ kj ph n j ≤ n := by
  unfold kj
  have := Nat.mod_lt (ph + j - 1) (show n > 0 by omega)
  omega

/-- How often 'id' is king in the first 'j' phases. -/
def tm (ph n : Nat) : Nat → Nat → Nat
  | 0, _ => 0
  | j + 1, id => tm ph n j id + if kj ph n j = id then 1 else 0

theorem tm_zero (ph n : Nat) : ∀ j, tm ph n j 0 = 0
  | 0 => rfl
  | j + 1 => by
    have : ¬ kj ph n j = 0 := by unfold kj; omega
    simp [tm, tm_zero ph n j, this]

theorem tm_le (ph n : Nat) : ∀ j id, tm ph n j id ≤ j
  | 0, _ => Nat.le_refl _
  | j + 1, id => by have := tm_le ph n j id; simp only [tm]; split <;> omega

theorem mod_inj {a n j k : Nat} (hjk : j < k) (hk : k < n) : ¬ (a + j) % n = (a + k) % n := by
  intro h
  have h1 := Nat.div_add_mod (a + j) n
  have h2 := Nat.div_add_mod (a + k) n
  rw [h] at h1
  have h3 : n * ((a + k) / n) = n * ((a + j) / n) + (k - j) := by omega
  have h4 : (a + j) / n ≤ (a + k) / n := Nat.div_le_div_right (by omega)
  obtain ⟨d, hd⟩ : ∃ d, (a + k) / n = (a + j) / n + d := ⟨_, (Nat.add_sub_cancel' h4).symm⟩
  rw [hd, Nat.mul_add] at h3
  have h5 : n * d = k - j := by omega
  cases d with
  | zero => omega
  | succ d => rw [Nat.mul_succ] at h5; omega

theorem mod_surj {a n r : Nat} (hr : r < n) : ∃ j, j < n ∧ (a + j) % n = r := by
  have hlt := Nat.mod_lt a (show n > 0 by omega)
  have hda := Nat.div_add_mod a n
  by_cases h : a % n ≤ r
  · refine ⟨r - a % n, by omega, ?_⟩
    have : a + (r - a % n) = r + n * (a / n) := by omega
    rw [this, Nat.add_mul_mod_self_left, Nat.mod_eq_of_lt hr]
  · refine ⟨r + n - a % n, by omega, ?_⟩
    have : a + (r + n - a % n) = r + n * (a / n + 1) := by rw [Nat.mul_add]; omega
    rw [this, Nat.add_mul_mod_self_left, Nat.mod_eq_of_lt hr]

theorem kj_inj {ph n j k : Nat} (hp : 1 ≤ ph) (hjk : j < k) (hk : k < n) : ¬ kj ph n j = kj ph n k := by
  unfold kj
  intro h
  have h' : (ph - 1 + j) % n = (ph - 1 + k) % n := by
    rw [show ph - 1 + j = ph + j - 1 by omega, show ph - 1 + k = ph + k - 1 by omega]; omega
  exact mod_inj hjk hk h'

theorem kj_surj {ph n id : Nat} (hp : 1 ≤ ph) (h1 : 1 ≤ id) (h2 : id ≤ n) : ∃ j, j < n ∧ kj ph n j = id := by
  obtain ⟨j, hj, he⟩ := mod_surj (a := ph - 1) (n := n) (r := id - 1) (by omega)
  refine ⟨j, hj, ?_⟩
  unfold kj
  rw [show ph + j - 1 = ph - 1 + j by omega, he]; omega

theorem tm_none (ph n id : Nat) : ∀ j, (∀ k, k < j → ¬ kj ph n k = id) → tm ph n j id = 0
  | 0, _ => rfl
  | j + 1, h => by simp [tm, tm_none ph n id j (fun k hk => h k (by omega)), h j (by omega)]

theorem tm_after (ph n id : Nat) (hp : 1 ≤ ph) (k : Nat) (hk : kj ph n k = id) : ∀ j, k < j → j ≤ n → tm ph n j id = 1
  | 0, h, _ => by omega
  | j + 1, h, hn => by
    by_cases e : k = j
    · subst e
      have h0 := tm_none ph n id k (fun i hi he => kj_inj hp hi (by omega) (he.trans hk.symm))
      simp [tm, h0, hk]
    · have ih := tm_after ph n id hp k hk j (by omega) (by omega)
      have hne : ¬ kj ph n j = id := fun he => kj_inj (n := n) hp (show k < j by omega) (by omega) (hk.trans he.symm)
      simp [tm, ih, hne]

theorem tm_full {ph n id : Nat} (hp : 1 ≤ ph) (h1 : 1 ≤ id) (h2 : id ≤ n) : tm ph n n id = 1 := by
  obtain ⟨k, hk, he⟩ := kj_surj (ph := ph) hp h1 h2
  exact tm_after ph n id hp k he n hk (Nat.le_refl _)

/-- The counts in the middle of phase 'j', ahead of process 'q'. -/
def tq (ph n j q k : Nat) : Nat := if k < q then tm ph n (j + 1) k else tm ph n j k

theorem tq_start (ph n j k : Nat) : tq ph n j 1 k = tm ph n j k := by
  unfold tq
  by_cases h : k < 1
  · obtain rfl : k = 0 := by omega
    rw [if_pos h, tm_zero, tm_zero]
  · rw [if_neg h]

theorem tq_end (ph n j k : Nat) (h : k ≤ n) : tq ph n j (n + 1) k = tm ph n (j + 1) k := by
  unfold tq; rw [if_pos (by omega)]

theorem tq_hit (ph n j q k : Nat) (h : q = kj ph n j) : (if k = q then tq ph n j q q + 1 else tq ph n j q k) = tq ph n j (q + 1) k := by
  unfold tq
  by_cases e : k = q
  · subst e; rw [if_pos rfl, if_neg (by omega), if_pos (by omega)]; simp [tm, h]
  · rw [if_neg e]
    by_cases e2 : k < q
    · rw [if_pos e2, if_pos (by omega)]
    · rw [if_neg e2, if_neg (by omega)]

theorem tq_miss (ph n j q k : Nat) (h : ¬ q = kj ph n j) : tq ph n j q k = tq ph n j (q + 1) k := by
  unfold tq
  by_cases e : k = q
  · subst e
    rw [if_neg (by omega), if_pos (by omega)]
    have : ¬ kj ph n j = k := fun e => h e.symm
    simp [tm, this]
  · by_cases e2 : k < q
    · rw [if_pos e2, if_pos (by omega)]
    · rw [if_neg e2, if_neg (by omega)]

theorem tq_le (ph n j q k : Nat) : tq ph n j q k ≤ j + 1 := by
  unfold tq
  have h1 := tm_le ph n (j + 1) k
  have h2 := tm_le ph n j k
  split <;> omega

end Go.Proofs.Qxb6619470a.Rot
