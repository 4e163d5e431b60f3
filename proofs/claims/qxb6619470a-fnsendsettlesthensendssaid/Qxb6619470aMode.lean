/-
  PLAIN MATHEMATICS: the value counted most often in a list, the smallest of those.
-/
namespace Go.Proofs.Qxb6619470a.Mode

/-- 'v' is the value counted most often in 'l', the smallest of those, 'c' its count; 0, 0 for no values. -/
def ModeOf (l : List Int) (v : Int) (c : Nat) : Prop :=
  (l = [] ∧ v = 0 ∧ c = 0) ∨ (0 < c ∧ l.count v = c ∧ ∀ u, l.count u ≤ c ∧ (l.count u = c → v ≤ u))

theorem ModeOf_unique {l : List Int} {v w : Int} {c d : Nat} (h : ModeOf l v c) (k : ModeOf l w d) : v = w ∧ c = d := by
  rcases h with ⟨h1, h2, h3⟩ | ⟨h1, h2, h3⟩
  · rcases k with ⟨k1, k2, k3⟩ | ⟨k1, k2, k3⟩
    · exact ⟨by omega, by omega⟩
    · subst h1; simp at k2; omega
  · rcases k with ⟨k1, k2, k3⟩ | ⟨k1, k2, k3⟩
    · subst k1; simp at h2; omega
    · have a1 := (h3 w).1
      have a2 := (k3 v).1
      have hcd : c = d := by omega
      have b1 := (h3 w).2 (by omega)
      have b2 := (k3 v).2 (by omega)
      exact ⟨by omega, hcd⟩

theorem ModeOf_perm {l m : List Int} {v : Int} {c : Nat} (hp : l.Perm m) (h : ModeOf l v c) : ModeOf m v c := by
  have hc : ∀ u, m.count u = l.count u := fun u => (hp.count_eq u).symm
  rcases h with ⟨h1, h2, h3⟩ | ⟨h1, h2, h3⟩
  · subst h1
    exact .inl ⟨hp.nil_eq.symm, h2, h3⟩
  · exact .inr ⟨h1, by rw [hc]; exact h2, fun u => by rw [hc]; exact h3 u⟩

theorem ModeOf_le {l : List Int} {v : Int} {c : Nat} (h : ModeOf l v c) : c ≤ l.length := by
  rcases h with ⟨h1, h2, h3⟩ | ⟨h1, h2, h3⟩
  · omega
  · rw [← h2]; exact List.count_le_length

theorem ModeOf_mem {l : List Int} {v : Int} {c : Nat} (h : ModeOf l v c) (hc : 0 < c) : v ∈ l := by
  rcases h with ⟨h1, h2, h3⟩ | ⟨h1, h2, h3⟩
  · omega
  · exact List.count_pos_iff.1 (by omega)

/-! ### By a pass over all counts -/

/-- What the second pass of zzMode knows behind 'i' elements. -/
def Best (l : List Int) (i : Nat) (b : Int) (c : Nat) : Prop :=
  (i = 0 ∧ b = 0 ∧ c = 0) ∨ (0 < c ∧ l.count b = c ∧ ∀ u ∈ l.take i, l.count u ≤ c ∧ (l.count u = c → b ≤ u))

theorem Best_le {l : List Int} {i : Nat} {b : Int} {c : Nat} (h : Best l i b c) : c ≤ l.length := by
  rcases h with ⟨h1, h2, h3⟩ | ⟨h1, h2, h3⟩
  · omega
  · rw [← h2]; exact List.count_le_length

theorem mem_take_succ {l : List Int} {i : Nat} {z u : Int} (hz : l[i]? = some z) (hu : u ∈ l.take (i + 1)) : u ∈ l.take i ∨ u = z := by
  obtain ⟨h1, h2⟩ := List.getElem?_eq_some_iff.1 hz
  rw [List.take_succ_eq_append_getElem h1, List.mem_append] at hu
  rcases hu with h | h
  · exact .inl h
  · right; simp at h; omega

theorem count_pos_of {l : List Int} {i : Nat} {z : Int} (hz : l[i]? = some z) : 0 < l.count z :=
  List.count_pos_iff.2 (List.mem_of_getElem? hz)

theorem Best_take {l : List Int} {i : Nat} {b z : Int} {c : Nat} (h : Best l i b c) (hz : l[i]? = some z) (ht : c < l.count z ∨ (l.count z = c ∧ z < b)) : Best l (i + 1) z (l.count z) := by
  refine .inr ⟨count_pos_of hz, rfl, fun u hu => ?_⟩
  rcases mem_take_succ hz hu with hu | rfl
  · rcases h with ⟨h1, h2, h3⟩ | ⟨h1, h2, h3⟩
    · subst h1; simp at hu
    · obtain ⟨a1, a2⟩ := h3 u hu
      rcases ht with ht | ⟨ht, hb⟩
      · exact ⟨by omega, fun e => by omega⟩
      · exact ⟨by omega, fun e => by have := a2 (by omega); omega⟩
  · exact ⟨Nat.le_refl _, fun _ => Int.le_refl _⟩

theorem Best_keep {l : List Int} {i : Nat} {b z : Int} {c : Nat} (h : Best l i b c) (hz : l[i]? = some z) (h1 : ¬ c < l.count z) (h2 : ¬ (l.count z = c ∧ z < b)) : Best l (i + 1) b c := by
  have hp := count_pos_of hz
  rcases h with ⟨k1, k2, k3⟩ | ⟨k1, k2, k3⟩
  · omega
  · refine .inr ⟨k1, k2, fun u hu => ?_⟩
    rcases mem_take_succ hz hu with hu | rfl
    · exact k3 u hu
    · exact ⟨by omega, fun e => by omega⟩

theorem Best_end {l : List Int} {b : Int} {c : Nat} (h : Best l l.length b c) : ModeOf l b c := by
  rcases h with ⟨h1, h2, h3⟩ | ⟨h1, h2, h3⟩
  · exact .inl ⟨List.eq_nil_of_length_eq_zero h1, h2, h3⟩
  · refine .inr ⟨h1, h2, fun u => ?_⟩
    rw [List.take_length] at h3
    by_cases hu : u ∈ l
    · exact h3 u hu
    · rw [List.count_eq_zero.2 hu]
      exact ⟨by omega, fun e => by omega⟩

/-! ### By the runs of a sorted list -/

def Sorted (s : List Int) : Prop := ∀ (i j : Nat) (a b : Int), i ≤ j → s[i]? = some a → s[j]? = some b → a ≤ b

theorem Sorted_of_pairwise {s : List Int} (h : s.Pairwise (· ≤ ·)) : Sorted s := by
  intro i j a b hij ha hb
  by_cases e : i = j
  · subst e; rw [ha] at hb; simp at hb; omega
  · rw [List.pairwise_iff_getElem] at h
    obtain ⟨h1, h2⟩ := List.getElem?_eq_some_iff.1 ha
    obtain ⟨h3, h4⟩ := List.getElem?_eq_some_iff.1 hb
    have := h i j h1 h3 (by omega)
    omega

/-- Ahead of place 'i' all is smaller than from it on; 'v', 'c': the mode of what lies ahead. -/
def Run (s : List Int) (i : Nat) (v : Int) (c : Nat) : Prop :=
  i ≤ s.length ∧ (∀ a b p q, a < i → i ≤ b → s[a]? = some p → s[b]? = some q → p < q) ∧ ModeOf (s.take i) v c

theorem Run_zero (s : List Int) : Run s 0 0 0 := ⟨Nat.zero_le _, fun a b p q ha => by omega, .inl ⟨by simp, rfl, rfl⟩⟩

theorem Run_end {s : List Int} {v : Int} {c : Nat} (h : Run s s.length v c) : ModeOf s v c := by
  have := h.2.2
  rwa [List.take_length] at this

/-- Elements 'i' to 'j - 1' are all 'u'. -/
def Same (s : List Int) (i j : Nat) (u : Int) : Prop := ∀ k, i ≤ k → k < j → s[k]? = some u

theorem Same_one {s : List Int} {i : Nat} {u : Int} (h : s[i]? = some u) : Same s i (i + 1) u := fun k h1 h2 => by
  obtain rfl : k = i := by omega
  exact h
theorem Same_more {s : List Int} {i j : Nat} {u : Int} (h : Same s i j u) (hj : s[j]? = some u) : Same s i (j + 1) u := fun k h1 h2 => by
  by_cases e : k = j
  · subst e; exact hj
  · exact h k h1 (by omega)

theorem take_same {s : List Int} {i : Nat} {u : Int} : ∀ (d : Nat), i + d ≤ s.length → Same s i (i + d) u → s.take (i + d) = s.take i ++ List.replicate d u
  | 0, _, _ => by simp
  | d + 1, hl, h => by
    have h1 : i + d < s.length := by omega
    have h2 := h (i + d) (by omega) (by omega)
    obtain ⟨h3, h4⟩ := List.getElem?_eq_some_iff.1 h2
    have ih := take_same (s := s) (i := i) (u := u) d (by omega) (fun k a b => h k a (by omega))
    rw [← Nat.add_assoc, List.take_succ_eq_append_getElem h1, ih, List.replicate_succ', h4]
    simp

/-- The scan goes over one whole run. -/
theorem Run_step {s : List Int} {i j : Nat} {v u : Int} {c : Nat} (hs : Sorted s) (h : Run s i v c) (hij : i < j) (hj : j ≤ s.length) (hsame : Same s i j u) (hend : j = s.length ∨ ∃ q, s[j]? = some q ∧ ¬ q = u) :
    Run s j (if c < j - i then u else v) (if c < j - i then j - i else c) := by
  obtain ⟨d, rfl⟩ : ∃ d, j = i + d := ⟨j - i, by omega⟩
  have hd : 0 < d := by omega
  have ht := take_same d hj hsame
  have hui := hsame i (Nat.le_refl _) hij
  have hlast := hsame (i + d - 1) (by omega) (by omega)
  obtain ⟨h1, h2, h3⟩ := h
  have hnot : (s.take i).count u = 0 := by
    rw [List.count_eq_zero]
    intro hm
    obtain ⟨a, ha, hau⟩ := List.getElem_of_mem hm
    have ha2 : a < i := by simp at ha; omega
    have hau2 : s[a]? = some u := by
      rw [List.getElem_take] at hau
      rw [List.getElem?_eq_getElem (by omega), hau]
    have := h2 a i u u ha2 (Nat.le_refl _) hau2 hui
    omega
  have hcu : (s.take (i + d)).count u = d := by rw [ht, List.count_append, hnot, List.count_replicate_self]; omega
  have hco : ∀ x, ¬ x = u → (s.take (i + d)).count x = (s.take i).count x := by
    intro x hx
    rw [ht, List.count_append, List.count_replicate, if_neg (by simpa using fun e => hx e.symm)]
    rfl
  refine ⟨hj, ?_, ?_⟩
  · intro a b p q ha hb hp hq
    have hpu : p ≤ u := hs a (i + d - 1) p u (by omega) hp hlast
    rcases hend with he | ⟨r, hr, hru⟩
    · have := (List.getElem?_eq_some_iff.1 hq).1; omega
    · have h5 : r ≤ q := hs (i + d) b r q hb hr hq
      have h6 : u ≤ r := hs (i + d - 1) (i + d) u r (by omega) hlast hr
      omega
  · have e : i + d - i = d := by omega
    rw [e]
    by_cases hc : c < d
    · rw [if_pos hc, if_pos hc]
      refine .inr ⟨hd, hcu, fun x => ?_⟩
      by_cases hx : x = u
      · subst hx; exact ⟨by omega, fun _ => Int.le_refl _⟩
      · rw [hco x hx]
        have : (s.take i).count x ≤ c := by
          rcases h3 with ⟨k1, k2, k3⟩ | ⟨k1, k2, k3⟩
          · rw [k1]; simp
          · exact (k3 x).1
        exact ⟨by omega, fun _ => by omega⟩
    · rw [if_neg hc, if_neg hc]
      rcases h3 with ⟨k1, k2, k3⟩ | ⟨k1, k2, k3⟩
      · omega
      · have hvm : v ∈ s.take i := List.count_pos_iff.1 (by omega)
        obtain ⟨a, ha, hav⟩ := List.getElem_of_mem hvm
        have ha2 : a < i := by simp at ha; omega
        have hav2 : s[a]? = some v := by
          rw [List.getElem_take] at hav
          rw [List.getElem?_eq_getElem (by omega), hav]
        have hvu : v < u := h2 a i v u ha2 (Nat.le_refl _) hav2 hui
        refine .inr ⟨k1, by rw [hco v (by omega)]; exact k2, fun x => ?_⟩
        by_cases hx : x = u
        · subst hx; exact ⟨by omega, fun _ => by omega⟩
        · rw [hco x hx]; exact k3 x

/-! ### The values that are counted -/

/-- A process's own value, if it has one, and those of the processes 1 .. k that came in the round. -/
def cl (own : Int) (has : Bool) (got at' : Nat → Int) (round : Int) : Nat → List Int
  | 0 => if has = true then [own] else []
  | k + 1 => if at' (k + 1) = round then cl own has got at' round k ++ [got (k + 1)] else cl own has got at' round k

theorem cl_le (own : Int) (has : Bool) (got at' : Nat → Int) (round : Int) : ∀ k, (cl own has got at' round k).length ≤ k + 1
  | 0 => by unfold cl; split <;> simp
  | k + 1 => by
    have := cl_le own has got at' round k
    unfold cl
    split
    · simp; omega
    · omega

theorem cl_mem (own : Int) (has : Bool) (got at' : Nat → Int) (round : Int) : ∀ k z, z ∈ cl own has got at' round k → z = own ∨ ∃ q, 1 ≤ q ∧ q ≤ k ∧ z = got q
  | 0, z, h => by
    unfold cl at h
    split at h
    · left; simpa using h
    · simp at h
  | k + 1, z, h => by
    have ih := cl_mem own has got at' round k z
    unfold cl at h
    split at h
    · rw [List.mem_append] at h
      rcases h with h | h
      · rcases ih h with h | ⟨q, h1, h2, h3⟩
        · exact .inl h
        · exact .inr ⟨q, h1, by omega, h3⟩
      · simp at h
        exact .inr ⟨k + 1, by omega, by omega, h⟩
    · rcases ih h with h | ⟨q, h1, h2, h3⟩
      · exact .inl h
      · exact .inr ⟨q, h1, by omega, h3⟩

end Go.Proofs.Qxb6619470a.Mode
