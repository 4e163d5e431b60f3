/-
  PLAIN: what settling a round does to the part of a process's state that the model follows.
-/
import Derived.Test.Qxb6619470aMode
namespace Go.Proofs.Qxb6619470a.Mode

structure St where
  x : Int
  pr : Bool
  pp : Int
  sp : Int
  se : Int

/-- 'stepIs' says which round of its phase the round is; 'k' is the phase's king. -/
def SR (n : Nat) (f : Int) (got at' : Nat → Int) (round step : Int) (k : Nat) (s t : St) : Prop :=
  if round ≤ s.se then t = s else
  t.se = round ∧
  if step = 1 then ∃ v c, ModeOf (cl s.x true got at' round n) v c ∧ t.x = s.x ∧ t.pr = decide ((n : Int) - f ≤ (c : Int)) ∧ t.pp = v ∧ t.sp = s.sp
  else if step = 2 then ∃ v c, ModeOf (cl s.pp s.pr got at' round n) v c ∧ t.x = (if f < (c : Int) then v else s.x) ∧ t.pr = s.pr ∧ t.pp = s.pp ∧ t.sp = ((cl s.pp s.pr got at' round n).count t.x : Int)
  else if step = 3 then t.x = (if s.sp < (n : Int) - f ∧ at' k = round then got k else s.x) ∧ t.pr = s.pr ∧ t.pp = s.pp ∧ t.sp = s.sp
  else t.x = s.x ∧ t.pr = s.pr ∧ t.pp = s.pp ∧ t.sp = s.sp

theorem St_ext {s t : St} (h1 : s.x = t.x) (h2 : s.pr = t.pr) (h3 : s.pp = t.pp) (h4 : s.sp = t.sp) (h5 : s.se = t.se) : s = t := by
  cases s; cases t; simp at *; exact ⟨h1, h2, h3, h4, h5⟩

theorem SR_unique {n : Nat} {f : Int} {got at' : Nat → Int} {round step : Int} {k : Nat} {s t u : St} (h : SR n f got at' round step k s t) (g : SR n f got at' round step k s u) : t = u := by
  unfold SR at h g
  by_cases h0 : round ≤ s.se
  · rw [if_pos h0] at h g; rw [h, g]
  rw [if_neg h0] at h g
  obtain ⟨h1, h⟩ := h
  obtain ⟨g1, g⟩ := g
  by_cases s1 : step = 1
  · rw [if_pos s1] at h g
    obtain ⟨v, c, hm, a1, a2, a3, a4⟩ := h
    obtain ⟨v', c', gm, b1, b2, b3, b4⟩ := g
    obtain ⟨rfl, rfl⟩ := ModeOf_unique hm gm
    exact St_ext (by rw [a1, b1]) (by rw [a2, b2]) (by rw [a3, b3]) (by rw [a4, b4]) (by rw [h1, g1])
  rw [if_neg s1] at h g
  by_cases s2 : step = 2
  · rw [if_pos s2] at h g
    obtain ⟨v, c, hm, a1, a2, a3, a4⟩ := h
    obtain ⟨v', c', gm, b1, b2, b3, b4⟩ := g
    obtain ⟨rfl, rfl⟩ := ModeOf_unique hm gm
    have hx : t.x = u.x := by rw [a1, b1]
    exact St_ext hx (by rw [a2, b2]) (by rw [a3, b3]) (by rw [a4, b4, hx]) (by rw [h1, g1])
  rw [if_neg s2] at h g
  by_cases s3 : step = 3
  · rw [if_pos s3] at h g
    obtain ⟨a1, a2, a3, a4⟩ := h
    obtain ⟨b1, b2, b3, b4⟩ := g
    exact St_ext (by rw [a1, b1]) (by rw [a2, b2]) (by rw [a3, b3]) (by rw [a4, b4]) (by rw [h1, g1])
  · rw [if_neg s3] at h g
    obtain ⟨a1, a2, a3, a4⟩ := h
    obtain ⟨b1, b2, b3, b4⟩ := g
    exact St_ext (by rw [a1, b1]) (by rw [a2, b2]) (by rw [a3, b3]) (by rw [a4, b4]) (by rw [h1, g1])

/-- Whatever holds of the values that came in, and of 0, holds of the values that are kept. -/
theorem SR_keeps {W : Int → Prop} {n : Nat} {f : Int} {got at' : Nat → Int} {round step : Int} {k : Nat} {s t : St} (hk : k ≤ n) (h0 : W 0) (hg : ∀ q, q ≤ n → W (got q)) (hx : W s.x) (hp : W s.pp)
    (h : SR n f got at' round step k s t) : W t.x ∧ W t.pp := by
  have hmode : ∀ own has v c, W own → ModeOf (cl own has got at' round n) v c → W v := by
    intro own has v c ho hm
    by_cases hc : 0 < c
    · rcases cl_mem own has got at' round n v (ModeOf_mem hm hc) with e | ⟨q, _, h2, e⟩
      · rw [e]; exact ho
      · rw [e]; exact hg q h2
    · rcases hm with ⟨_, h2, _⟩ | ⟨h1, _⟩
      · rw [h2]; exact h0
      · omega
  unfold SR at h
  by_cases hr : round ≤ s.se
  · rw [if_pos hr] at h; subst h; exact ⟨hx, hp⟩
  rw [if_neg hr] at h
  obtain ⟨_, h⟩ := h
  by_cases s1 : step = 1
  · rw [if_pos s1] at h
    obtain ⟨v, c, hm, a1, a2, a3, a4⟩ := h
    exact ⟨by rw [a1]; exact hx, by rw [a3]; exact hmode _ _ _ _ hx hm⟩
  rw [if_neg s1] at h
  by_cases s2 : step = 2
  · rw [if_pos s2] at h
    obtain ⟨v, c, hm, a1, a2, a3, a4⟩ := h
    refine ⟨?_, by rw [a3]; exact hp⟩
    rw [a1]
    split
    · exact hmode _ _ _ _ hp hm
    · exact hx
  rw [if_neg s2] at h
  by_cases s3 : step = 3
  · rw [if_pos s3] at h
    obtain ⟨a1, a2, a3, a4⟩ := h
    refine ⟨?_, by rw [a3]; exact hp⟩
    rw [a1]
    split
    · exact hg k hk
    · exact hx
  · rw [if_neg s3] at h
    obtain ⟨a1, a2, a3, a4⟩ := h
    exact ⟨by rw [a1]; exact hx, by rw [a3]; exact hp⟩

end Go.Proofs.Qxb6619470a.Mode
