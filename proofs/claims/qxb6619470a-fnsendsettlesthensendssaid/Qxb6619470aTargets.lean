import Derived.Test.Qxb6619470aSend
namespace Go.Proofs.Qxb6619470a
open Go.RowKit

theorem rl_mem (id : Int) : ∀ (k i : Nat) (q : Int), (rl id k)[i]? = some q → 1 ≤ q ∧ q ≤ k ∧ ¬ q = id
  | 0, i, q, h => by simp [rl] at h
  | k + 1, i, q, h => by
    have ih := rl_mem id k i q
    unfold rl at h
    by_cases e : (k : Int) + 1 = id
    · rw [if_pos e] at h
      have := ih h
      omega
    · rw [if_neg e, List.getElem?_append] at h
      split at h
      · have := ih h; omega
      · rename_i hl
        have hi : i - (rl id k).length = 0 := by
          cases hh : i - (rl id k).length with
          | zero => rfl
          | succ j => rw [hh] at h; simp at h
        rw [hi] at h
        simp at h
        omega

theorem rl_incr (id : Int) : ∀ (k i : Nat) (q q' : Int), (rl id k)[i]? = some q → (rl id k)[i + 1]? = some q' → q < q'
  | 0, i, q, q', h, _ => by simp [rl] at h
  | k + 1, i, q, q', h, h' => by
    have ih := rl_incr id k i q q'
    have hm := rl_mem id k i q
    unfold rl at h h'
    by_cases e : (k : Int) + 1 = id
    · rw [if_pos e] at h h'
      exact ih h h'
    · rw [if_neg e, List.getElem?_append] at h h'
      by_cases hl : i + 1 < (rl id k).length
      · rw [if_pos (by omega)] at h
        rw [if_pos hl] at h'
        exact ih h h'
      · rw [if_neg hl] at h'
        have hi : i + 1 - (rl id k).length = 0 := by
          cases hh : i + 1 - (rl id k).length with
          | zero => rfl
          | succ j => rw [hh] at h'; simp at h'
        rw [hi] at h'
        simp at h'
        by_cases hl2 : i < (rl id k).length
        · rw [if_pos hl2] at h
          have := hm h
          omega
        · omega

theorem ml_get (iv : Value) : ∀ (l : List Int) (i : Nat) (q : Int), l[i]? = some q → (ml iv l)[i * 2]? = some (.int .i64 q) ∧ (ml iv l)[i * 2 + 1]? = some iv
  | [], i, q, h => by simp at h
  | p :: l, 0, q, h => by simp at h; subst h; simp [ml]
  | p :: l, i + 1, q, h => by
    have ih := ml_get iv l i q (by simpa using h)
    have e : (i + 1) * 2 = i * 2 + 1 + 1 := by omega
    rw [e]
    simpa [ml] using ih

theorem own_cell {w : World} {M : Nat} {e : TypeId} {size n cap : Nat} {a : Option Addr} {xs : List Value} (h : w.ownsRow M e size (.slice a n cap) n xs) (hn : 0 < n) :
    ∃ g, a = some ⟨g, 0, none⟩ ∧ M ≤ g ∧ g < w.heap.size ∧ ∀ i v, xs[i]? = some v → w.cell? ⟨g, i, none⟩ = some v := by
  obtain ⟨_, ⟨hv, h0⟩ | ⟨g, c, cur, hv, hg, hb, h1, h2, h3, h4⟩⟩ := h
  · omega
  · simp only [Value.slice.injEq] at hv
    obtain ⟨rfl, _, rfl⟩ := hv
    refine ⟨g, rfl, hg, ?_, fun i v hi => ?_⟩
    · have := Array.getElem?_eq_some_iff.1 hb
      exact this.1
    · rw [← h4] at hi
      have hi2 : i < n * size := by
        have := List.getElem?_eq_some_iff.1 hi
        obtain ⟨h5, _⟩ := this
        simp at h5
        omega
      rw [List.getElem?_take_of_lt hi2] at hi
      simp [World.cell?, hb]
      simpa using hi

/-! ### The process, made; the settled round -/
theorem new_any (id f x pp sp se : Int) (n : Nat) (pr : Bool) (ag aa : Option Addr) (lg cg la ca : Nat) (w : World) :
    Calls Try.prog 7 #[.int .i64 id, .int .i64 (n : Int), .int .i64 f, .int .i64 x, .bool pr, .int .i64 pp, .int .i64 sp, .slice ag lg cg, .slice aa la ca, .int .i64 se] w
      fun e w' => e = .returned (.pointer (some ⟨w.heap.size, 0, none⟩)) ∧ w' = w.alloc (.cells (pcells id n f x pr pp sp (.slice ag lg cg) (.slice aa la ca) (.slice none 0 0) 0 se (.slice none 0 0) (.slice none 0 0)).toArray 50) := by
  go_enter Try.func7, Try.ntmps7
  go_wp2
  go_ret
  exact ⟨rfl, rfl⟩

theorem settle_done (B n : Nat) (id f x pp sp se rd round : Int) (pr : Bool) (vg va vr vi vo : Value) (w : World) (hP : PS w B (pcells id n f x pr pp sp vg va vr rd se vi vo)) (h : round ≤ se) :
    Calls Try.prog 19 #[.pointer (some ⟨B, 0, none⟩), .int .i64 round] w fun e w' => e = .returned (.tuple #[]) ∧ w' = w := by
  obtain ⟨c11, f11⟩ := hP 11 _ rfl
  clear hP
  go_enter Try.func19, Try.ntmps19
  go_wp2
  exact bodyPost_ret (results_none rfl _ _ _) rfl ⟨rfl, rfl⟩

theorem third_any (r n : Int) (w : World) (h1 : 3 ≤ r) (h2 : r ≤ 9223372036854775807) (hr : stp r = 3) (hn : 1 ≤ n) (hn2 : n ≤ 65536) :
    Calls Try.prog 10 #[.int .i64 r, .int .i64 n] w fun e w' => e = .returned (.int .i64 (kg r n)) ∧ w' = w := by
  have hk : Hid (kg r n = (r / 3 - 1) % n + 1) := by show kg r n = _; unfold kg; unfold stp at hr; congr 2; omega
  clear hr
  have h5 := Int.emod_nonneg (r / 3 - 1) (show n ≠ 0 by omega)
  have h6 := Int.emod_lt_of_pos (r / 3 - 1) (show 0 < n by omega)
  have h3 : 1 ≤ r / 3 := by omega
  have h4 : r / 3 < 4000000000000000000 := by omega
  go_enter Try.func10, Try.ntmps10
  go_wp2
  go_ret
  exact ⟨ret_int (by rw [hk.out]), rfl⟩

end Go.Proofs.Qxb6619470a
