import Derived.Test.Qxb6621704aStr
namespace Go.Proofs.Qxb6621704a
open Go.RowKit
open Go.Proofs.Qxb6621704a.Plain

theorem run_more {g : Nat → Int} {i d k : Nat} (h : ∀ t, t < k → g (i + d - t) = 92) (h92 : g (i + d - k) = 92) : ∀ t, t < k + 1 → g (i + d - t) = 92 := by
  intro t ht
  rcases lt_succ_cases ht with e | rfl
  · exact h t e
  · exact h92
theorem hit_even {g : Nat → Int} {i d k : Nat} (hk : k ≤ d) (h : ∀ t, t < k → g (i + d - t) = 92) (hend : k = d ∨ ¬ g (i + d - k) = 92) (he : ((k : Int) % 2 == 0) = true) : esc g i d = false := by
  rw [esc_run k d hk h hend]
  have : (k : Int) % 2 = 0 := by simpa using he
  simp; omega
theorem miss_odd {g : Nat → Int} {i d k : Nat} (hk : k ≤ d) (h : ∀ t, t < k → g (i + d - t) = 92) (hend : k = d ∨ ¬ g (i + d - k) = 92) (he : ((k : Int) % 2 == 0) = false)
    (hq : ∀ c, c < d → ¬ quo g i c) : ∀ c, c < d + 1 → ¬ quo g i c := by
  intro c hc hh
  rcases lt_succ_cases hc with e | rfl
  · exact hq c e hh
  · have e1 := hh.2
    rw [esc_run k c hk h hend] at e1
    have : ¬ (k : Int) % 2 = 0 := by simpa using he
    simp at e1; omega

set_option maxHeartbeats 400000 in
theorem model_core (b off n cap i : Nat) (g : Nat → Int) (w : World) (hn : n ≤ 4194304) (hi : i ≤ n)
    (hc : ∀ k, k < n → w.cell? ⟨b, off + k, none⟩ = some (.int .u8 (g k))) :
    Calls Try.prog 10 #[.slice (some ⟨b, off, none⟩) n cap, .int .i64 (i : Int)] w fun e w' => ∃ r : Nat, e = .returned (.int .i64 (r : Int)) ∧ SE g n i r ∧ w' = w := by
  go_enter Try.func10, Try.ntmps10
  go_wp2
  go_loop [5, 6] (fun t _ => ∃ d : Nat, i + 1 + d ≤ n + 1 ∧ t = .int .i64 ((i + 1 + d : Nat) : Int) ∧ ∀ c, c < d → ¬ quo g i c) (fun t _ => n + 1 - (intOf t).toNat)
  case atStart => exact ⟨0, by omega, by go_num, fun c hc => by omega⟩
  case round =>
    obtain ⟨d, hd, rfl, hq⟩ := hrel
    by_cases hlt : i + 1 + d < n
    · have hcx := hc (i + 1 + d) hlt
      by_cases h34 : g (i + 1 + d) = 34
      · have hne : (g (i + 1 + d) != 34) = false := by simp [h34]
        have H34 : Hid (g (i + 1 + d) = 34) := h34
        clear h34
        go_wp2
        go_loop [6] (fun t => ∃ k : Nat, k ≤ d ∧ t = .int .i64 (k : Int) ∧ ∀ t, t < k → g (i + d - t) = 92) (fun t => d - (intOf t).toNat)
        case atStart => exact ⟨0, by omega, by go_num, fun c hc => by omega⟩
        case round =>
          obtain ⟨k, hk, rfl, hrun⟩ := hrel
          by_cases hkd : k < d
          · have hky := hc (i + d - k) (by omega)
            have hrun' : Hid (∀ t, t < k → g (i + d - t) = 92) := hrun
            clear hrun hcx hc
            go_wp2
            · have h92 : g (i + d - k) = 92 := by simpa using ‹(g (i + d - k) == 92) = true›
              go_round
              case rel => exact ⟨k + 1, by omega, by go_num, run_more hrun'.out h92⟩
              case measure => simp [intOf]; omega
            · have h92 : ¬ g (i + d - k) = 92 := by simpa using ‹(g (i + d - k) == 92) = false›
              have he := hit_even hk hrun'.out (.inr h92) ‹((k : Int) % 2 == 0) = true›
              go_ret
              exact ⟨i + 1 + d + 1, by go_num, .inl ⟨d, hlt, ⟨H34.out, he⟩, hq, rfl⟩, rfl⟩
            · have h92 : ¬ g (i + d - k) = 92 := by simpa using ‹(g (i + d - k) == 92) = false›
              have he := miss_odd hk hrun'.out (.inr h92) ‹((k : Int) % 2 == 0) = false› hq
              go_round
              case rel => exact ⟨d + 1, by omega, by go_num, he⟩
              case measure => simp [intOf]; omega
          · obtain rfl : k = d := by omega
            have hrun' : Hid (∀ t, t < k → g (i + k - t) = 92) := hrun
            clear hrun hcx hc
            go_wp2
            · have he := hit_even hk hrun'.out (.inl rfl) ‹((k : Int) % 2 == 0) = true›
              go_ret
              exact ⟨i + 1 + k + 1, by go_num, .inl ⟨k, hlt, ⟨H34.out, he⟩, hq, rfl⟩, rfl⟩
            · have he := miss_odd hk hrun'.out (.inl rfl) ‹((k : Int) % 2 == 0) = false› hq
              go_round
              case rel => exact ⟨k + 1, by omega, by go_num, he⟩
              case measure => simp [intOf]; omega
      · have hne : (g (i + 1 + d) != 34) = true := by simp [h34]
        go_wp2
        go_round
        case rel => exact ⟨d + 1, by omega, by go_num, fun c hc hh => (by rcases lt_succ_cases hc with e | rfl; exact hq c e hh; exact h34 hh.1)⟩
        case measure => simp [intOf]; omega
    · go_wp2
      go_ret
      exact ⟨n + 1, by go_num, .inr ⟨fun c hc => hq c (by omega), rfl⟩, rfl⟩

theorem model_nil (a : Option Addr) (cap : Nat) (g : Nat → Int) (w : World) :
    Calls Try.prog 10 #[.slice a 0 cap, .int .i64 0] w fun e w' => ∃ r : Nat, e = .returned (.int .i64 (r : Int)) ∧ SE g 0 0 r ∧ w' = w := by
  go_enter Try.func10, Try.ntmps10
  go_wp2
  refine wp_loop_rounds 1 ?_
  rw [rounds_succ]
  go_wp2
  go_ret
  exact ⟨1, by go_num, .inr ⟨fun c hc => by omega, rfl⟩, rfl⟩

theorem model_any (v : Value) (n i : Nat) (g : Nat → Int) (w : World) (hn : n ≤ 4194304) (hi : i ≤ n) (hs : Sl w v n g) :
    Calls Try.prog 10 #[v, .int .i64 (i : Int)] w fun e w' => ∃ r : Nat, e = .returned (.int .i64 (r : Int)) ∧ SE g n i r ∧ w' = w := by
  obtain ⟨a, cap, rfl, h | ⟨b, off, rfl, hc⟩⟩ := hs
  · subst h
    obtain rfl : i = 0 := by omega
    exact model_nil a cap g w
  · exact model_core b off n cap i g w hn hi hc

end Go.Proofs.Qxb6621704a
