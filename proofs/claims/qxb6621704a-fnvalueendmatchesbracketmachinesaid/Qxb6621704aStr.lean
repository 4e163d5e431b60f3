import Derived.Test.Qxb6621704aProg
import Derived.Test.Qxb6621704aPlain
import Derived.WalkKit
namespace Go.Proofs.Qxb6621704a
open Go.RowKit
open Go.Proofs.Qxb6621704a.Plain

/-- The slice value 'v' has 'n' bytes, 'g 0 .. g (n-1)'. -/
def Sl (w : World) (v : Value) (n : Nat) (g : Nat → Int) : Prop :=
  ∃ a cap, v = .slice a n cap ∧ (n = 0 ∨ ∃ b off, a = some ⟨b, off, none⟩ ∧ ∀ k, k < n → w.cell? ⟨b, off + k, none⟩ = some (.int .u8 (g k)))

set_option maxHeartbeats 400000 in
theorem stringEnd_core (b off n cap i : Nat) (g : Nat → Int) (w : World) (hn : n ≤ 4194304) (hi : i ≤ n)
    (hc : ∀ k, k < n → w.cell? ⟨b, off + k, none⟩ = some (.int .u8 (g k))) :
    Calls Try.prog 20 #[.slice (some ⟨b, off, none⟩) n cap, .int .i64 (i : Int)] w fun e w' => ∃ r : Nat, e = .returned (.int .i64 (r : Int)) ∧ SE g n i r ∧ w' = w := by
  go_enter Try.func20, Try.ntmps20
  go_wp2
  go_loop [1] (fun t => ∃ d : Nat, i + 1 + d ≤ n + 1 ∧ t = .int .i64 ((i + 1 + d : Nat) : Int) ∧ esc g i d = false ∧ ∀ c, c < d → ¬ quo g i c) (fun t => n + 1 - (intOf t).toNat)
  case atStart => exact ⟨0, by omega, by go_num, rfl, fun c hc => by omega⟩
  case round =>
    obtain ⟨d, hd, rfl, he, hq⟩ := hrel
    by_cases hlt : i + 1 + d < n
    · have hcx := hc (i + 1 + d) hlt
      go_wp2
      · have h34 : g (i + 1 + d) = 34 := by simpa using ‹(g (i + 1 + d) == 34) = true›
        go_ret
        exact ⟨i + 1 + d + 1, by go_num, .inl ⟨d, hlt, ⟨h34, he⟩, hq, rfl⟩, rfl⟩
      · have h92 : g (i + 1 + d) = 92 := by simpa using ‹(g (i + 1 + d) == 92) = true›
        obtain ⟨e1, e2⟩ := step_back he hq h92
        go_round
        case rel => exact ⟨d + 2, by omega, by go_num, e1, e2⟩
        case measure => simp [intOf]; omega
      · have h34 : ¬ g (i + 1 + d) = 34 := by simpa using ‹(g (i + 1 + d) == 34) = false›
        have h92 : ¬ g (i + 1 + d) = 92 := by simpa using ‹(g (i + 1 + d) == 92) = false›
        obtain ⟨e1, e2⟩ := step_plain (n := n) he hq h34 h92
        go_round
        case rel => exact ⟨d + 1, by omega, by go_num, e1, e2⟩
        case measure => simp [intOf]; omega
    · go_wp2
      go_ret
      exact ⟨n + 1, by go_num, .inr ⟨fun c hc => hq c (by omega), rfl⟩, rfl⟩

theorem stringEnd_nil (a : Option Addr) (cap : Nat) (g : Nat → Int) (w : World) :
    Calls Try.prog 20 #[.slice a 0 cap, .int .i64 0] w fun e w' => ∃ r : Nat, e = .returned (.int .i64 (r : Int)) ∧ SE g 0 0 r ∧ w' = w := by
  go_enter Try.func20, Try.ntmps20
  go_wp2
  refine wp_loop_rounds 1 ?_
  rw [rounds_succ]
  go_wp2
  go_ret
  exact ⟨1, by go_num, .inr ⟨fun c hc => by omega, rfl⟩, rfl⟩

theorem stringEnd_any (v : Value) (n i : Nat) (g : Nat → Int) (w : World) (hn : n ≤ 4194304) (hi : i ≤ n) (hs : Sl w v n g) :
    Calls Try.prog 20 #[v, .int .i64 (i : Int)] w fun e w' => ∃ r : Nat, e = .returned (.int .i64 (r : Int)) ∧ SE g n i r ∧ w' = w := by
  obtain ⟨a, cap, rfl, h | ⟨b, off, rfl, hc⟩⟩ := hs
  · subst h
    obtain rfl : i = 0 := by omega
    exact stringEnd_nil a cap g w
  · exact stringEnd_core b off n cap i g w hn hi hc

theorem zzStringEnd_any (v : Value) (n i : Nat) (g : Nat → Int) (w : World) (hn : n ≤ 4194304) (hi : i ≤ n) (hs : Sl w v n g) :
    Calls Try.prog 9 #[v, .int .i64 (i : Int)] w fun e w' => ∃ r : Nat, e = .returned (.int .i64 (r : Int)) ∧ SE g n i r ∧ w' = w := by
  have H : Hid (Sl w v n g) := hs
  clear hs
  go_enter Try.func9, Try.ntmps9
  go_wp2_with fail
  refine (stringEnd_any v n i g _ hn hi H.out).mono ?_
  rintro e w' ⟨r, rfl, hr, rfl⟩
  go_wp2
  go_ret
  exact ⟨r, rfl, hr, rfl⟩

end Go.Proofs.Qxb6621704a
