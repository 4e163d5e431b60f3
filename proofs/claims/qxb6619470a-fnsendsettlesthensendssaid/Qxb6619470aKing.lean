import Derived.Test.Qxb6619470aProg
import Derived.WalkKit
import Derived.WalkSpells
namespace Go.Proofs.Qxb6619470a
open Go.RowKit

/-- Which round of its phase: 1, 2, 3. -/
def stp (r : Int) : Int := (r - 1) % 3 + 1
/-- The king of the round's phase. -/
def kg (r n : Int) : Int := (r - 1) / 3 % n + 1

theorem ret_int {k : IntKind} {a b : Int} (h : a = b) : Ending.returned (.int k a) = .returned (.int k b) := by rw [h]

theorem step_pos (r : Int) (w : World) (h1 : 1 ≤ r) (h2 : r ≤ 9223372036854775807) :
    Calls Try.prog 20 #[.int .i64 r] w fun e w' => e = .returned (.int .i64 (stp r)) ∧ w' = w := by
  have h3 : 0 ≤ (r - 1) % 3 := by omega
  have h4 : (r - 1) % 3 < 3 := by omega
  go_enter Try.func20, Try.ntmps20
  go_wp2
  go_ret
  exact ⟨ret_int (by unfold stp; omega), rfl⟩

theorem step_zero (w : World) : Calls Try.prog 20 #[.int .i64 0] w fun e w' => e = .returned (.int .i64 0) ∧ w' = w := by
  go_enter Try.func20, Try.ntmps20
  go_wp2
  go_ret
  exact ⟨ret_int (by decide), rfl⟩

theorem kg_bounds (r n : Int) (hn : 1 ≤ n) : 1 ≤ kg r n ∧ kg r n ≤ n := by
  unfold kg
  have := Int.emod_nonneg ((r - 1) / 3) (show n ≠ 0 by omega)
  have := Int.emod_lt_of_pos ((r - 1) / 3) (show 0 < n by omega)
  omega

theorem kingOf_any (r n : Int) (w : World) (h1 : 1 ≤ r) (h2 : r ≤ 9223372036854775807) (hn : 1 ≤ n) (hn2 : n ≤ 65536) :
    Calls Try.prog 21 #[.int .i64 r, .int .i64 n] w fun e w' => e = .returned (.int .i64 (kg r n)) ∧ w' = w := by
  have h5 := Int.emod_nonneg ((r - 1) / 3) (show n ≠ 0 by omega)
  have h6 := Int.emod_lt_of_pos ((r - 1) / 3) (show 0 < n by omega)
  have h3 : 0 ≤ (r - 1) / 3 := by omega
  have h4 : (r - 1) / 3 < 4000000000000000000 := by omega
  go_enter Try.func21, Try.ntmps21
  go_wp2
  go_ret
  exact ⟨rfl, rfl⟩

end Go.Proofs.Qxb6619470a
