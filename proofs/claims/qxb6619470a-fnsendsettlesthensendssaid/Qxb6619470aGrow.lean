import Derived.Test.Qxb6619470aRecv
import Derived.Lib.AppendZeros
namespace Go.Proofs.Qxb6619470a
open Go.RowKit

theorem info31 : (Try.prog.info? 31).map (fun i => (i.zero, i.size, i.bytes)) = some (some (.agg #[.int .i64 0, .slice none 0 0]), 2, 32) := by kernel_rfl

/-- slices.Grow(nil, m): no element; its own memory. -/
theorem grow_zero (w : World) : Calls Try.prog 22 #[.slice none 0 0, .int .i64 0] w fun e w' => e = .returned (.slice none 0 0) ∧ w' = w := by
  go_enter Try.func22, Try.ntmps22
  go_wp2
  go_ret
  exact ⟨rfl, rfl⟩

theorem zeroCells_size (z : Array Value) (n : Nat) : (Builtin.zeroCells z n).size = n * z.size := by
  simp [Builtin.zeroCells]

set_option maxHeartbeats 400000 in
theorem grow_pos (m : Nat) (w : World) (h0 : 1 ≤ m) (hm : m ≤ 65536) : Calls Try.prog 22 #[.slice none 0 0, .int .i64 (m : Int)] w fun e w' => ∃ a cap, e = .returned (.slice a 0 cap) ∧ w'.ownsRow w.heap.size 31 2 (.slice a 0 cap) 0 [] ∧ Below w.heap.size w w' := by
  obtain ⟨i0, hi, hz0, hz1, hz2⟩ := info_parts info31
  have hrun := fun ty => Lib.run_append_nil_zeros (P := Try.prog) w 24 3 ty 31 i0 _ .i64 .i64 Try.underlying24 Try.underlying3 hi hz0 m (by omega) (by omega) (by omega) (by rw [hz2]; omega)
  go_enter Try.func22, Try.ntmps22
  go_wp2_with (at_builtin; refine Lib.wpList_append_run _ rfl _ _ 24 3 rfl _ _ rfl rfl _ _ (hrun _) ?_)
  have hge := grownCap_ge w m 0 31
  have hle := grownCap_le_maxLen w m 0 31 (by unfold maxLen; omega)
  generalize grownCap w m 0 31 = cap at *
  go_ret
  refine ⟨_, cap, rfl, ?_, ((Below.refl _ _).alloc (Nat.le_refl _) _).drew⟩
  refine World.ownsRow.drew ?_
  refine World.ownsRow_made w _ cap (Nat.le_refl _) hle ?_
  rw [Array.size_append, zeroCells_size, zeroCells_size]
  simp
  omega

/-- slices.Grow(nil, m), both ways in one. -/
theorem grow_any (m : Nat) (w : World) (hm : m ≤ 65536) : Calls Try.prog 22 #[.slice none 0 0, .int .i64 (m : Int)] w fun e w' => ∃ a cap, e = .returned (.slice a 0 cap) ∧ w'.ownsRow w.heap.size 31 2 (.slice a 0 cap) 0 [] ∧ Below w.heap.size w w' := by
  by_cases h : m = 0
  · subst h
    exact (grow_zero w).mono fun e w' ⟨he, hw⟩ => ⟨none, 0, he, World.ownsRow_nil _ _ _ _, by rw [hw]; exact Below.refl _ _⟩
  · exact grow_pos m w (by omega) hm

end Go.Proofs.Qxb6619470a
