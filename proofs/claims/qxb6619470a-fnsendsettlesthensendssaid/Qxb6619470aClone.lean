import Derived.Test.Qxb6619470aBoth
namespace Go.Proofs.Qxb6619470a
open Go.RowKit
open Go.Proofs.Qxb6619470a.Mode
set_option linter.unusedVariables false

/-- The numbers of 'g', as cells. -/
def Ci (g : Nat → Int) (n : Nat) : Array Value := ((List.range n).map fun k => Value.int .i64 (g k)).toArray
theorem Ci_get (g : Nat → Int) (n k : Nat) (h : k < n) : (Ci g n)[k]? = some (.int .i64 (g k)) := by simp [Ci, h]
theorem Ci_size (g : Nat → Int) (n : Nat) : (Ci g n).size = n := by simp [Ci]
def Ji (g : Nat → Int) (N j : Nat) : Array Value := ((List.range N).map fun k => if k < j then Value.int .i64 (g k) else .int .i64 0).toArray
theorem Ji_size (g : Nat → Int) (N j : Nat) : (Ji g N j).size = N := by simp [Ji]
theorem Ji_get (g : Nat → Int) (N j k : Nat) (h : k < N) : (Ji g N j)[k]? = some (if k < j then Value.int .i64 (g k) else .int .i64 0) := by simp [Ji, h]
theorem Ji_full (g : Nat → Int) (N : Nat) : Ji g N N = Ci g N := by
  apply Array.ext_getElem?
  intro k
  by_cases h : k < N
  · rw [Ji_get g N N k h, Ci_get g N k h, if_pos h]
  · rw [Array.getElem?_eq_none (by rw [Ji_size]; omega), Array.getElem?_eq_none (by rw [Ci_size]; omega)]
theorem Ji_set (g : Nat → Int) (N j : Nat) (h : j < N) : (Ji g N j).setIfInBounds j (.int .i64 (g j)) = Ji g N (j + 1) := by
  apply Array.ext_getElem?
  intro k
  rw [Array.getElem?_setIfInBounds]
  by_cases hk : j = k
  · subst hk
    rw [if_pos rfl, Ji_size, if_pos h, Ji_get g N _ j h, if_pos (by omega)]
  · rw [if_neg hk]
    by_cases hN : k < N
    · rw [Ji_get g N _ k hN, Ji_get g N _ k hN]
      by_cases h1 : k < j
      · rw [if_pos h1, if_pos (by omega)]
      · rw [if_neg h1, if_neg (by omega)]
    · rw [Array.getElem?_eq_none (by rw [Ji_size]; omega), Array.getElem?_eq_none (by rw [Ji_size]; omega)]
/-- 'n' zeros, as 'make' lays them. -/
def Zn (n : Nat) : Array Value := madeCells (Value.int .i64 0).cells (n * 1)
theorem Zn_size (n : Nat) : (Zn n).size = n := by simp [Zn, size_madeCells]
theorem Zn_get (n k : Nat) (h : k < n) : (Zn n)[k]? = some (.int .i64 0) := by
  have e : k % 1 = 0 := Nat.mod_one k
  simp [Zn, madeCells, h, Value.cells, e]
theorem Ji_zero (g : Nat → Int) (N : Nat) : Zn N = Ji g N 0 := by
  apply Array.ext_getElem?
  intro k
  by_cases h : k < N
  · rw [Ji_get g N 0 k h, if_neg (by omega), Zn_get N k h]
  · rw [Array.getElem?_eq_none (by rw [Zn_size]; omega), Array.getElem?_eq_none (by rw [Ji_size]; omega)]

theorem Row_new (w : World) (g : Nat → Int) (N n : Nat) (t : TypeId) (b : Nat) (hb : b = w.heap.size) (hn : n < N) : Row (w.alloc (.cells (Ci g N) t)) b n g :=
  fun q hq => by rw [World.cell?_alloc_at _ _ _ _ hb]; exact Ci_get g N q (by omega)

theorem run_mk37 (w : World) (n : Nat) (hn : n ≤ 4194304) :
    (Instr.makeSlice 37 (.int .i64 (n : Int)) (.int .i64 (n : Int))).run Try.prog w = .ok (.slice (some ⟨w.heap.size, 0, none⟩) n n) (w.alloc (.cells (Zn n) 2)) := by
  obtain ⟨i, hi, hz0, hz1, hz2⟩ := info_parts info2
  have h := run_make (P := Try.prog) w 37 2 i (.int .i64 0) Try.underlying37 hi hz0 .i64 .i64 (n : Int) (n : Int) (by omega) (by omega) (by rw [hz2]; omega) (by omega)
  rw [hz1] at h
  simpa [Zn] using h

set_option maxHeartbeats 400000 in
theorem clone37 (b off N cap : Nat) (g : Nat → Int) (w : World) (hN : N ≤ 65536) (hc : ∀ k, k < N → w.cell? ⟨b, off + k, none⟩ = some (.int .i64 (g k))) :
    Calls Try.prog 12 #[.slice (some ⟨b, off, none⟩) N cap] w fun e w' => e = .returned (.slice (some ⟨w.heap.size, 0, none⟩) N N) ∧ w' = w.alloc (.cells (Ci g N) 2) := by
  have q37 : ∀ (w : World) (a : Option Addr) (n c n' c' : Nat), (binOp .eql 37 (.slice a n c) (.slice none n' c')).run Try.prog w = .ok (.bool a.isNone) w := fun w a n c n' c' => Lib.run_eql_slice_nil w _ _ a n c n' c' Try.underlying37
  have hmk := fun (w : World) => run_mk37 w N (by omega)
  rw [Ji_zero g N] at hmk
  have HC : Hid (∀ k, k < N → w.cell? ⟨b, off + k, none⟩ = some (.int .i64 (g k))) := hc
  clear hc
  go_enter Try.func12, Try.ntmps12
  go_wp2
  clear hmk
  go_loopw [4] (fun t wr => ∃ j : Nat, j ≤ N ∧ t = .int .i64 (j : Int) ∧ wr = w.alloc (.cells (Ji g N j) 2)) (fun t _ => N - (intOf t).toNat)
  case atStart => exact ⟨0, Nat.zero_le _, by go_num, rfl⟩
  case round =>
    obtain ⟨j, hj, rfl, rfl⟩ := hrel
    by_cases hlt : j < N
    · have hcx := HC.out j hlt
      have hbl : b < w.heap.size := World.block_lt_of_cell? w _ hcx
      have hJs := Ji_size g N j
      have hset := Ji_set g N j hlt
      go_wp2
      go_roundw
      case rel => exact ⟨j + 1, by omega, by go_num, rfl⟩
      case measure => simp [intOf]; omega
    · obtain rfl : N = j := by omega
      go_wp2
      have e := Ji_full g N
      go_ret
      exact ⟨rfl, by rw [← e]⟩

theorem run_mk26 (w : World) (n : Nat) (hn : n ≤ 4194304) :
    (Instr.makeSlice 26 (.int .i64 (n : Int)) (.int .i64 (n : Int))).run Try.prog w = .ok (.slice (some ⟨w.heap.size, 0, none⟩) n n) (w.alloc (.cells (Zn n) 3)) := by
  obtain ⟨i, hi, hz0, hz1, hz2⟩ := info_parts info3
  have h := run_make (P := Try.prog) w 26 3 i (.int .i64 0) Try.underlying26 hi hz0 .i64 .i64 (n : Int) (n : Int) (by omega) (by omega) (by rw [hz2]; omega) (by omega)
  rw [hz1] at h
  simpa [Zn] using h

set_option maxHeartbeats 400000 in
theorem clone26 (b off N cap : Nat) (g : Nat → Int) (w : World) (hN : N ≤ 65536) (hc : ∀ k, k < N → w.cell? ⟨b, off + k, none⟩ = some (.int .i64 (g k))) :
    Calls Try.prog 13 #[.slice (some ⟨b, off, none⟩) N cap] w fun e w' => e = .returned (.slice (some ⟨w.heap.size, 0, none⟩) N N) ∧ w' = w.alloc (.cells (Ci g N) 3) := by
  have q26 : ∀ (w : World) (a : Option Addr) (n c n' c' : Nat), (binOp .eql 26 (.slice a n c) (.slice none n' c')).run Try.prog w = .ok (.bool a.isNone) w := fun w a n c n' c' => Lib.run_eql_slice_nil w _ _ a n c n' c' Try.underlying26
  have hmk := fun (w : World) => run_mk26 w N (by omega)
  rw [Ji_zero g N] at hmk
  have HC : Hid (∀ k, k < N → w.cell? ⟨b, off + k, none⟩ = some (.int .i64 (g k))) := hc
  clear hc
  go_enter Try.func13, Try.ntmps13
  go_wp2
  clear hmk
  go_loopw [4] (fun t wr => ∃ j : Nat, j ≤ N ∧ t = .int .i64 (j : Int) ∧ wr = w.alloc (.cells (Ji g N j) 3)) (fun t _ => N - (intOf t).toNat)
  case atStart => exact ⟨0, Nat.zero_le _, by go_num, rfl⟩
  case round =>
    obtain ⟨j, hj, rfl, rfl⟩ := hrel
    by_cases hlt : j < N
    · have hcx := HC.out j hlt
      have hbl : b < w.heap.size := World.block_lt_of_cell? w _ hcx
      have hJs := Ji_size g N j
      have hset := Ji_set g N j hlt
      go_wp2
      go_roundw
      case rel => exact ⟨j + 1, by omega, by go_num, rfl⟩
      case measure => simp [intOf]; omega
    · obtain rfl : N = j := by omega
      go_wp2
      have e := Ji_full g N
      go_ret
      exact ⟨rfl, by rw [← e]⟩

end Go.Proofs.Qxb6619470a
