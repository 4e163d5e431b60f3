import Derived.Test.Qxb6619470aKing
namespace Go.Proofs.Qxb6619470a
open Go.RowKit

/-- The numbers of 1..k other than 'id', in increasing order. -/
def rl (id : Int) : Nat → List Int
  | 0 => []
  | k + 1 => if ((k : Int) + 1) = id then rl id k else rl id k ++ [(k : Int) + 1]

theorem rl_le (id : Int) : ∀ k, (rl id k).length ≤ k
  | 0 => Nat.le_refl _
  | k + 1 => by
    have := rl_le id k
    unfold rl
    split
    · omega
    · simp; omega

theorem info3 : (Try.prog.info? 3).map (fun i => (i.zero, i.size, i.bytes)) = some (some (.int .i64 0), 1, 8) := by kernel_rfl

theorem beq_no {a b : Int} (h : ¬ a = b) : (a == b) = false := by simpa using h
theorem bne_yes {a b : Int} (h : ¬ a = b) : (a != b) = true := by simpa using h

theorem recv_nil (id n r : Int) (w : World) (h1 : 1 ≤ r) (h2 : r ≤ 9223372036854775807) (hn : 1 ≤ n) (hn2 : n ≤ 65536) (h3 : stp r = 3) (hk : ¬ id = kg r n) :
    Calls Try.prog 9 #[.int .i64 id, .int .i64 n, .int .i64 r] w fun e w' => e = .returned (.slice none 0 0) ∧ w' = w := by
  have e3 : (stp r == 3) = true := by simp [h3]
  have ek := bne_yes hk
  clear h3 hk
  go_enter Try.func9, Try.ntmps9
  go_wp2_with fail
  refine (step_pos r _ h1 h2).mono ?_
  rintro e w' ⟨rfl, rfl⟩
  go_wp2_with fail
  refine (kingOf_any r n _ h1 h2 hn hn2).mono ?_
  rintro e w' ⟨rfl, rfl⟩
  go_wp2
  go_ret
  exact ⟨rfl, rfl⟩

theorem own_more {w wr w2 : World} {id : Int} {k : Nat} {v v' : Value} {o : Obj} (hown : wr.ownsRow w.heap.size 3 1 v (rl id k).length ((rl id k).map (Value.int .i64)))
    (hown2 : w2.ownsRow w.heap.size 3 1 v' ((rl id k).length + 1) ((rl id k).map (Value.int .i64) ++ [.int .i64 ((k : Int) + 1)])) (hg : (wr.alloc o).grownBy w2 v.ownBlock) (hb : Below w.heap.size w wr)
    (hr : rl id (k + 1) = rl id k ++ [(k : Int) + 1]) :
    w2.ownsRow w.heap.size 3 1 v' (rl id (k + 1)).length ((rl id (k + 1)).map (Value.int .i64)) ∧ Below w.heap.size w w2 := by
  refine ⟨by rw [hr]; simpa using hown2, ?_⟩
  refine (hb.alloc hb.size o).grown hg (by have := hb.size; simp; omega) (fun j hj => ?_)
  exact (hown.lt j hj).1

set_option maxHeartbeats 800000 in
theorem recv_loop (id r : Int) (n : Nat) (w : World) (h1 : 1 ≤ r) (h2 : r ≤ 9223372036854775807) (hn : 1 ≤ n) (hn2 : n ≤ 65536) (h3 : ¬ stp r = 3) :
    Calls Try.prog 9 #[.int .i64 id, .int .i64 (n : Int), .int .i64 r] w fun e w' => ∃ v, e = .returned v ∧ w'.ownsRow w.heap.size 3 1 v (rl id n).length ((rl id n).map (Value.int .i64)) ∧ Below w.heap.size w w' := by
  have e3 := beq_no h3
  clear h3
  obtain ⟨i0, hi, hz0, hz1, hz2⟩ := info_parts info3
  obtain ⟨m, hm⟩ : ∃ m : Nat, (n : Int) - 1 = (m : Int) := ⟨n - 1, by omega⟩
  have hmb : m ≤ 65536 := by omega
  go_enter Try.func9, Try.ntmps9
  go_wp2_with fail
  refine (step_pos r _ h1 h2).mono ?_
  rintro e w' ⟨rfl, rfl⟩
  go_wp2_with (at_make; refine wpList_make_own _ rfl _ _ 26 rfl w'.heap.size 3 i0 (.int .i64 0) 1 Try.underlying26 hi hz0 hz1 _ _ _ m rfl rfl (by omega) (by rw [hz2]; omega) (by unfold maxLen; omega) (Nat.le_refl _) ?_)
  intro w1 hown hgrow
  have hbel : Below w'.heap.size w' w1 := (Below.refl _ _).grown hgrow (Nat.le_refl _) (fun k hk => by cases hk)
  clear hgrow hm
  go_wp2
  go_loopw [7, 8] (fun v q wr => ∃ k : Nat, k ≤ n ∧ q = .int .i64 ((k : Int) + 1) ∧ wr.ownsRow w'.heap.size 3 1 v (rl id k).length ((rl id k).map (Value.int .i64)) ∧ Below w'.heap.size w' wr) (fun _ q _ => n + 1 - (intOf q).toNat)
  case atStart => exact ⟨0, by omega, by go_num, hown, hbel⟩
  case round =>
    obtain ⟨k, hk, rfl, hown, hbel⟩ := hrel
    have hlen := rl_le id k
    by_cases hlt : k < n
    · by_cases hid : (k : Int) + 1 = id
      · have hb : ((k : Int) + 1 != id) = false := by simp [hid]
        have Hr : Hid (rl id (k + 1) = rl id k) := by show rl id (k + 1) = _; simp [rl, hid]
        clear hid
        go_wp2
        go_roundw
        case rel => exact ⟨k + 1, by omega, by go_num, by rw [Hr.out]; exact hown, hbel⟩
        case measure => simp [intOf]; omega
      · have hb := bne_yes hid
        have Hr : Hid (rl id (k + 1) = rl id k ++ [(k : Int) + 1]) := by show rl id (k + 1) = _; simp [rl, hid]
        clear hid
        have hsz := hbel.size
        go_wp2_with (at_builtin; refine wpList_append_own _ rfl _ _ 26 rfl w'.heap.size 3 i0 (.int .i64 0) 1 8 Try.underlying26 hi hz0 hz1 hz2 rfl (by decide) _ _ _ rfl (hown.alloc _) ⟨wr.heap.size, 0, none⟩ 1 1 [.int .i64 ((k : Int) + 1)] rfl rfl ?c1 ?c2 ?c3 ?c4 ?c5 ?_)
        case c1 => exact cell_one_new _ _ _
        case c2 => intro u hu; simp at hu; subst hu; rfl
        case c3 => unfold maxLen; omega
        case c4 => omega
        case c5 => simp; omega
        intro v' w2 hown2 hgrow2 _
        have R := own_more hown hown2 hgrow2 hbel Hr.out
        clear hown hown2 hgrow2 hbel
        go_wp2
        go_roundw
        case rel => exact ⟨k + 1, by omega, by go_num, R.1, R.2⟩
        case measure => simp [intOf]; omega
    · obtain rfl : k = n := by omega
      have H : Hid (wr.ownsRow w'.heap.size 3 1 u7 (rl id k).length ((rl id k).map (Value.int .i64))) := hown
      clear hown
      go_wp2
      go_ret
      exact ⟨_, rfl, H.out, hbel⟩

set_option maxHeartbeats 800000 in
theorem recv_king (id r : Int) (n : Nat) (w : World) (h1 : 1 ≤ r) (h2 : r ≤ 9223372036854775807) (hn : 1 ≤ n) (hn2 : n ≤ 65536) (h3 : stp r = 3) (hkg : id = kg r n) :
    Calls Try.prog 9 #[.int .i64 id, .int .i64 (n : Int), .int .i64 r] w fun e w' => ∃ v, e = .returned v ∧ w'.ownsRow w.heap.size 3 1 v (rl id n).length ((rl id n).map (Value.int .i64)) ∧ Below w.heap.size w w' := by
  have e3 : (stp r == 3) = true := by simp [h3]
  have ek : (id != kg r n) = false := by simp [hkg]
  clear h3 hkg
  obtain ⟨i0, hi, hz0, hz1, hz2⟩ := info_parts info3
  obtain ⟨m, hm⟩ : ∃ m : Nat, (n : Int) - 1 = (m : Int) := ⟨n - 1, by omega⟩
  have hmb : m ≤ 65536 := by omega
  go_enter Try.func9, Try.ntmps9
  go_wp2_with fail
  refine (step_pos r _ h1 h2).mono ?_
  rintro e w' ⟨rfl, rfl⟩
  go_wp2_with fail
  refine (kingOf_any r n _ h1 h2 (by omega) (by omega)).mono ?_
  rintro e w'' ⟨rfl, rfl⟩
  go_wp2_with (at_make; refine wpList_make_own _ rfl _ _ 26 rfl w''.heap.size 3 i0 (.int .i64 0) 1 Try.underlying26 hi hz0 hz1 _ _ _ m rfl rfl (by omega) (by rw [hz2]; omega) (by unfold maxLen; omega) (Nat.le_refl _) ?_)
  intro w1 hown hgrow
  have hbel : Below w''.heap.size w'' w1 := (Below.refl _ _).grown hgrow (Nat.le_refl _) (fun k hk => by cases hk)
  clear hgrow hm
  go_wp2
  go_loopw [7, 8] (fun v q wr => ∃ k : Nat, k ≤ n ∧ q = .int .i64 ((k : Int) + 1) ∧ wr.ownsRow w''.heap.size 3 1 v (rl id k).length ((rl id k).map (Value.int .i64)) ∧ Below w''.heap.size w'' wr) (fun _ q _ => n + 1 - (intOf q).toNat)
  case atStart => exact ⟨0, by omega, by go_num, hown, hbel⟩
  case round =>
    obtain ⟨k, hk, rfl, hown, hbel⟩ := hrel
    have hlen := rl_le id k
    by_cases hlt : k < n
    · by_cases hid : (k : Int) + 1 = id
      · have hb : ((k : Int) + 1 != id) = false := by simp [hid]
        have Hr : Hid (rl id (k + 1) = rl id k) := by show rl id (k + 1) = _; simp [rl, hid]
        clear hid
        go_wp2
        go_roundw
        case rel => exact ⟨k + 1, by omega, by go_num, by rw [Hr.out]; exact hown, hbel⟩
        case measure => simp [intOf]; omega
      · have hb := bne_yes hid
        have Hr : Hid (rl id (k + 1) = rl id k ++ [(k : Int) + 1]) := by show rl id (k + 1) = _; simp [rl, hid]
        clear hid
        have hsz := hbel.size
        go_wp2_with (at_builtin; refine wpList_append_own _ rfl _ _ 26 rfl w''.heap.size 3 i0 (.int .i64 0) 1 8 Try.underlying26 hi hz0 hz1 hz2 rfl (by decide) _ _ _ rfl (hown.alloc _) ⟨wr.heap.size, 0, none⟩ 1 1 [.int .i64 ((k : Int) + 1)] rfl rfl ?c1 ?c2 ?c3 ?c4 ?c5 ?_)
        case c1 => exact cell_one_new _ _ _
        case c2 => intro u hu; simp at hu; subst hu; rfl
        case c3 => unfold maxLen; omega
        case c4 => omega
        case c5 => simp; omega
        intro v' w2 hown2 hgrow2 _
        have R := own_more hown hown2 hgrow2 hbel Hr.out
        clear hown hown2 hgrow2 hbel
        go_wp2
        go_roundw
        case rel => exact ⟨k + 1, by omega, by go_num, R.1, R.2⟩
        case measure => simp [intOf]; omega
    · obtain rfl : k = n := by omega
      have H : Hid (wr.ownsRow w''.heap.size 3 1 u7 (rl id k).length ((rl id k).map (Value.int .i64))) := hown
      clear hown
      go_wp2
      go_ret
      exact ⟨_, rfl, H.out, hbel⟩

end Go.Proofs.Qxb6619470a
