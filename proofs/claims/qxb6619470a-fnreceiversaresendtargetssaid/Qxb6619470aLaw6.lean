import Derived.Test.Qxb6619470aTargets
namespace Go.Proofs.Qxb6619470a
open Go.RowKit

theorem law6_out1 (id n r x : Int) (w : World) (h : n < 1 ∨ 65536 < n) : Calls Try.prog 3 #[.int .i64 id, .int .i64 n, .int .i64 r, .int .i64 x] w fun e w' => e = .returned (.bool true) ∧ w' = w := by
  rcases h with h | h
  · go_enter Try.func3, Try.ntmps3
    go_wp2
    go_ret
    exact ⟨rfl, rfl⟩
  · go_enter Try.func3, Try.ntmps3
    go_wp2
    go_ret
    exact ⟨rfl, rfl⟩

theorem law6_out2 (id n r x : Int) (w : World) (hn : 1 ≤ n) (hn2 : n ≤ 65536) (h : r < 1) : Calls Try.prog 3 #[.int .i64 id, .int .i64 n, .int .i64 r, .int .i64 x] w fun e w' => e = .returned (.bool true) ∧ w' = w := by
  go_enter Try.func3, Try.ntmps3
  go_wp2
  go_ret
  exact ⟨rfl, rfl⟩

theorem stp_cases (r : Int) : stp r = 1 ∨ stp r = 2 ∨ stp r = 3 := by unfold stp; omega

/-- Send, where the round before is settled and there is a value to send. -/
theorem send_case (B n : Nat) (id x r : Int) (w : World) (hP : PS w B (pcells id n 0 x true x 0 (.slice none 0 0) (.slice none 0 0) (.slice none 0 0) 0 (r - 1) (.slice none 0 0) (.slice none 0 0)))
    (h1 : 1 ≤ r) (h2 : r ≤ 9223372036854775807) (hn : 1 ≤ n) (hn2 : n ≤ 65536) (hk : stp r = 3 → id = kg r n) :
    Calls Try.prog 8 #[.pointer (some ⟨B, 0, none⟩), .int .i64 r] w fun e w' => Sent w B n id 0 true x x 0 (r - 1) r (.slice none 0 0) (.slice none 0 0) x e w' := by
  have hset := (settle_done B n id 0 x x 0 (r - 1) 0 (r - 1) true _ _ _ _ _ w hP (Int.le_refl _)).mono (R' := fun e w1 => e = .returned (.tuple #[]) ∧ ∃ vr, PS w1 B (pcells id n 0 x true x 0 (.slice none 0 0) (.slice none 0 0) vr 0 (r - 1) (.slice none 0 0) (.slice none 0 0)) ∧ Below B w w1)
    (fun e w' ⟨he, hw⟩ => ⟨he, .slice none 0 0, by rw [hw]; exact hP, by rw [hw]; exact Below.refl _ _⟩)
  rcases stp_cases r with h | h | h
  · exact send_one B n id 0 x x 0 0 (r - 1) r true _ _ w hset h1 h2 hn hn2 h
  · exact send_two B n id 0 x x 0 0 (r - 1) r _ _ w hset h1 h2 hn hn2 h
  · exact send_three B n id 0 x x 0 0 (r - 1) r true _ _ w hset h1 h2 hn hn2 h (hk h)

/-- Send in a third round of which the process is not the king. -/
theorem send_none (B n : Nat) (id x r : Int) (w : World) (hP : PS w B (pcells id n 0 x true x 0 (.slice none 0 0) (.slice none 0 0) (.slice none 0 0) 0 (r - 1) (.slice none 0 0) (.slice none 0 0)))
    (h1 : 1 ≤ r) (h2 : r ≤ 9223372036854775807) (hn : 1 ≤ n) (hn2 : n ≤ 65536) (hs : stp r = 3) (hk : ¬ id = kg r n) :
    Calls Try.prog 8 #[.pointer (some ⟨B, 0, none⟩), .int .i64 r] w fun e w' => e = .returned (.slice none 0 0) ∧ Below B w w' := by
  have hset := (settle_done B n id 0 x x 0 (r - 1) 0 (r - 1) true _ _ _ _ _ w hP (Int.le_refl _)).mono (R' := fun e w1 => e = .returned (.tuple #[]) ∧ ∃ vr, PS w1 B (pcells id n 0 x true x 0 (.slice none 0 0) (.slice none 0 0) vr 0 (r - 1) (.slice none 0 0) (.slice none 0 0)) ∧ Below B w w1)
    (fun e w' ⟨he, hw⟩ => ⟨he, .slice none 0 0, by rw [hw]; exact hP, by rw [hw]; exact Below.refl _ _⟩)
  exact (send_three_no B n id 0 x x 0 0 (r - 1) r true _ _ w hset h1 h2 hn hn2 hs hk).mono fun e w' ⟨he, _, hb⟩ => ⟨he, hb⟩

theorem recv_case (id r : Int) (n : Nat) (w : World) (h1 : 1 ≤ r) (h2 : r ≤ 9223372036854775807) (hn : 1 ≤ n) (hn2 : n ≤ 65536) (hk : stp r = 3 → id = kg r n) :
    Calls Try.prog 9 #[.int .i64 id, .int .i64 (n : Int), .int .i64 r] w fun e w' => ∃ (a : Option Addr) (cap : Nat), e = .returned (.slice a (rl id n).length cap) ∧ w'.ownsRow w.heap.size 3 1 (.slice a (rl id n).length cap) (rl id n).length ((rl id n).map (Value.int .i64)) ∧ Below w.heap.size w w' := by
  have fin : ∀ (e : Ending) (w' : World), (∃ v, e = .returned v ∧ w'.ownsRow w.heap.size 3 1 v (rl id n).length ((rl id n).map (Value.int .i64)) ∧ Below w.heap.size w w') →
      ∃ (a : Option Addr) (cap : Nat), e = .returned (.slice a (rl id n).length cap) ∧ w'.ownsRow w.heap.size 3 1 (.slice a (rl id n).length cap) (rl id n).length ((rl id n).map (Value.int .i64)) ∧ Below w.heap.size w w' := by
    rintro e w' ⟨v, rfl, h, hb⟩
    obtain ⟨a, cap, hv⟩ := ownsRow_form h
    rw [hv] at h
    exact ⟨a, cap, by rw [hv], h, hb⟩
  by_cases e : stp r = 3
  · exact (recv_king id r n w h1 h2 hn hn2 e (hk e)).mono fin
  · exact (recv_loop id r n w h1 h2 hn hn2 e).mono fin

set_option maxRecDepth 100000 in
set_option maxHeartbeats 1000000 in
theorem law6_plain (id r x : Int) (n : Nat) (w : World) (h1 : 1 ≤ r) (h2 : r ≤ 9223372036854775807) (hn : 1 ≤ n) (hn2 : n ≤ 65536) (hs : ¬ stp r = 3) :
    Calls Try.prog 3 #[.int .i64 id, .int .i64 (n : Int), .int .i64 r, .int .i64 x] w fun e w' => e = .returned (.bool true) ∧ Below w.heap.size w w' := by
  have HK : Hid (stp r = 3 → id = kg r n) := fun h => absurd h hs
  have h3 : (r % 3 != 0) = true := by unfold stp at hs; simp; omega
  clear hs
  have hP0 : PS (w.alloc (.cells (pcells id n 0 x true x 0 (.slice none 0 0) (.slice none 0 0) (.slice none 0 0) 0 (r - 1) (.slice none 0 0) (.slice none 0 0)).toArray 50)) w.heap.size (pcells id n 0 x true x 0 (.slice none 0 0) (.slice none 0 0) (.slice none 0 0) 0 (r - 1) (.slice none 0 0) (.slice none 0 0)) := PS_new w _ 50 _ rfl
  obtain ⟨wp, hwp, hbp, hbp2⟩ : ∃ wp : World, wp = w.alloc (.cells (pcells id n 0 x true x 0 (.slice none 0 0) (.slice none 0 0) (.slice none 0 0) 0 (r - 1) (.slice none 0 0) (.slice none 0 0)).toArray 50) ∧ Below w.heap.size w wp ∧ w.heap.size < wp.heap.size := ⟨_, rfl, (Below.refl _ _).alloc (Nat.le_refl _) _, by simp⟩
  rw [← hwp] at hP0
  have Hwp : Hid (wp = w.alloc (.cells (pcells id n 0 x true x 0 (.slice none 0 0) (.slice none 0 0) (.slice none 0 0) 0 (r - 1) (.slice none 0 0) (.slice none 0 0)).toArray 50)) := hwp
  have HP0 : Hid (PS wp w.heap.size (pcells id n 0 x true x 0 (.slice none 0 0) (.slice none 0 0) (.slice none 0 0) 0 (r - 1) (.slice none 0 0) (.slice none 0 0))) := hP0
  clear hwp hP0
  go_enter Try.func3, Try.ntmps3
  go_wp2_with fail
  refine (new_any id 0 x x 0 (r - 1) n true none none 0 0 0 0 _).mono ?_
  rintro e w' ⟨rfl, hw'⟩
  rw [← Hwp.out] at hw'
  subst hw'
  clear Hwp
  go_wp2_with fail
  refine (send_case w.heap.size n id x r _ HP0.out h1 h2 hn hn2 HK.out).mono ?_
  rintro e w1 ⟨a1, cap1, I, vr, rfl, hBI, hown1, hI1, _, hb1⟩
  clear HP0
  have Hown1 : Hid (w1.ownsRow (w.heap.size + 1) 31 2 (.slice a1 (rl id n).length cap1) (rl id n).length (ml (.slice (some ⟨I, 0, none⟩) 1 1) (rl id n))) := hown1
  have HI1 : Hid (PS w1 I (icells x)) := hI1
  have hB1 : Below w.heap.size w w1 := hbp.trans hb1
  clear hown1 hI1 hbp hbp2 hb1
  go_wp2_with fail
  refine (recv_case id r n _ h1 h2 hn hn2 HK.out).mono ?_
  rintro e w2 ⟨a2, cap2, rfl, hown2, hb2⟩
  have Hown2 : Hid (w2.ownsRow w1.heap.size 3 1 (.slice a2 (rl id n).length cap2) (rl id n).length ((rl id n).map (Value.int .i64))) := hown2
  have hB2 : Below w.heap.size w w2 := hB1.trans (hb2.mono hB1.size)
  clear hown2
  go_wp2
  go_loop [12, 13] (fun t q => ∃ k : Nat, k ≤ n ∧ q = .int .i64 ((k : Int) + 1) ∧ t = .int .i64 ((rl id k).length : Int)) (fun _ q => n + 1 - (intOf q).toNat)
  case atStart => exact ⟨0, by omega, by go_num, rfl⟩
  case round =>
    obtain ⟨k, hk, rfl, rfl⟩ := hrel
    have hlen := rl_le id k
    by_cases hlt : k < n
    · by_cases hid : (k : Int) + 1 = id
      · have hb' : ((k : Int) + 1 != id) = false := by simp [hid]
        have Hr : Hid ((rl id (k + 1)).length = (rl id k).length) := by show (rl id (k + 1)).length = _; simp [rl, hid]
        clear hid
        go_wp2
        go_round
        case rel => exact ⟨k + 1, by omega, by go_num, by rw [Hr.out]⟩
        case measure => simp [intOf]; omega
      · have hb' := bne_yes hid
        have Hr : Hid ((rl id (k + 1)).length = (rl id k).length + 1) := by show (rl id (k + 1)).length = _; simp [rl, hid]
        clear hid
        go_wp2
        go_round
        case rel => exact ⟨k + 1, by omega, by go_num, by rw [Hr.out]; go_num⟩
        case measure => simp [intOf]; omega
    · obtain rfl : k = n := by omega
      obtain ⟨L, hL⟩ : ∃ L, L = (rl id k).length := ⟨_, rfl⟩
      rw [← hL] at hlen Hown1 Hown2 ⊢
      have HL : Hid (L = (rl id k).length) := hL
      clear hL
      go_wp2
      go_loopw [14] (fun t wr => ∃ i : Nat, i ≤ L ∧ t = .int .i64 (i : Int) ∧ Below w2.heap.size w2 wr) (fun t _ => L - (intOf t).toNat)
      case atStart => exact ⟨0, by omega, by go_num, Below.refl _ _⟩
      case round =>
        obtain ⟨i, hi, rfl, hbr⟩ := hrel
        by_cases hiL : i < L
        · obtain ⟨g1, rfl, hg1, hg1', hc1⟩ := own_cell Hown1.out (by omega)
          obtain ⟨g2, rfl, hg2, hg2', hc2⟩ := own_cell Hown2.out (by omega)
          obtain ⟨q, hq⟩ : ∃ q, (rl id k)[i]? = some q := ⟨_, List.getElem?_eq_getElem (by rw [← HL.out]; exact hiL)⟩
          obtain ⟨hq1, hq2, hq3⟩ := rl_mem id k i q hq
          have hq4 : (q == id) = false := beq_no hq3
          have hs12 : w1.heap.size ≤ w2.heap.size := hb2.size
          obtain ⟨hm1, hm2⟩ := ml_get (.slice (some ⟨I, 0, none⟩) 1 1) _ i q hq
          have d2 : wr.cell? ⟨g2, i, none⟩ = some (.int .i64 q) := (hbr.cell (by exact hg2')).trans (hc2 i _ (by simp [hq]))
          have m1 : wr.cell? ⟨g1, i * 2, none⟩ = some (.int .i64 q) := (hbr.cell (by exact Nat.lt_of_lt_of_le hg1' hs12)).trans ((hb2.cell (by exact hg1')).trans (hc1 _ _ hm1))
          have m2 : wr.cell? ⟨g1, i * 2 + 1, none⟩ = some (.slice (some ⟨I, 0, none⟩) 1 1) := (hbr.cell (by exact Nat.lt_of_lt_of_le hg1' hs12)).trans ((hb2.cell (by exact hg1')).trans (hc1 _ _ hm2))
          have hI1 := World.block_lt_of_cell? w1 _ (HI1.out 0 _ rfl).1
          have hIr : PS wr I (icells x) := PS_below (PS_below HI1.out hb2 hI1) hbr (Nat.lt_of_lt_of_le hI1 hs12)
          obtain ⟨i1, _⟩ := hIr 0 _ rfl
          obtain ⟨i2, _⟩ := hIr 1 _ rfl
          obtain ⟨i3, _⟩ := hIr 2 _ rfl
          have hIl : I < wr.heap.size := World.block_lt_of_cell? wr _ i1
          have hg1l : g1 < wr.heap.size := World.block_lt_of_cell? wr _ m1
          have hg2l : g2 < wr.heap.size := World.block_lt_of_cell? wr _ d2
          clear hIr hm1 hm2 hq3
          cases i with
          | zero =>
            clear hc1 hc2 hq
            go_wp2
            go_quiet (fail)
            obtain ⟨wx, hwx, hbx, d2, m1, m2, i1, i2, i3, hIl, hg1l, hg2l⟩ : ∃ wx : World, wx = wr.drewN nq ∧ Below w2.heap.size w2 wx ∧ wx.cell? ⟨g2, 0, none⟩ = some (.int .i64 q) ∧ wx.cell? ⟨g1, 0 * 2, none⟩ = some (.int .i64 q) ∧ wx.cell? ⟨g1, 0 * 2 + 1, none⟩ = some (.slice (some ⟨I, 0, none⟩) 1 1) ∧
              wx.cell? ⟨I, 0, none⟩ = some (.int .i64 x) ∧ wx.cell? ⟨I, 1, none⟩ = some (.int .i64 0) ∧ wx.cell? ⟨I, 2, none⟩ = some (.pointer none) ∧ I < wx.heap.size ∧ g1 < wx.heap.size ∧ g2 < wx.heap.size := ⟨_, rfl, bel_drewN hbr _, ‹_›, ‹_›, ‹_›, ‹_›, ‹_›, ‹_›, hIl, hg1l, hg2l⟩
            rw [← hwx]
            clear hwx
            go_wp2
            obtain ⟨wy, hwy, hby, n1, n2, d2, i1, i2, i3⟩ : ∃ wy : World, wy = wx.alloc (.cells #[.int .i64 q, .slice (some ⟨I, 0, none⟩) 1 1] 31) ∧ Below w2.heap.size w2 wy ∧ wy.cell? ⟨wx.heap.size, 0, none⟩ = some (.int .i64 q) ∧ wy.cell? ⟨wx.heap.size, 1, none⟩ = some (.slice (some ⟨I, 0, none⟩) 1 1) ∧ wy.cell? ⟨g2, 0, none⟩ = some (.int .i64 q) ∧
              wy.cell? ⟨I, 0, none⟩ = some (.int .i64 x) ∧ wy.cell? ⟨I, 1, none⟩ = some (.int .i64 0) ∧ wy.cell? ⟨I, 2, none⟩ = some (.pointer none) :=
              ⟨_, rfl, hbx.alloc hbx.size _, by rw [World.cell?_alloc_at _ _ _ _ rfl]; rfl, by rw [World.cell?_alloc_at _ _ _ _ rfl]; rfl, by rw [World.cell?_alloc_past _ _ _ hg2l]; exact d2, by rw [World.cell?_alloc_past _ _ _ hIl]; exact i1, by rw [World.cell?_alloc_past _ _ _ hIl]; exact i2, by rw [World.cell?_alloc_past _ _ _ hIl]; exact i3⟩
            rw [← hwy]
            clear hwy
            go_quiet (fail)
            go_wp2
            go_roundw
            case rel => exact ⟨0 + 1, by omega, by go_num, bel_drewN hby _⟩
            case measure => simp [intOf]; omega
          | succ j =>
            obtain ⟨p, hp⟩ : ∃ p, (rl id k)[j]? = some p := ⟨_, List.getElem?_eq_getElem (by rw [← HL.out]; omega)⟩
            have hpq : p < q := rl_incr id k j p q hp hq
            have d1 : wr.cell? ⟨g2, j, none⟩ = some (.int .i64 p) := (hbr.cell (by exact hg2')).trans (hc2 j _ (by simp [hp]))
            clear hc1 hc2 hq hp
            go_wp2
            go_quiet (fail)
            obtain ⟨wx, hwx, hbx, d2, m1, m2, i1, i2, i3, hIl, hg1l, hg2l⟩ : ∃ wx : World, wx = wr.drewN nq ∧ Below w2.heap.size w2 wx ∧ wx.cell? ⟨g2, j + 1, none⟩ = some (.int .i64 q) ∧ wx.cell? ⟨g1, (j + 1) * 2, none⟩ = some (.int .i64 q) ∧ wx.cell? ⟨g1, (j + 1) * 2 + 1, none⟩ = some (.slice (some ⟨I, 0, none⟩) 1 1) ∧
              wx.cell? ⟨I, 0, none⟩ = some (.int .i64 x) ∧ wx.cell? ⟨I, 1, none⟩ = some (.int .i64 0) ∧ wx.cell? ⟨I, 2, none⟩ = some (.pointer none) ∧ I < wx.heap.size ∧ g1 < wx.heap.size ∧ g2 < wx.heap.size := ⟨_, rfl, bel_drewN hbr _, ‹_›, ‹_›, ‹_›, ‹_›, ‹_›, ‹_›, hIl, hg1l, hg2l⟩
            rw [← hwx]
            clear hwx
            go_wp2
            obtain ⟨wy, hwy, hby, n1, n2, d2, i1, i2, i3⟩ : ∃ wy : World, wy = wx.alloc (.cells #[.int .i64 q, .slice (some ⟨I, 0, none⟩) 1 1] 31) ∧ Below w2.heap.size w2 wy ∧ wy.cell? ⟨wx.heap.size, 0, none⟩ = some (.int .i64 q) ∧ wy.cell? ⟨wx.heap.size, 1, none⟩ = some (.slice (some ⟨I, 0, none⟩) 1 1) ∧ wy.cell? ⟨g2, j + 1, none⟩ = some (.int .i64 q) ∧
              wy.cell? ⟨I, 0, none⟩ = some (.int .i64 x) ∧ wy.cell? ⟨I, 1, none⟩ = some (.int .i64 0) ∧ wy.cell? ⟨I, 2, none⟩ = some (.pointer none) :=
              ⟨_, rfl, hbx.alloc hbx.size _, by rw [World.cell?_alloc_at _ _ _ _ rfl]; rfl, by rw [World.cell?_alloc_at _ _ _ _ rfl]; rfl, by rw [World.cell?_alloc_past _ _ _ hg2l]; exact d2, by rw [World.cell?_alloc_past _ _ _ hIl]; exact i1, by rw [World.cell?_alloc_past _ _ _ hIl]; exact i2, by rw [World.cell?_alloc_past _ _ _ hIl]; exact i3⟩
            rw [← hwy]
            clear hwy
            go_quiet (fail)
            go_wp2
            go_roundw
            case rel => exact ⟨j + 1 + 1, by omega, by go_num, bel_drewN hby _⟩
            case measure => simp [intOf]; omega
        · obtain rfl : i = L := by omega
          go_wp2
          go_ret
          exact ⟨rfl, hB2.trans (hbr.mono hB2.size)⟩

set_option maxRecDepth 100000 in
set_option maxHeartbeats 1000000 in
theorem law6_king (id r x : Int) (n : Nat) (w : World) (h1 : 1 ≤ r) (h2 : r ≤ 9223372036854775807) (hn : 1 ≤ n) (hn2 : n ≤ 65536) (hs : stp r = 3) (hkg : id = kg r n) :
    Calls Try.prog 3 #[.int .i64 id, .int .i64 (n : Int), .int .i64 r, .int .i64 x] w fun e w' => e = .returned (.bool true) ∧ Below w.heap.size w w' := by
  have HK : Hid (stp r = 3 → id = kg r n) := fun _ => hkg
  have h3 : (r % 3 != 0) = false := by unfold stp at hs; simp; omega
  have h33 : 3 ≤ r := by unfold stp at hs; omega
  have Hs : Hid (stp r = 3) := hs
  have ek : (id == kg r n) = true := by simp [hkg]
  clear hs hkg
  have hP0 : PS (w.alloc (.cells (pcells id n 0 x true x 0 (.slice none 0 0) (.slice none 0 0) (.slice none 0 0) 0 (r - 1) (.slice none 0 0) (.slice none 0 0)).toArray 50)) w.heap.size (pcells id n 0 x true x 0 (.slice none 0 0) (.slice none 0 0) (.slice none 0 0) 0 (r - 1) (.slice none 0 0) (.slice none 0 0)) := PS_new w _ 50 _ rfl
  obtain ⟨wp, hwp, hbp, hbp2⟩ : ∃ wp : World, wp = w.alloc (.cells (pcells id n 0 x true x 0 (.slice none 0 0) (.slice none 0 0) (.slice none 0 0) 0 (r - 1) (.slice none 0 0) (.slice none 0 0)).toArray 50) ∧ Below w.heap.size w wp ∧ w.heap.size < wp.heap.size := ⟨_, rfl, (Below.refl _ _).alloc (Nat.le_refl _) _, by simp⟩
  rw [← hwp] at hP0
  have Hwp : Hid (wp = w.alloc (.cells (pcells id n 0 x true x 0 (.slice none 0 0) (.slice none 0 0) (.slice none 0 0) 0 (r - 1) (.slice none 0 0) (.slice none 0 0)).toArray 50)) := hwp
  have HP0 : Hid (PS wp w.heap.size (pcells id n 0 x true x 0 (.slice none 0 0) (.slice none 0 0) (.slice none 0 0) 0 (r - 1) (.slice none 0 0) (.slice none 0 0))) := hP0
  clear hwp hP0
  go_enter Try.func3, Try.ntmps3
  go_wp2_with fail
  refine (new_any id 0 x x 0 (r - 1) n true none none 0 0 0 0 _).mono ?_
  rintro e w' ⟨rfl, hw'⟩
  rw [← Hwp.out] at hw'
  subst hw'
  clear Hwp
  go_wp2_with fail
  refine (send_case w.heap.size n id x r _ HP0.out h1 h2 hn hn2 HK.out).mono ?_
  rintro e w1 ⟨a1, cap1, I, vr, rfl, hBI, hown1, hI1, _, hb1⟩
  clear HP0
  have Hown1 : Hid (w1.ownsRow (w.heap.size + 1) 31 2 (.slice a1 (rl id n).length cap1) (rl id n).length (ml (.slice (some ⟨I, 0, none⟩) 1 1) (rl id n))) := hown1
  have HI1 : Hid (PS w1 I (icells x)) := hI1
  have hB1 : Below w.heap.size w w1 := hbp.trans hb1
  clear hown1 hI1 hbp hbp2 hb1
  go_wp2_with fail
  refine (recv_case id r n _ h1 h2 hn hn2 HK.out).mono ?_
  rintro e w2 ⟨a2, cap2, rfl, hown2, hb2⟩
  have Hown2 : Hid (w2.ownsRow w1.heap.size 3 1 (.slice a2 (rl id n).length cap2) (rl id n).length ((rl id n).map (Value.int .i64))) := hown2
  have hB2 : Below w.heap.size w w2 := hB1.trans (hb2.mono hB1.size)
  clear hown2
  go_wp2_with fail
  refine (third_any r n _ h33 h2 Hs.out (by omega) (by omega)).mono ?_
  rintro e w' ⟨rfl, hw⟩
  subst w'
  go_wp2
  go_loop [12, 13] (fun t q => ∃ k : Nat, k ≤ n ∧ q = .int .i64 ((k : Int) + 1) ∧ t = .int .i64 ((rl id k).length : Int)) (fun _ q => n + 1 - (intOf q).toNat)
  case atStart => exact ⟨0, by omega, by go_num, rfl⟩
  case round =>
    obtain ⟨k, hk, rfl, rfl⟩ := hrel
    have hlen := rl_le id k
    by_cases hlt : k < n
    · by_cases hid : (k : Int) + 1 = id
      · have hb' : ((k : Int) + 1 != id) = false := by simp [hid]
        have Hr : Hid ((rl id (k + 1)).length = (rl id k).length) := by show (rl id (k + 1)).length = _; simp [rl, hid]
        clear hid
        go_wp2
        go_round
        case rel => exact ⟨k + 1, by omega, by go_num, by rw [Hr.out]⟩
        case measure => simp [intOf]; omega
      · have hb' := bne_yes hid
        have Hr : Hid ((rl id (k + 1)).length = (rl id k).length + 1) := by show (rl id (k + 1)).length = _; simp [rl, hid]
        clear hid
        go_wp2
        go_round
        case rel => exact ⟨k + 1, by omega, by go_num, by rw [Hr.out]; go_num⟩
        case measure => simp [intOf]; omega
    · obtain rfl : k = n := by omega
      obtain ⟨L, hL⟩ : ∃ L, L = (rl id k).length := ⟨_, rfl⟩
      rw [← hL] at hlen Hown1 Hown2 ⊢
      have HL : Hid (L = (rl id k).length) := hL
      clear hL
      go_wp2
      go_loopw [14] (fun t wr => ∃ i : Nat, i ≤ L ∧ t = .int .i64 (i : Int) ∧ Below w2.heap.size w2 wr) (fun t _ => L - (intOf t).toNat)
      case atStart => exact ⟨0, by omega, by go_num, Below.refl _ _⟩
      case round =>
        obtain ⟨i, hi, rfl, hbr⟩ := hrel
        by_cases hiL : i < L
        · obtain ⟨g1, rfl, hg1, hg1', hc1⟩ := own_cell Hown1.out (by omega)
          obtain ⟨g2, rfl, hg2, hg2', hc2⟩ := own_cell Hown2.out (by omega)
          obtain ⟨q, hq⟩ : ∃ q, (rl id k)[i]? = some q := ⟨_, List.getElem?_eq_getElem (by rw [← HL.out]; exact hiL)⟩
          obtain ⟨hq1, hq2, hq3⟩ := rl_mem id k i q hq
          have hq4 : (q == id) = false := beq_no hq3
          have hs12 : w1.heap.size ≤ w2.heap.size := hb2.size
          obtain ⟨hm1, hm2⟩ := ml_get (.slice (some ⟨I, 0, none⟩) 1 1) _ i q hq
          have d2 : wr.cell? ⟨g2, i, none⟩ = some (.int .i64 q) := (hbr.cell (by exact hg2')).trans (hc2 i _ (by simp [hq]))
          have m1 : wr.cell? ⟨g1, i * 2, none⟩ = some (.int .i64 q) := (hbr.cell (by exact Nat.lt_of_lt_of_le hg1' hs12)).trans ((hb2.cell (by exact hg1')).trans (hc1 _ _ hm1))
          have m2 : wr.cell? ⟨g1, i * 2 + 1, none⟩ = some (.slice (some ⟨I, 0, none⟩) 1 1) := (hbr.cell (by exact Nat.lt_of_lt_of_le hg1' hs12)).trans ((hb2.cell (by exact hg1')).trans (hc1 _ _ hm2))
          have hI1 := World.block_lt_of_cell? w1 _ (HI1.out 0 _ rfl).1
          have hIr : PS wr I (icells x) := PS_below (PS_below HI1.out hb2 hI1) hbr (Nat.lt_of_lt_of_le hI1 hs12)
          obtain ⟨i1, _⟩ := hIr 0 _ rfl
          obtain ⟨i2, _⟩ := hIr 1 _ rfl
          obtain ⟨i3, _⟩ := hIr 2 _ rfl
          have hIl : I < wr.heap.size := World.block_lt_of_cell? wr _ i1
          have hg1l : g1 < wr.heap.size := World.block_lt_of_cell? wr _ m1
          have hg2l : g2 < wr.heap.size := World.block_lt_of_cell? wr _ d2
          clear hIr hm1 hm2 hq3
          cases i with
          | zero =>
            clear hc1 hc2 hq
            go_wp2
            go_quiet (fail)
            obtain ⟨wx, hwx, hbx, d2, m1, m2, i1, i2, i3, hIl, hg1l, hg2l⟩ : ∃ wx : World, wx = wr.drewN nq ∧ Below w2.heap.size w2 wx ∧ wx.cell? ⟨g2, 0, none⟩ = some (.int .i64 q) ∧ wx.cell? ⟨g1, 0 * 2, none⟩ = some (.int .i64 q) ∧ wx.cell? ⟨g1, 0 * 2 + 1, none⟩ = some (.slice (some ⟨I, 0, none⟩) 1 1) ∧
              wx.cell? ⟨I, 0, none⟩ = some (.int .i64 x) ∧ wx.cell? ⟨I, 1, none⟩ = some (.int .i64 0) ∧ wx.cell? ⟨I, 2, none⟩ = some (.pointer none) ∧ I < wx.heap.size ∧ g1 < wx.heap.size ∧ g2 < wx.heap.size := ⟨_, rfl, bel_drewN hbr _, ‹_›, ‹_›, ‹_›, ‹_›, ‹_›, ‹_›, hIl, hg1l, hg2l⟩
            rw [← hwx]
            clear hwx
            go_wp2
            obtain ⟨wy, hwy, hby, n1, n2, d2, i1, i2, i3⟩ : ∃ wy : World, wy = wx.alloc (.cells #[.int .i64 q, .slice (some ⟨I, 0, none⟩) 1 1] 31) ∧ Below w2.heap.size w2 wy ∧ wy.cell? ⟨wx.heap.size, 0, none⟩ = some (.int .i64 q) ∧ wy.cell? ⟨wx.heap.size, 1, none⟩ = some (.slice (some ⟨I, 0, none⟩) 1 1) ∧ wy.cell? ⟨g2, 0, none⟩ = some (.int .i64 q) ∧
              wy.cell? ⟨I, 0, none⟩ = some (.int .i64 x) ∧ wy.cell? ⟨I, 1, none⟩ = some (.int .i64 0) ∧ wy.cell? ⟨I, 2, none⟩ = some (.pointer none) :=
              ⟨_, rfl, hbx.alloc hbx.size _, by rw [World.cell?_alloc_at _ _ _ _ rfl]; rfl, by rw [World.cell?_alloc_at _ _ _ _ rfl]; rfl, by rw [World.cell?_alloc_past _ _ _ hg2l]; exact d2, by rw [World.cell?_alloc_past _ _ _ hIl]; exact i1, by rw [World.cell?_alloc_past _ _ _ hIl]; exact i2, by rw [World.cell?_alloc_past _ _ _ hIl]; exact i3⟩
            rw [← hwy]
            clear hwy
            go_quiet (fail)
            go_wp2
            go_roundw
            case rel => exact ⟨0 + 1, by omega, by go_num, bel_drewN hby _⟩
            case measure => simp [intOf]; omega
          | succ j =>
            obtain ⟨p, hp⟩ : ∃ p, (rl id k)[j]? = some p := ⟨_, List.getElem?_eq_getElem (by rw [← HL.out]; omega)⟩
            have hpq : p < q := rl_incr id k j p q hp hq
            have d1 : wr.cell? ⟨g2, j, none⟩ = some (.int .i64 p) := (hbr.cell (by exact hg2')).trans (hc2 j _ (by simp [hp]))
            clear hc1 hc2 hq hp
            go_wp2
            go_quiet (fail)
            obtain ⟨wx, hwx, hbx, d2, m1, m2, i1, i2, i3, hIl, hg1l, hg2l⟩ : ∃ wx : World, wx = wr.drewN nq ∧ Below w2.heap.size w2 wx ∧ wx.cell? ⟨g2, j + 1, none⟩ = some (.int .i64 q) ∧ wx.cell? ⟨g1, (j + 1) * 2, none⟩ = some (.int .i64 q) ∧ wx.cell? ⟨g1, (j + 1) * 2 + 1, none⟩ = some (.slice (some ⟨I, 0, none⟩) 1 1) ∧
              wx.cell? ⟨I, 0, none⟩ = some (.int .i64 x) ∧ wx.cell? ⟨I, 1, none⟩ = some (.int .i64 0) ∧ wx.cell? ⟨I, 2, none⟩ = some (.pointer none) ∧ I < wx.heap.size ∧ g1 < wx.heap.size ∧ g2 < wx.heap.size := ⟨_, rfl, bel_drewN hbr _, ‹_›, ‹_›, ‹_›, ‹_›, ‹_›, ‹_›, hIl, hg1l, hg2l⟩
            rw [← hwx]
            clear hwx
            go_wp2
            obtain ⟨wy, hwy, hby, n1, n2, d2, i1, i2, i3⟩ : ∃ wy : World, wy = wx.alloc (.cells #[.int .i64 q, .slice (some ⟨I, 0, none⟩) 1 1] 31) ∧ Below w2.heap.size w2 wy ∧ wy.cell? ⟨wx.heap.size, 0, none⟩ = some (.int .i64 q) ∧ wy.cell? ⟨wx.heap.size, 1, none⟩ = some (.slice (some ⟨I, 0, none⟩) 1 1) ∧ wy.cell? ⟨g2, j + 1, none⟩ = some (.int .i64 q) ∧
              wy.cell? ⟨I, 0, none⟩ = some (.int .i64 x) ∧ wy.cell? ⟨I, 1, none⟩ = some (.int .i64 0) ∧ wy.cell? ⟨I, 2, none⟩ = some (.pointer none) :=
              ⟨_, rfl, hbx.alloc hbx.size _, by rw [World.cell?_alloc_at _ _ _ _ rfl]; rfl, by rw [World.cell?_alloc_at _ _ _ _ rfl]; rfl, by rw [World.cell?_alloc_past _ _ _ hg2l]; exact d2, by rw [World.cell?_alloc_past _ _ _ hIl]; exact i1, by rw [World.cell?_alloc_past _ _ _ hIl]; exact i2, by rw [World.cell?_alloc_past _ _ _ hIl]; exact i3⟩
            rw [← hwy]
            clear hwy
            go_quiet (fail)
            go_wp2
            go_roundw
            case rel => exact ⟨j + 1 + 1, by omega, by go_num, bel_drewN hby _⟩
            case measure => simp [intOf]; omega
        · obtain rfl : i = L := by omega
          go_wp2
          go_ret
          exact ⟨rfl, hB2.trans (hbr.mono hB2.size)⟩

set_option maxHeartbeats 400000 in
theorem law6_none (id r x : Int) (n : Nat) (w : World) (h1 : 1 ≤ r) (h2 : r ≤ 9223372036854775807) (hn : 1 ≤ n) (hn2 : n ≤ 65536) (hs : stp r = 3) (hkg : ¬ id = kg r n) :
    Calls Try.prog 3 #[.int .i64 id, .int .i64 (n : Int), .int .i64 r, .int .i64 x] w fun e w' => e = .returned (.bool true) ∧ Below w.heap.size w w' := by
  have h3 : (r % 3 != 0) = false := by unfold stp at hs; simp; omega
  have h33 : 3 ≤ r := by unfold stp at hs; omega
  have Hs : Hid (stp r = 3) := hs
  have ek : (id == kg r n) = false := beq_no hkg
  have Hk : Hid (¬ id = kg r n) := hkg
  clear hs hkg
  have hP0 : PS (w.alloc (.cells (pcells id n 0 x true x 0 (.slice none 0 0) (.slice none 0 0) (.slice none 0 0) 0 (r - 1) (.slice none 0 0) (.slice none 0 0)).toArray 50)) w.heap.size (pcells id n 0 x true x 0 (.slice none 0 0) (.slice none 0 0) (.slice none 0 0) 0 (r - 1) (.slice none 0 0) (.slice none 0 0)) := PS_new w _ 50 _ rfl
  obtain ⟨wp, hwp, hbp, hbp2⟩ : ∃ wp : World, wp = w.alloc (.cells (pcells id n 0 x true x 0 (.slice none 0 0) (.slice none 0 0) (.slice none 0 0) 0 (r - 1) (.slice none 0 0) (.slice none 0 0)).toArray 50) ∧ Below w.heap.size w wp ∧ w.heap.size < wp.heap.size := ⟨_, rfl, (Below.refl _ _).alloc (Nat.le_refl _) _, by simp⟩
  rw [← hwp] at hP0
  have Hwp : Hid (wp = w.alloc (.cells (pcells id n 0 x true x 0 (.slice none 0 0) (.slice none 0 0) (.slice none 0 0) 0 (r - 1) (.slice none 0 0) (.slice none 0 0)).toArray 50)) := hwp
  have HP0 : Hid (PS wp w.heap.size (pcells id n 0 x true x 0 (.slice none 0 0) (.slice none 0 0) (.slice none 0 0) 0 (r - 1) (.slice none 0 0) (.slice none 0 0))) := hP0
  clear hwp hP0
  go_enter Try.func3, Try.ntmps3
  go_wp2_with fail
  refine (new_any id 0 x x 0 (r - 1) n true none none 0 0 0 0 _).mono ?_
  rintro e w' ⟨rfl, hw'⟩
  rw [← Hwp.out] at hw'
  subst hw'
  clear Hwp
  go_wp2_with fail
  refine (send_none w.heap.size n id x r _ HP0.out h1 h2 hn hn2 Hs.out Hk.out).mono ?_
  rintro e w1 ⟨rfl, hb1⟩
  have hB1 : Below w.heap.size w w1 := hbp.trans hb1
  clear HP0 hbp hbp2 hb1
  go_wp2_with fail
  refine (recv_nil id n r _ h1 h2 (by omega) (by omega) Hs.out Hk.out).mono ?_
  rintro e w2 ⟨rfl, hw⟩
  subst w2
  go_wp2_with fail
  refine (third_any r n _ h33 h2 Hs.out (by omega) (by omega)).mono ?_
  rintro e w2 ⟨rfl, hw⟩
  subst w2
  go_wp2
  refine wp_loop_rounds 1 ?_
  rw [rounds_succ]
  go_wp2
  go_ret
  exact ⟨rfl, hB1⟩

end Go.Proofs.Qxb6619470a
