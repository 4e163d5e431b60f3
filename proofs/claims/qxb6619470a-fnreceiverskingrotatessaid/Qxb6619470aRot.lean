import Derived.Test.Qxb6619470aRecv
import Derived.Test.Qxb6619470aRotPlain
namespace Go.Proofs.Qxb6619470a
open Go.RowKit
open Go.Proofs.Qxb6619470a.Rot

theorem rl_len (id : Int) : ∀ k : Nat, (rl id k).length = if 1 ≤ id ∧ id ≤ k then k - 1 else k
  | 0 => by
    have : ¬ (1 ≤ id ∧ id ≤ ((0 : Nat) : Int)) := by omega
    rw [if_neg this]; rfl
  | k + 1 => by
    have ih := rl_len id k
    unfold rl
    by_cases h : (k : Int) + 1 = id
    · rw [if_pos h, ih, if_neg (by omega), if_pos (by omega)]; omega
    · rw [if_neg h, List.length_append, ih]
      by_cases h2 : 1 ≤ id ∧ id ≤ k
      · rw [if_pos h2, if_pos (by omega)]; simp; omega
      · rw [if_neg h2, if_neg (by omega)]; simp

theorem kg_third (ph j n : Nat) (hp : 1 ≤ ph) : kg (3 * ((ph : Int) + (j : Int))) n = ((kj ph n j : Nat) : Int) := by
  unfold kg kj
  have e : (3 * ((ph : Int) + (j : Int)) - 1) / 3 = ((ph + j - 1 : Nat) : Int) := by omega
  rw [e]
  omega

/-- Receivers of a process that sends: n - 1 of them. -/
theorem recv_len (q n m : Nat) (r : Int) (w : World) (h1 : 1 ≤ r) (h2 : r ≤ 9223372036854775807) (hn : 2 ≤ n) (hn2 : n ≤ 65536) (hq1 : 1 ≤ q) (hq2 : q ≤ n) (hm : n = m + 1) (h3 : stp r = 3 → (q : Int) = kg r n) :
    Calls Try.prog 9 #[.int .i64 (q : Int), .int .i64 (n : Int), .int .i64 r] w fun e w' => ∃ g cap, e = .returned (.slice (some ⟨g, 0, none⟩) m cap) ∧ Below w.heap.size w w' := by
  have hl : (rl (q : Int) n).length = m := by rw [rl_len, if_pos (by omega)]; omega
  have fin : ∀ (e : Ending) (w' : World), (∃ v, e = .returned v ∧ w'.ownsRow w.heap.size 3 1 v (rl q n).length ((rl q n).map (Value.int .i64)) ∧ Below w.heap.size w w') →
      ∃ g cap, e = .returned (.slice (some ⟨g, 0, none⟩) m cap) ∧ Below w.heap.size w w' := by
    rintro e w' ⟨v, rfl, ⟨_, h | ⟨g, cap, cur, hv, _⟩⟩, hb⟩
    · omega
    · exact ⟨g, cap, by rw [hv, hl], hb⟩
  by_cases e : stp r = 3
  · exact (recv_king q r n w h1 h2 (by omega) hn2 e (h3 e)).mono fin
  · exact (recv_loop q r n w h1 h2 (by omega) hn2 e).mono fin

/-- Block 'B' is the call's own row of counts. -/
def Tk (w : World) (B n : Nat) (t : Nat → Nat) : Prop :=
  B < w.heap.size ∧ ∀ k, k ≤ n → w.cell? ⟨B, k, none⟩ = some (.int .i64 (t k : Int)) ∧ w.frozen? ⟨B, k, none⟩ = false

theorem Tk_below {w w' : World} {B n : Nat} {t : Nat → Nat} (h : Tk w B n t) (hb : Below w.heap.size w w') : Tk w' B n t :=
  ⟨Nat.lt_of_lt_of_le h.1 hb.size, fun k hk => ⟨(hb.cell (by exact h.1)).trans (h.2 k hk).1, (hb.frozen (by exact h.1)).trans (h.2 k hk).2⟩⟩

theorem Tk_congr {w : World} {B n : Nat} {t t' : Nat → Nat} (h : Tk w B n t) (he : ∀ k, k ≤ n → t k = t' k) : Tk w B n t' :=
  ⟨h.1, fun k hk => by rw [← he k hk]; exact h.2 k hk⟩

theorem Tk_set {w : World} {B n q : Nat} {t : Nat → Nat} (h : Tk w B n t) (hq : q ≤ n) (v : Nat) :
    Tk (w.setCell ⟨B, q, none⟩ (.int .i64 (v : Int))) B n (fun k => if k = q then v else t k) := by
  refine ⟨by simpa [World.setCell] using h.1, fun k hk => ⟨?_, ?_⟩⟩
  · by_cases e : k = q
    · subst e; simp only [if_true]; exact World.cell?_setCell_same _ _ _ (h.2 k hk).1
    · rw [World.cell?_setCell_other _ _ _ _ (by simp only [ne_eq, Addr.mk.injEq]; exact fun h => e h.2.1.symm)]; simp only [e, if_false]; exact (h.2 k hk).1
  · rw [World.frozen?_setCell]; exact (h.2 k hk).2

theorem Tk_made (w : World) (n : Nat) (C : Array Value) (hC : ∀ k, k ≤ n → C[k]? = some (.int .i64 0)) : Tk (w.alloc (.cells C 3)) w.heap.size n (fun _ => 0) :=
  ⟨by simp, fun k hk => ⟨by rw [World.cell?_alloc_at _ _ _ _ rfl]; exact hC k hk, World.frozen?_alloc_at _ _ _ _ rfl⟩⟩

/-- 'n + 1' zeros, as 'make' lays them. -/
def Zi (n : Nat) : Array Value := madeCells (Value.int .i64 0).cells (n * 1)
theorem Zi_get (n k : Nat) (h : k < n) : (Zi n)[k]? = some (.int .i64 0) := by
  have e : k % 1 = 0 := Nat.mod_one k
  simp [Zi, madeCells, h, Value.cells, e]
theorem run_mki (w : World) (n : Nat) (hn : n ≤ 4194304) :
    (Instr.makeSlice 26 (.int .i64 (n : Int)) (.int .i64 (n : Int))).run Try.prog w = .ok (.slice (some ⟨w.heap.size, 0, none⟩) n n) (w.alloc (.cells (Zi n) 3)) := by
  obtain ⟨i, hi, hz0, hz1, hz2⟩ := info_parts info3
  have h := run_make (P := Try.prog) w 26 3 i (.int .i64 0) Try.underlying26 hi hz0 .i64 .i64 (n : Int) (n : Int) (by omega) (by omega) (by rw [hz2]; omega) (by omega)
  rw [hz1] at h
  simpa [Zi] using h

theorem law5_out1 (n ph : Int) (w : World) (h : n < 2 ∨ 1024 < n) : Calls Try.prog 4 #[.int .i64 n, .int .i64 ph] w fun e w' => e = .returned (.bool true) ∧ w' = w := by
  rcases h with h | h
  · go_enter Try.func4, Try.ntmps4
    go_wp2
    go_ret
    exact ⟨rfl, rfl⟩
  · go_enter Try.func4, Try.ntmps4
    go_wp2
    go_ret
    exact ⟨rfl, rfl⟩

theorem law5_out2 (n ph : Int) (w : World) (hn : 2 ≤ n) (hn2 : n ≤ 1024) (h : ph < 1 ∨ 3074457345618258602 - n < ph) : Calls Try.prog 4 #[.int .i64 n, .int .i64 ph] w fun e w' => e = .returned (.bool true) ∧ w' = w := by
  rcases h with h | h
  · go_enter Try.func4, Try.ntmps4
    go_wp2
    go_ret
    exact ⟨rfl, rfl⟩
  · go_enter Try.func4, Try.ntmps4
    go_wp2
    go_ret
    exact ⟨rfl, rfl⟩

set_option maxHeartbeats 1000000 in
theorem law5_in (n ph : Nat) (w : World) (hn : 2 ≤ n) (hn2 : n ≤ 1024) (hp : 1 ≤ ph) (hp2 : (ph : Int) ≤ 3074457345618258602 - n) :
    Calls Try.prog 4 #[.int .i64 (n : Int), .int .i64 (ph : Int)] w fun e w' => e = .returned (.bool true) ∧ Below w.heap.size w w' := by
  obtain ⟨m, hm⟩ : ∃ m, n = m + 1 := ⟨n - 1, by omega⟩
  have Hm : Hid (n = m + 1) := hm
  have hne : ((m : Int) != (n : Int) - 1) = false := by have : (m : Int) = (n : Int) - 1 := by omega
                                                        simp [this]
  have hm0 : 1 ≤ m := by omega
  clear hm
  have hmk := fun (w : World) => run_mki w (n + 1) (by omega)
  rw [show (((n + 1 : Nat) : Int)) = (n : Int) + 1 by omega] at hmk
  have ht0 : Tk (w.alloc (.cells (Zi (n + 1)) 3)) w.heap.size n (fun _ => 0) := Tk_made w n _ (fun k hk => Zi_get _ _ (by omega))
  have hb0 : Below w.heap.size w (w.alloc (.cells (Zi (n + 1)) 3)) := (Below.refl _ _).alloc (Nat.le_refl _) _
  have HT0 : Hid (Tk (w.alloc (.cells (Zi (n + 1)) 3)) w.heap.size n (fun _ => 0)) := ht0
  clear ht0
  go_enter Try.func4, Try.ntmps4
  go_wp2
  clear hmk
  go_loopw [6] (fun tj wr => ∃ j : Nat, j ≤ n ∧ tj = .int .i64 (j : Int) ∧ Tk wr w.heap.size n (tm ph n j) ∧ Below w.heap.size w wr) (fun tj _ => n - (intOf tj).toNat)
  case atStart => exact ⟨0, by omega, by go_num, HT0.out, hb0⟩
  case round =>
    obtain ⟨j, hj, rfl, hT, hB⟩ := hrel
    have HT : Hid (Tk wr w.heap.size n (tm ph n j)) := hT
    clear hT HT0 hb0
    by_cases hlt : j < n
    · obtain ⟨kn, hkn⟩ : ∃ kn, kn = kj ph n j := ⟨_, rfl⟩
      have hkb := kj_bounds ph n j (by omega)
      rw [← hkn] at hkb
      have HK : Hid (kn = kj ph n j) := hkn
      have HG : Hid (kg (3 * ((ph : Int) + (j : Int))) n = (kn : Int)) := by show _ = _; rw [kg_third ph j n hp, hkn]
      clear hkn
      obtain ⟨wo, rfl⟩ : ∃ wo : World, wo = wr := ⟨_, rfl⟩
      go_wp2
      go_loopw [8, 9] (fun tc tq' wr => ∃ (q c : Nat), 1 ≤ q ∧ q ≤ n + 1 ∧ c ≤ 1 ∧ (c = if kn < q then 1 else 0) ∧ tq' = .int .i64 (q : Int) ∧ tc = .int .i64 (c : Int) ∧ Tk wr w.heap.size n (tq ph n j q) ∧ Below w.heap.size w wr) (fun _ t _ => n + 1 - (intOf t).toNat)
      case atStart => exact ⟨1, 0, by omega, by omega, by omega, by rw [if_neg (by omega)], by go_num, by go_num, Tk_congr HT.out (fun k _ => (tq_start ph n j k).symm), hB⟩
      case round =>
        obtain ⟨q, c, hq1, hq2, hc, hcv, rfl, rfl, hT, hB⟩ := hrel
        have HT : Hid (Tk wr w.heap.size n (tq ph n j q)) := hT
        have HC : Hid (c = if kn < q then 1 else 0) := hcv
        clear hT hcv
        by_cases hqn : q ≤ n
        · by_cases hqk : q = kn
          · obtain ⟨t, ht⟩ : ∃ t, t = tq ph n j q q := ⟨_, rfl⟩
            have htb := tq_le ph n j q q
            rw [← ht] at htb
            have Ht : Hid (t = tq ph n j q q) := ht
            clear ht
            have hc0 : c = 0 := by have := HC.out; rw [if_neg (by omega)] at this; exact this
            subst hc0
            have HCn : Hid (1 = if kn < q + 1 then 1 else 0) := by show 1 = _; rw [if_pos (by omega)]
            have HQ : Hid (q = kn) := hqk
            clear hqk
            go_wp2_with fail
            refine (recv_len q n m _ _ (by omega) (by omega) hn (by omega) hq1 hqn Hm.out (fun _ => by rw [HG.out, HQ.out])).mono ?_
            rintro e w1 ⟨g1, cap1, rfl, hb1⟩
            have hT1 := Tk_below HT.out hb1
            have hB1 : Below w.heap.size w w1 := hB.trans (hb1.mono (by have := hB.size; exact this))
            obtain ⟨hcx, hfx⟩ := hT1.2 q hqn
            rw [← Ht.out] at hcx
            have hTs := Tk_set hT1 hqn (t + 1)
            have HTn : Hid (Tk (w1.setCell ⟨w.heap.size, q, none⟩ (.int .i64 ((t : Int) + 1))) w.heap.size n (tq ph n j (q + 1))) := by
              have h2 := Tk_congr hTs (t' := tq ph n j (q + 1)) (fun k _ => by have := tq_hit ph n j q k (by rw [HQ.out]; exact HK.out); rw [← this, ← Ht.out])
              rw [show (((t + 1 : Nat)) : Int) = (t : Int) + 1 by omega] at h2
              exact h2
            have hBn : Below w.heap.size w (w1.setCell ⟨w.heap.size, q, none⟩ (.int .i64 ((t : Int) + 1))) := hB1.setCell (by simp) _
            have hBs : w.heap.size < w1.heap.size := hT1.1
            clear hTs hT1 hb1 hB HT hB1
            by_cases hj : j = 0
            · have hj0 : ((j : Int) == 0) = true := by simp [hj]
              clear hj
              go_wp2_with fail
              refine (recv_len q n m _ _ (by omega) (by omega) hn (by omega) hq1 hqn Hm.out (fun h => by unfold stp at h; omega)).mono ?_
              rintro e w2 ⟨g2, cap2, rfl, hb2⟩
              have HT2 : Hid (Tk w2 w.heap.size n (tq ph n j (q + 1))) := Tk_below HTn.out hb2
              have hB2 : Below w.heap.size w w2 := hBn.trans (hb2.mono (by have := hBn.size; exact this))
              clear hb2 HTn hBn
              go_wp2_with fail
              refine (recv_len q n m _ _ (by omega) (by omega) hn (by omega) hq1 hqn Hm.out (fun h => by unfold stp at h; omega)).mono ?_
              rintro e w3 ⟨g3, cap3, rfl, hb3⟩
              have HT3 : Hid (Tk w3 w.heap.size n (tq ph n j (q + 1))) := Tk_below HT2.out hb3
              have hB3 : Below w.heap.size w w3 := hB2.trans (hb3.mono (by have := hB2.size; exact this))
              clear hb3 HT2 hB2
              go_wp2
              go_roundw
              case rel => exact ⟨q + 1, 1, by omega, by omega, by omega, HCn.out, by go_num, by go_num, HT3.out, hB3⟩
              case measure => simp [intOf]; omega
            · have hj0 : ((j : Int) == 0) = false := beq_no (by omega)
              clear hj
              go_wp2
              go_roundw
              case rel => exact ⟨q + 1, 1, by omega, by omega, by omega, HCn.out, by go_num, by go_num, HTn.out, hBn⟩
              case measure => simp [intOf]; omega
          · have HCn : Hid (c = if kn < q + 1 then 1 else 0) := by
              have h := HC.out
              show c = _
              by_cases e : kn < q
              · rw [if_pos (by omega)]; rw [if_pos e] at h; exact h
              · rw [if_neg (by omega)]; rw [if_neg e] at h; exact h
            have HTn : Hid (Tk wr w.heap.size n (tq ph n j (q + 1))) := Tk_congr HT.out (fun k _ => tq_miss ph n j q k (by rw [← HK.out]; exact hqk))
            go_wp2_with fail
            refine (recv_nil _ _ _ _ (by omega) (by omega) (by omega) (by omega) (by unfold stp; omega) (by rw [HG.out]; omega)).mono ?_
            rintro e w1 ⟨rfl, rfl⟩
            have hBn := hB
            clear HT hqk hB
            by_cases hj : j = 0
            · have hj0 : ((j : Int) == 0) = true := by simp [hj]
              clear hj
              go_wp2_with fail
              refine (recv_len q n m _ _ (by omega) (by omega) hn (by omega) hq1 hqn Hm.out (fun h => by unfold stp at h; omega)).mono ?_
              rintro e w2 ⟨g2, cap2, rfl, hb2⟩
              have HT2 : Hid (Tk w2 w.heap.size n (tq ph n j (q + 1))) := Tk_below HTn.out hb2
              have hB2 : Below w.heap.size w w2 := hBn.trans (hb2.mono (by have := hBn.size; exact this))
              clear hb2 HTn hBn
              go_wp2_with fail
              refine (recv_len q n m _ _ (by omega) (by omega) hn (by omega) hq1 hqn Hm.out (fun h => by unfold stp at h; omega)).mono ?_
              rintro e w3 ⟨g3, cap3, rfl, hb3⟩
              have HT3 : Hid (Tk w3 w.heap.size n (tq ph n j (q + 1))) := Tk_below HT2.out hb3
              have hB3 : Below w.heap.size w w3 := hB2.trans (hb3.mono (by have := hB2.size; exact this))
              clear hb3 HT2 hB2
              go_wp2
              go_roundw
              case rel => exact ⟨q + 1, c, by omega, by omega, by omega, HCn.out, by go_num, by go_num, HT3.out, hB3⟩
              case measure => simp [intOf]; omega
            · have hj0 : ((j : Int) == 0) = false := beq_no (by omega)
              clear hj
              go_wp2
              go_roundw
              case rel => exact ⟨q + 1, c, by omega, by omega, by omega, HCn.out, by go_num, by go_num, HTn.out, hBn⟩
              case measure => simp [intOf]; omega
        · have hc1 : c = 1 := by have := HC.out; rw [if_pos (by omega)] at this; exact this
          subst hc1
          obtain rfl : q = n + 1 := by omega
          have HTn : Hid (Tk wr w.heap.size n (tm ph n (j + 1))) := Tk_congr HT.out (fun k hk => tq_end ph n j k hk)
          clear HT
          go_wp2
          go_roundw
          case rel => exact ⟨j + 1, by omega, by go_num, HTn.out, hB⟩
          case measure => simp [intOf]; omega
    · obtain rfl : j = n := by omega
      have hone : ∀ k, 1 ≤ k → k ≤ j → wr.cell? ⟨w.heap.size, k, none⟩ = some (.int .i64 1) := by
        intro k h1 h2
        have := (HT.out.2 k h2).1
        rwa [tm_full hp h1 h2] at this
      clear HT
      go_wp2
      go_loop [11] (fun t => ∃ q : Nat, 1 ≤ q ∧ q ≤ j + 1 ∧ t = .int .i64 (q : Int)) (fun t => j + 1 - (intOf t).toNat)
      case atStart => exact ⟨1, by omega, by omega, by go_num⟩
      case round =>
        obtain ⟨q, hq1, hq2, rfl⟩ := hrel
        by_cases hqn : q ≤ j
        · have hcx := hone q hq1 hqn
          clear hone
          go_wp2
          go_round
          case rel => exact ⟨q + 1, by omega, by omega, by go_num⟩
          case measure => simp [intOf]; omega
        · go_wp2
          go_ret
          exact ⟨rfl, hB⟩

end Go.Proofs.Qxb6619470a
