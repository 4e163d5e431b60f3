import Derived.Test.Qxb6619470aLaw7
namespace Go.Proofs.Qxb6619470a
open Go.RowKit
open Go.Proofs.Qxb6619470a.Mode
set_option linter.unusedVariables false

theorem rl_prefix (id : Int) (k : Nat) : ∀ d, ∃ t, rl id (k + d) = rl id k ++ t
  | 0 => ⟨[], by simp⟩
  | d + 1 => by
    obtain ⟨t, ht⟩ := rl_prefix id k d
    have e : rl id (k + (d + 1)) = if (((k + d : Nat) : Int) + 1) = id then rl id (k + d) else rl id (k + d) ++ [((k + d : Nat) : Int) + 1] := rfl
    rw [e]
    split
    · exact ⟨t, ht⟩
    · exact ⟨t ++ [((k + d : Nat) : Int) + 1], by rw [ht, List.append_assoc]⟩

theorem rl_get (id : Int) (k n : Nat) (h : k < n) (hid : ¬ (k : Int) + 1 = id) : (rl id n)[(rl id k).length]? = some ((k : Int) + 1) := by
  obtain ⟨t, ht⟩ := rl_prefix id (k + 1) (n - (k + 1))
  rw [show k + 1 + (n - (k + 1)) = n by omega] at ht
  have e : rl id (k + 1) = rl id k ++ [(k : Int) + 1] := by simp [rl, hid]
  rw [ht, e, List.append_assoc, List.getElem?_append_right (Nat.le_refl _)]
  simp

set_option maxRecDepth 100000 in
set_option maxHeartbeats 2000000 in
/-- Out of range: the law says nothing. -/
theorem law8_out (id n f x pp sp se r : Int) (pr : Bool) (ag aa : Option Addr) (lg cg la ca : Nat) (w : World) (hlg : lg ≤ maxLen) (hla : la ≤ maxLen)
    (h : 65536 < lg ∨ 65536 < la ∨ n < 1 ∨ (lg : Int) ≤ n ∨ (la : Int) ≤ n ∨ f < 0 ∨ n < f ∨ r < 1) :
    Calls Try.prog 5 #[.int .i64 id, .int .i64 n, .int .i64 f, .int .i64 x, .bool pr, .int .i64 pp, .int .i64 sp, .slice ag lg cg, .slice aa la ca, .int .i64 se, .int .i64 r] w fun e w' => e = .returned (.bool true) ∧ w' = w := by
  unfold maxLen at hlg hla
  by_cases k0 : 65536 < lg
  · clear h; go_enter Try.func5, Try.ntmps5; go_wp2; all_goals (go_ret; exact ⟨rfl, rfl⟩)
  by_cases k1 : 65536 < la
  · clear h; go_enter Try.func5, Try.ntmps5; go_wp2; all_goals (go_ret; exact ⟨rfl, rfl⟩)
  by_cases k2 : n < 1
  · clear h; go_enter Try.func5, Try.ntmps5; go_wp2; all_goals (go_ret; exact ⟨rfl, rfl⟩)
  by_cases k3 : (lg : Int) ≤ n
  · clear h; go_enter Try.func5, Try.ntmps5; go_wp2; all_goals (go_ret; exact ⟨rfl, rfl⟩)
  by_cases k4 : (la : Int) ≤ n
  · clear h; go_enter Try.func5, Try.ntmps5; go_wp2; all_goals (go_ret; exact ⟨rfl, rfl⟩)
  by_cases k5 : f < 0
  · clear h; go_enter Try.func5, Try.ntmps5; go_wp2; all_goals (go_ret; exact ⟨rfl, rfl⟩)
  by_cases k6 : n < f
  · clear h; go_enter Try.func5, Try.ntmps5; go_wp2; all_goals (go_ret; exact ⟨rfl, rfl⟩)
  have k9 : r < 1 := by omega
  clear h; go_enter Try.func5, Try.ntmps5; go_wp2; all_goals (go_ret; exact ⟨rfl, rfl⟩)

set_option maxRecDepth 100000 in
set_option maxHeartbeats 2000000 in
theorem law8_one (n lg cg la ca bg og ba oa : Nat) (id f x pp sp se r : Int) (pr : Bool) (got at' : Nat → Int) (w : World) (E : Env n lg la f got at') (hg : Long w bg og lg got) (ha : Long w ba oa la at')
    (hx : (Lit.int .i64 x).wf = true) (hp : (Lit.int .i64 pp).wf = true) (h1 : 1 ≤ r) (h1' : r ≤ 9223372036854775807) (hs : stp r = 1) :
    Calls Try.prog 5 #[.int .i64 id, .int .i64 (n : Int), .int .i64 f, .int .i64 x, .bool pr, .int .i64 pp, .int .i64 sp, .slice (some ⟨bg, og, none⟩) lg cg, .slice (some ⟨ba, oa, none⟩) la ca, .int .i64 se, .int .i64 r] w
      fun e w' => e = .returned (.bool true) ∧ Below w.heap.size w w' := by
  have hstg : stg r = stp r := stg_pos (by omega)
  have t1 : (stg r == 1) = true := by rw [hstg, hs]; rfl
  have t2 : (stg r == 2) = false := by rw [hstg, hs]; rfl
  have t3 : (stg r == 3) = false := by rw [hstg, hs]; rfl
  have HST : Hid (stp r = 1) := hs
  clear hstg hs
  have HE : Hid (Env n lg la f got at') := E
  have hn := E.hn
  have hlg := E.hlg
  have hla := E.hla
  have hlg2 := E.hlg2
  have hla2 := E.hla2
  have hf := E.hf
  have hf2 := E.hf2
  have hbg : bg < w.heap.size := World.block_lt_of_cell? w _ (hg 0 (by omega))
  have hba : ba < w.heap.size := World.block_lt_of_cell? w _ (ha 0 (by omega))
  have HG : Hid (Long w bg og lg got) := hg
  have HA : Hid (Long w ba oa la at') := ha
  have HX : Hid ((Lit.int .i64 x).wf = true) := hx
  have HPP : Hid ((Lit.int .i64 pp).wf = true) := hp
  clear E hg ha hx hp
  go_enter Try.func5, Try.ntmps5
  go_wp2_with (first | (go_at_call 11; go_in) | fail)
  refine (clone_got bg og lg cg got _ hlg2 HG.out).mono ?_
  rintro e w1 ⟨b1, rfl, hb1a, hb1b, hl1, hB1⟩
  have HA1 : Hid (Long w1 ba oa la at') := Long_below HA.out hB1 hba
  have HL1 : Hid (Long w1 b1 0 lg got) := hl1
  have hs1 := hB1.size
  clear HG HA hl1
  go_wp2_with fail
  refine (clone_at ba oa la ca at' _ hla2 HA1.out).mono ?_
  rintro e w2 ⟨b2, rfl, hb2a, hb2b, hl2, hB2⟩
  have HL12 : Hid (Long w2 b1 0 lg got) := Long_below HL1.out hB2 hb1b
  have HL2 : Hid (Long w2 b2 0 la at') := hl2
  have hs2 := hB2.size
  clear HA1 HL1 hl2
  go_wp2_with fail
  refine (clone_got b1 0 lg lg got _ hlg2 HL12.out).mono ?_
  rintro e w3 ⟨b3, rfl, hb3a, hb3b, hl3, hB3⟩
  have HL13 : Hid (Long w3 b1 0 lg got) := Long_below HL12.out hB3 (by omega)
  have HL23 : Hid (Long w3 b2 0 la at') := Long_below HL2.out hB3 hb2b
  have HL3 : Hid (Long w3 b3 0 lg got) := hl3
  have hs3 := hB3.size
  clear HL12 HL2 hl3
  go_wp2_with fail
  refine (clone_at b2 0 la la at' _ hla2 HL23.out).mono ?_
  rintro e w4 ⟨b4, rfl, hb4a, hb4b, hl4, hB4⟩
  have HL14 : Hid (Long w4 b1 0 lg got) := Long_below HL13.out hB4 (by omega)
  have HL24 : Hid (Long w4 b2 0 la at') := Long_below HL23.out hB4 (by omega)
  have HL34 : Hid (Long w4 b3 0 lg got) := Long_below HL3.out hB4 hb3b
  have HL4 : Hid (Long w4 b4 0 la at') := hl4
  have hs4 := hB4.size
  have hBw4 : Below w.heap.size w w4 := ((hB1.trans (hB2.mono hs1)).trans (hB3.mono (by omega))).trans (hB4.mono (by omega))
  clear HL13 HL23 HL3 hl4 hB1 hB2 hB3 hB4
  go_wp2_with fail
  refine (model_call HE.out (r - 1) x pp sp se pr b3 lg b4 la _ HL34.out HL4.out (by omega) (by omega) HX.out HPP.out).mono ?_
  rintro e w5 ⟨x1, p1, q1, s1, e1, hR1, hx1, hq1, rfl, hB5⟩
  have HR1 : Hid (Rule n f got at' (r - 1) ⟨x, pr, pp, sp, se⟩ ⟨x1, p1, q1, s1, e1⟩) := hR1
  have HX1 : Hid ((Lit.int .i64 x1).wf = true) := hx1
  have HQ1 : Hid ((Lit.int .i64 q1).wf = true) := hq1
  clear hR1 hx1 hq1
  go_wp2_with fail
  obtain ⟨w6, hw6, hB6, hD1, hs6⟩ : ∃ w6 : World, w6 = w5.alloc (.cells #[.int .i64 x1, .bool p1, .int .i64 q1, .int .i64 s1, .int .i64 e1] 42) ∧ Below w4.heap.size w4 w6 ∧ PS w6 w5.heap.size (sc x1 p1 q1 s1 e1) ∧ w5.heap.size < w6.heap.size :=
    ⟨_, rfl, hB5.alloc hB5.size _, PS_new w5 (sc x1 p1 q1 s1 e1) 42 _ rfl, by simp⟩
  rw [← hw6]
  have hs5 := hB5.size
  have HD1 : Hid (PS w6 w5.heap.size (sc x1 p1 q1 s1 e1)) := hD1
  obtain ⟨D1, hDD1⟩ : ∃ D1, D1 = w5.heap.size := ⟨_, rfl⟩
  rw [← hDD1] at HD1 hs6 hs5 ⊢
  have HL16 : Hid (Long w6 b1 0 lg got) := Long_below HL14.out hB6 (by omega)
  have HL26 : Hid (Long w6 b2 0 la at') := Long_below HL24.out hB6 (by omega)
  have hBw6 : Below w.heap.size w w6 := hBw4.trans (hB6.mono (by omega))
  clear hw6 hD1 hDD1 hB5 hB6 HL14 HL24 HL34 HL4 hBw4
  clear HX1 HQ1
  refine (stepOf_any r _ (by omega) h1').mono ?_
  rintro e w' ⟨rfl, hw'⟩
  subst w'
  obtain ⟨d0, df0⟩ := HD1.out 0 _ rfl
  obtain ⟨d1, df1⟩ := HD1.out 1 _ rfl
  obtain ⟨d2, df2⟩ := HD1.out 2 _ rfl
  go_wp2_with fail
  clear d0 df0 d1 df1 d2 df2
  refine (new_any id f x pp sp se n pr (some ⟨b1, 0, none⟩) (some ⟨b2, 0, none⟩) lg lg la la _).mono ?_
  rintro e w' ⟨rfl, hw'⟩
  obtain ⟨B, hBB⟩ : ∃ B, B = w6.heap.size := ⟨_, rfl⟩
  have hP9 : PS w' B (pcells id n f x pr pp sp (.slice (some ⟨b1, 0, none⟩) lg lg) (.slice (some ⟨b2, 0, none⟩) la la) (.slice none 0 0) 0 se (.slice none 0 0) (.slice none 0 0)) := by rw [hw']; exact PS_new w6 _ 50 _ hBB
  have hB9 : Below w6.heap.size w6 w' := by rw [hw']; exact (Below.refl _ _).alloc (Nat.le_refl _) _
  rw [← hBB] at hB9 ⊢
  have hbb1 : b1 < B := by omega
  have hbb2 : b2 < B := by omega
  have hdd1 : D1 < B := by omega
  have hwB : w.heap.size ≤ B := by omega
  have HD19 : Hid (PS w' D1 (sc x1 p1 q1 s1 e1)) := PS_below HD1.out hB9 hdd1
  have hL19 : Long w' b1 0 lg got := Long_below HL16.out hB9 hbb1
  have hL29 : Long w' b2 0 la at' := Long_below HL26.out hB9 hbb2
  have hBw9 : Below w.heap.size w w' := hBw6.trans (hB9.mono hwB)
  have hroom9 : Room w' B (.slice none 0 0) := ⟨none, 0, 0, [], rfl, World.ownsRow_nil _ _ _ _⟩
  have hset := (settle_call HE.out B id 0 (r - 1) x pp sp se pr b1 lg b2 la _ _ _ _ hP9 hroom9 hbb1 hbb2 hL19 hL29 (by omega) (by omega) HR1.out).mono (R' := fun e w1 => e = .returned (.tuple #[]) ∧ ∃ vr, PS w1 B (pcells id n f x1 p1 q1 s1 (.slice (some ⟨b1, 0, none⟩) lg lg) (.slice (some ⟨b2, 0, none⟩) la la) vr 0 e1 (.slice none 0 0) (.slice none 0 0)) ∧ Below B w' w1) (fun e w1 ⟨he, vr, hq, _, hb⟩ => ⟨he, vr, hq, hb⟩)
  have hn65 : n ≤ 65536 := by omega
  have hsend := send_one B n id f x1 q1 s1 0 e1 r p1 _ _ w' hset h1 h1' hn hn65 HST.out
  have HSend : Hid (Calls Try.prog 8 #[.pointer (some ⟨B, 0, none⟩), .int .i64 r] w' fun e w2 => Sent w' B n id f p1 x1 q1 s1 e1 r (.slice (some ⟨b1, 0, none⟩) lg lg) (.slice (some ⟨b2, 0, none⟩) la la) x1 e w2) := hsend
  clear hsend hset hw' hBB hP9 hB9 hroom9 hL19 hL29 HD1 HL16 HL26 hBw6 hs1 hs2 hs3 hs4 hs5 hs6 hb1a hb1b hb2a hb2b hb3a hb3b hb4a hb4b HR1
  go_wp2_with fail
  refine HSend.out.mono ?_
  rintro e wS ⟨a, cap, I, vr, rfl, hBI, hown, hI, hPS, hBS⟩
  have HOwn : Hid (wS.ownsRow (B + 1) 31 2 (.slice a (rl id n).length cap) (rl id n).length (ml (.slice (some ⟨I, 0, none⟩) 1 1) (rl id n))) := hown
  have HI : Hid (PS wS I (icells x1)) := hI
  have HPS : Hid (PS wS B (pcells id n f x1 p1 q1 s1 (.slice (some ⟨b1, 0, none⟩) lg lg) (.slice (some ⟨b2, 0, none⟩) la la) vr r e1 (.slice (some ⟨I, 0, none⟩) 1 1) (.slice a (rl id n).length cap))) := hPS
  have hD1S := PS_below HD19.out hBS hdd1
  have hBwS : Below w.heap.size w wS := hBw9.trans (hBS.mono hwB)
  obtain ⟨d0, df0⟩ := hD1S 0 _ rfl
  obtain ⟨d1, df1⟩ := hD1S 1 _ rfl
  obtain ⟨d2, df2⟩ := hD1S 2 _ rfl
  obtain ⟨d3, df3⟩ := hD1S 3 _ rfl
  obtain ⟨d4, df4⟩ := hD1S 4 _ rfl
  have hlen := rl_le id n
  obtain ⟨L, hL⟩ : ∃ L, L = (rl id n).length := ⟨_, rfl⟩
  rw [← hL] at HOwn HPS hlen ⊢
  have HL : Hid (L = (rl id n).length) := hL
  clear hown hI hPS hD1S hBS hBw9 HD19 HSend hL
  go_wp2_with fail
  refine (state_any B n id f x1 q1 s1 r e1 p1 _ _ _ _ _ _ HPS.out).mono ?_
  rintro e wb ⟨rfl, nd, hwb⟩
  subst wb
  go_wp2
  obtain ⟨wm, hwm, hBm, hOm, hIm⟩ : ∃ wm : World, wm = wS.drewN nd ∧ Below w.heap.size w wm ∧ wm.ownsRow (B + 1) 31 2 (.slice a L cap) L (ml (.slice (some ⟨I, 0, none⟩) 1 1) (rl id n)) ∧ PS wm I (icells x1) := ⟨_, rfl, bel_drewN hBwS _, HOwn.out, HI.out⟩
  rw [← hwm]
  have HOm : Hid (wm.ownsRow (B + 1) 31 2 (.slice a L cap) L (ml (.slice (some ⟨I, 0, none⟩) 1 1) (rl id n))) := hOm
  have HIm : Hid (PS wm I (icells x1)) := hIm
  clear hwm hOm hIm HOwn HI HPS hBwS d0 df0 d1 df1 d2 df2 d3 df3 d4 df4
  go_loopw [37, 38] (fun ti tq wr => ∃ k : Nat, k ≤ n ∧ tq = .int .i64 ((k : Int) + 1) ∧ ti = .int .i64 ((rl id k).length : Int) ∧ Below wm.heap.size wm wr) (fun _ tq _ => n + 1 - (intOf tq).toNat)
  case atStart => exact ⟨0, by omega, by go_num, rfl, Below.refl _ _⟩
  case round =>
    obtain ⟨k, hk, rfl, rfl, hbr⟩ := hrel
    have hlk := rl_le id k
    by_cases hlt : k < n
    · by_cases hid : (k : Int) + 1 = id
      · have hb' : ((k : Int) + 1 == id) = true := by simp [hid]
        have Hr : Hid ((rl id (k + 1)).length = (rl id k).length) := by show (rl id (k + 1)).length = _; simp [rl, hid]
        clear hid
        go_wp2
        go_roundw
        case rel => exact ⟨k + 1, by omega, by go_num, by rw [Hr.out], hbr⟩
        case measure => simp [intOf]; omega
      · have hb' : ((k : Int) + 1 == id) = false := beq_no hid
        have Hr : Hid ((rl id (k + 1)).length = (rl id k).length + 1) := by show (rl id (k + 1)).length = _; simp [rl, hid]
        have hget := rl_get id k n hlt hid
        have hiL : (rl id k).length < L := by rw [HL.out]; exact (List.getElem?_eq_some_iff.1 hget).1
        obtain ⟨g1, rfl, hg1, hg1', hc1⟩ := own_cell HOm.out (by omega)
        obtain ⟨hm1, hm2⟩ := ml_get (.slice (some ⟨I, 0, none⟩) 1 1) _ _ _ hget
        obtain ⟨i, hi⟩ : ∃ i, i = (rl id k).length := ⟨_, rfl⟩
        rw [← hi] at hm1 hm2 hiL hlk Hr ⊢
        have Hi : Hid (i = (rl id k).length) := hi
        clear hid hi hget
        have m1 : wr.cell? ⟨g1, i * 2, none⟩ = some (.int .i64 ((k : Int) + 1)) := (hbr.cell (by exact hg1')).trans (hc1 _ _ hm1)
        have m2 : wr.cell? ⟨g1, i * 2 + 1, none⟩ = some (.slice (some ⟨I, 0, none⟩) 1 1) := (hbr.cell (by exact hg1')).trans (hc1 _ _ hm2)
        have hIs := World.block_lt_of_cell? wm _ (HIm.out 0 _ rfl).1
        have hIr : PS wr I (icells x1) := PS_below HIm.out hbr hIs
        obtain ⟨i1, _⟩ := hIr 0 _ rfl
        obtain ⟨i2, _⟩ := hIr 1 _ rfl
        obtain ⟨i3, _⟩ := hIr 2 _ rfl
        have hIl : I < wr.heap.size := World.block_lt_of_cell? wr _ i1
        have hg1l : g1 < wr.heap.size := World.block_lt_of_cell? wr _ m1
        clear hIr hm1 hm2 hc1
        go_wp2
        go_roundw
        case rel => exact ⟨k + 1, by omega, by go_num, by rw [Hr.out]; go_num, hbr.alloc hbr.size _⟩
        case measure => simp [intOf]; omega
    · obtain rfl : k = n := by omega
      have HL2 : Hid ((rl id k).length = L) := HL.out.symm
      go_wp2
      go_ret
      exact ⟨by rw [HL2.out]; simp, hBm.trans (hbr.mono hBm.size)⟩

set_option maxRecDepth 100000 in
set_option maxHeartbeats 2000000 in
theorem law8_two (n lg cg la ca bg og ba oa : Nat) (id f x pp sp se r : Int) (pr : Bool) (got at' : Nat → Int) (w : World) (E : Env n lg la f got at') (hg : Long w bg og lg got) (ha : Long w ba oa la at')
    (hx : (Lit.int .i64 x).wf = true) (hp : (Lit.int .i64 pp).wf = true) (h1 : 1 ≤ r) (h1' : r ≤ 9223372036854775807) (hs : stp r = 2) :
    Calls Try.prog 5 #[.int .i64 id, .int .i64 (n : Int), .int .i64 f, .int .i64 x, .bool pr, .int .i64 pp, .int .i64 sp, .slice (some ⟨bg, og, none⟩) lg cg, .slice (some ⟨ba, oa, none⟩) la ca, .int .i64 se, .int .i64 r] w
      fun e w' => e = .returned (.bool true) ∧ Below w.heap.size w w' := by
  have hstg : stg r = stp r := stg_pos (by omega)
  have t1 : (stg r == 1) = false := by rw [hstg, hs]; rfl
  have t2 : (stg r == 2) = true := by rw [hstg, hs]; rfl
  have t3 : (stg r == 3) = false := by rw [hstg, hs]; rfl
  have HST : Hid (stp r = 2) := hs
  clear hstg hs
  have HE : Hid (Env n lg la f got at') := E
  have hn := E.hn
  have hlg := E.hlg
  have hla := E.hla
  have hlg2 := E.hlg2
  have hla2 := E.hla2
  have hf := E.hf
  have hf2 := E.hf2
  have hbg : bg < w.heap.size := World.block_lt_of_cell? w _ (hg 0 (by omega))
  have hba : ba < w.heap.size := World.block_lt_of_cell? w _ (ha 0 (by omega))
  have HG : Hid (Long w bg og lg got) := hg
  have HA : Hid (Long w ba oa la at') := ha
  have HX : Hid ((Lit.int .i64 x).wf = true) := hx
  have HPP : Hid ((Lit.int .i64 pp).wf = true) := hp
  clear E hg ha hx hp
  go_enter Try.func5, Try.ntmps5
  go_wp2_with (first | (go_at_call 11; go_in) | fail)
  refine (clone_got bg og lg cg got _ hlg2 HG.out).mono ?_
  rintro e w1 ⟨b1, rfl, hb1a, hb1b, hl1, hB1⟩
  have HA1 : Hid (Long w1 ba oa la at') := Long_below HA.out hB1 hba
  have HL1 : Hid (Long w1 b1 0 lg got) := hl1
  have hs1 := hB1.size
  clear HG HA hl1
  go_wp2_with fail
  refine (clone_at ba oa la ca at' _ hla2 HA1.out).mono ?_
  rintro e w2 ⟨b2, rfl, hb2a, hb2b, hl2, hB2⟩
  have HL12 : Hid (Long w2 b1 0 lg got) := Long_below HL1.out hB2 hb1b
  have HL2 : Hid (Long w2 b2 0 la at') := hl2
  have hs2 := hB2.size
  clear HA1 HL1 hl2
  go_wp2_with fail
  refine (clone_got b1 0 lg lg got _ hlg2 HL12.out).mono ?_
  rintro e w3 ⟨b3, rfl, hb3a, hb3b, hl3, hB3⟩
  have HL13 : Hid (Long w3 b1 0 lg got) := Long_below HL12.out hB3 (by omega)
  have HL23 : Hid (Long w3 b2 0 la at') := Long_below HL2.out hB3 hb2b
  have HL3 : Hid (Long w3 b3 0 lg got) := hl3
  have hs3 := hB3.size
  clear HL12 HL2 hl3
  go_wp2_with fail
  refine (clone_at b2 0 la la at' _ hla2 HL23.out).mono ?_
  rintro e w4 ⟨b4, rfl, hb4a, hb4b, hl4, hB4⟩
  have HL14 : Hid (Long w4 b1 0 lg got) := Long_below HL13.out hB4 (by omega)
  have HL24 : Hid (Long w4 b2 0 la at') := Long_below HL23.out hB4 (by omega)
  have HL34 : Hid (Long w4 b3 0 lg got) := Long_below HL3.out hB4 hb3b
  have HL4 : Hid (Long w4 b4 0 la at') := hl4
  have hs4 := hB4.size
  have hBw4 : Below w.heap.size w w4 := ((hB1.trans (hB2.mono hs1)).trans (hB3.mono (by omega))).trans (hB4.mono (by omega))
  clear HL13 HL23 HL3 hl4 hB1 hB2 hB3 hB4
  go_wp2_with fail
  refine (model_call HE.out (r - 1) x pp sp se pr b3 lg b4 la _ HL34.out HL4.out (by omega) (by omega) HX.out HPP.out).mono ?_
  rintro e w5 ⟨x1, p1, q1, s1, e1, hR1, hx1, hq1, rfl, hB5⟩
  have HR1 : Hid (Rule n f got at' (r - 1) ⟨x, pr, pp, sp, se⟩ ⟨x1, p1, q1, s1, e1⟩) := hR1
  have HX1 : Hid ((Lit.int .i64 x1).wf = true) := hx1
  have HQ1 : Hid ((Lit.int .i64 q1).wf = true) := hq1
  clear hR1 hx1 hq1
  go_wp2_with fail
  obtain ⟨w6, hw6, hB6, hD1, hs6⟩ : ∃ w6 : World, w6 = w5.alloc (.cells #[.int .i64 x1, .bool p1, .int .i64 q1, .int .i64 s1, .int .i64 e1] 42) ∧ Below w4.heap.size w4 w6 ∧ PS w6 w5.heap.size (sc x1 p1 q1 s1 e1) ∧ w5.heap.size < w6.heap.size :=
    ⟨_, rfl, hB5.alloc hB5.size _, PS_new w5 (sc x1 p1 q1 s1 e1) 42 _ rfl, by simp⟩
  rw [← hw6]
  have hs5 := hB5.size
  have HD1 : Hid (PS w6 w5.heap.size (sc x1 p1 q1 s1 e1)) := hD1
  obtain ⟨D1, hDD1⟩ : ∃ D1, D1 = w5.heap.size := ⟨_, rfl⟩
  rw [← hDD1] at HD1 hs6 hs5 ⊢
  have HL16 : Hid (Long w6 b1 0 lg got) := Long_below HL14.out hB6 (by omega)
  have HL26 : Hid (Long w6 b2 0 la at') := Long_below HL24.out hB6 (by omega)
  have hBw6 : Below w.heap.size w w6 := hBw4.trans (hB6.mono (by omega))
  clear hw6 hD1 hDD1 hB5 hB6 HL14 HL24 HL34 HL4 hBw4
  clear HX1 HQ1
  refine (stepOf_any r _ (by omega) h1').mono ?_
  rintro e w' ⟨rfl, hw'⟩
  subst w'
  cases p1
  · obtain ⟨d0, df0⟩ := HD1.out 0 _ rfl
    obtain ⟨d1, df1⟩ := HD1.out 1 _ rfl
    obtain ⟨d2, df2⟩ := HD1.out 2 _ rfl
    go_wp2_with fail
    clear d0 df0 d1 df1 d2 df2
    refine (new_any id f x pp sp se n pr (some ⟨b1, 0, none⟩) (some ⟨b2, 0, none⟩) lg lg la la _).mono ?_
    rintro e w' ⟨rfl, hw'⟩
    obtain ⟨B, hBB⟩ : ∃ B, B = w6.heap.size := ⟨_, rfl⟩
    have hP9 : PS w' B (pcells id n f x pr pp sp (.slice (some ⟨b1, 0, none⟩) lg lg) (.slice (some ⟨b2, 0, none⟩) la la) (.slice none 0 0) 0 se (.slice none 0 0) (.slice none 0 0)) := by rw [hw']; exact PS_new w6 _ 50 _ hBB
    have hB9 : Below w6.heap.size w6 w' := by rw [hw']; exact (Below.refl _ _).alloc (Nat.le_refl _) _
    rw [← hBB] at hB9 ⊢
    have hbb1 : b1 < B := by omega
    have hbb2 : b2 < B := by omega
    have hdd1 : D1 < B := by omega
    have hwB : w.heap.size ≤ B := by omega
    have HD19 : Hid (PS w' D1 (sc x1 false q1 s1 e1)) := PS_below HD1.out hB9 hdd1
    have hL19 : Long w' b1 0 lg got := Long_below HL16.out hB9 hbb1
    have hL29 : Long w' b2 0 la at' := Long_below HL26.out hB9 hbb2
    have hBw9 : Below w.heap.size w w' := hBw6.trans (hB9.mono hwB)
    have hroom9 : Room w' B (.slice none 0 0) := ⟨none, 0, 0, [], rfl, World.ownsRow_nil _ _ _ _⟩
    have hset := (settle_call HE.out B id 0 (r - 1) x pp sp se pr b1 lg b2 la _ _ _ _ hP9 hroom9 hbb1 hbb2 hL19 hL29 (by omega) (by omega) HR1.out).mono (R' := fun e w1 => e = .returned (.tuple #[]) ∧ ∃ vr, PS w1 B (pcells id n f x1 false q1 s1 (.slice (some ⟨b1, 0, none⟩) lg lg) (.slice (some ⟨b2, 0, none⟩) la la) vr 0 e1 (.slice none 0 0) (.slice none 0 0)) ∧ Below B w' w1) (fun e w1 ⟨he, vr, hq, _, hb⟩ => ⟨he, vr, hq, hb⟩)
    have hn65 : n ≤ 65536 := by omega
    have hsend := send_two_no B n id f x1 q1 s1 0 e1 r _ _ w' hset h1 h1' hn hn65 HST.out
    have HSend : Hid (Calls Try.prog 8 #[.pointer (some ⟨B, 0, none⟩), .int .i64 r] w' fun e w2 => e = .returned (.slice none 0 0) ∧ (∃ vr, PS w2 B (pcells id n f x1 false q1 s1 (.slice (some ⟨b1, 0, none⟩) lg lg) (.slice (some ⟨b2, 0, none⟩) la la) vr r e1 (.slice none 0 0) (.slice none 0 0))) ∧ Below B w' w2) := hsend
    clear hsend hset hw' hBB hP9 hB9 hroom9 hL19 hL29 HD1 HL16 HL26 hBw6 hs1 hs2 hs3 hs4 hs5 hs6 hb1a hb1b hb2a hb2b hb3a hb3b hb4a hb4b HR1
    go_wp2_with fail
    refine HSend.out.mono ?_
    rintro e wS ⟨rfl, ⟨vr, hPS⟩, hBS⟩
    have HPS : Hid (PS wS B (pcells id n f x1 false q1 s1 (.slice (some ⟨b1, 0, none⟩) lg lg) (.slice (some ⟨b2, 0, none⟩) la la) vr r e1 (.slice none 0 0) (.slice none 0 0))) := hPS
    have hD1S := PS_below HD19.out hBS hdd1
    have hBwS : Below w.heap.size w wS := hBw9.trans (hBS.mono hwB)
    obtain ⟨d0, df0⟩ := hD1S 0 _ rfl
    obtain ⟨d1, df1⟩ := hD1S 1 _ rfl
    obtain ⟨d2, df2⟩ := hD1S 2 _ rfl
    obtain ⟨d3, df3⟩ := hD1S 3 _ rfl
    obtain ⟨d4, df4⟩ := hD1S 4 _ rfl
    clear hPS hD1S hBS hBw9 HD19 HSend
    go_wp2_with fail
    refine (state_any B n id f x1 q1 s1 r e1 false _ _ _ _ _ _ HPS.out).mono ?_
    rintro e wb ⟨rfl, nd, hwb⟩
    subst wb
    go_wp2
    go_ret
    exact ⟨rfl, bel_drewN hBwS _⟩
  · obtain ⟨d0, df0⟩ := HD1.out 0 _ rfl
    obtain ⟨d1, df1⟩ := HD1.out 1 _ rfl
    obtain ⟨d2, df2⟩ := HD1.out 2 _ rfl
    go_wp2_with fail
    clear d0 df0 d1 df1 d2 df2
    refine (new_any id f x pp sp se n pr (some ⟨b1, 0, none⟩) (some ⟨b2, 0, none⟩) lg lg la la _).mono ?_
    rintro e w' ⟨rfl, hw'⟩
    obtain ⟨B, hBB⟩ : ∃ B, B = w6.heap.size := ⟨_, rfl⟩
    have hP9 : PS w' B (pcells id n f x pr pp sp (.slice (some ⟨b1, 0, none⟩) lg lg) (.slice (some ⟨b2, 0, none⟩) la la) (.slice none 0 0) 0 se (.slice none 0 0) (.slice none 0 0)) := by rw [hw']; exact PS_new w6 _ 50 _ hBB
    have hB9 : Below w6.heap.size w6 w' := by rw [hw']; exact (Below.refl _ _).alloc (Nat.le_refl _) _
    rw [← hBB] at hB9 ⊢
    have hbb1 : b1 < B := by omega
    have hbb2 : b2 < B := by omega
    have hdd1 : D1 < B := by omega
    have hwB : w.heap.size ≤ B := by omega
    have HD19 : Hid (PS w' D1 (sc x1 true q1 s1 e1)) := PS_below HD1.out hB9 hdd1
    have hL19 : Long w' b1 0 lg got := Long_below HL16.out hB9 hbb1
    have hL29 : Long w' b2 0 la at' := Long_below HL26.out hB9 hbb2
    have hBw9 : Below w.heap.size w w' := hBw6.trans (hB9.mono hwB)
    have hroom9 : Room w' B (.slice none 0 0) := ⟨none, 0, 0, [], rfl, World.ownsRow_nil _ _ _ _⟩
    have hset := (settle_call HE.out B id 0 (r - 1) x pp sp se pr b1 lg b2 la _ _ _ _ hP9 hroom9 hbb1 hbb2 hL19 hL29 (by omega) (by omega) HR1.out).mono (R' := fun e w1 => e = .returned (.tuple #[]) ∧ ∃ vr, PS w1 B (pcells id n f x1 true q1 s1 (.slice (some ⟨b1, 0, none⟩) lg lg) (.slice (some ⟨b2, 0, none⟩) la la) vr 0 e1 (.slice none 0 0) (.slice none 0 0)) ∧ Below B w' w1) (fun e w1 ⟨he, vr, hq, _, hb⟩ => ⟨he, vr, hq, hb⟩)
    have hn65 : n ≤ 65536 := by omega
    have hsend := send_two B n id f x1 q1 s1 0 e1 r _ _ w' hset h1 h1' hn hn65 HST.out
    have HSend : Hid (Calls Try.prog 8 #[.pointer (some ⟨B, 0, none⟩), .int .i64 r] w' fun e w2 => Sent w' B n id f true x1 q1 s1 e1 r (.slice (some ⟨b1, 0, none⟩) lg lg) (.slice (some ⟨b2, 0, none⟩) la la) q1 e w2) := hsend
    clear hsend hset hw' hBB hP9 hB9 hroom9 hL19 hL29 HD1 HL16 HL26 hBw6 hs1 hs2 hs3 hs4 hs5 hs6 hb1a hb1b hb2a hb2b hb3a hb3b hb4a hb4b HR1
    go_wp2_with fail
    refine HSend.out.mono ?_
    rintro e wS ⟨a, cap, I, vr, rfl, hBI, hown, hI, hPS, hBS⟩
    have HOwn : Hid (wS.ownsRow (B + 1) 31 2 (.slice a (rl id n).length cap) (rl id n).length (ml (.slice (some ⟨I, 0, none⟩) 1 1) (rl id n))) := hown
    have HI : Hid (PS wS I (icells q1)) := hI
    have HPS : Hid (PS wS B (pcells id n f x1 true q1 s1 (.slice (some ⟨b1, 0, none⟩) lg lg) (.slice (some ⟨b2, 0, none⟩) la la) vr r e1 (.slice (some ⟨I, 0, none⟩) 1 1) (.slice a (rl id n).length cap))) := hPS
    have hD1S := PS_below HD19.out hBS hdd1
    have hBwS : Below w.heap.size w wS := hBw9.trans (hBS.mono hwB)
    obtain ⟨d0, df0⟩ := hD1S 0 _ rfl
    obtain ⟨d1, df1⟩ := hD1S 1 _ rfl
    obtain ⟨d2, df2⟩ := hD1S 2 _ rfl
    obtain ⟨d3, df3⟩ := hD1S 3 _ rfl
    obtain ⟨d4, df4⟩ := hD1S 4 _ rfl
    have hlen := rl_le id n
    obtain ⟨L, hL⟩ : ∃ L, L = (rl id n).length := ⟨_, rfl⟩
    rw [← hL] at HOwn HPS hlen ⊢
    have HL : Hid (L = (rl id n).length) := hL
    clear hown hI hPS hD1S hBS hBw9 HD19 HSend hL
    go_wp2_with fail
    refine (state_any B n id f x1 q1 s1 r e1 true _ _ _ _ _ _ HPS.out).mono ?_
    rintro e wb ⟨rfl, nd, hwb⟩
    subst wb
    go_wp2
    obtain ⟨wm, hwm, hBm, hOm, hIm⟩ : ∃ wm : World, wm = wS.drewN nd ∧ Below w.heap.size w wm ∧ wm.ownsRow (B + 1) 31 2 (.slice a L cap) L (ml (.slice (some ⟨I, 0, none⟩) 1 1) (rl id n)) ∧ PS wm I (icells q1) := ⟨_, rfl, bel_drewN hBwS _, HOwn.out, HI.out⟩
    rw [← hwm]
    have HOm : Hid (wm.ownsRow (B + 1) 31 2 (.slice a L cap) L (ml (.slice (some ⟨I, 0, none⟩) 1 1) (rl id n))) := hOm
    have HIm : Hid (PS wm I (icells q1)) := hIm
    clear hwm hOm hIm HOwn HI HPS hBwS d0 df0 d1 df1 d2 df2 d3 df3 d4 df4
    go_loopw [37, 38] (fun ti tq wr => ∃ k : Nat, k ≤ n ∧ tq = .int .i64 ((k : Int) + 1) ∧ ti = .int .i64 ((rl id k).length : Int) ∧ Below wm.heap.size wm wr) (fun _ tq _ => n + 1 - (intOf tq).toNat)
    case atStart => exact ⟨0, by omega, by go_num, rfl, Below.refl _ _⟩
    case round =>
      obtain ⟨k, hk, rfl, rfl, hbr⟩ := hrel
      have hlk := rl_le id k
      by_cases hlt : k < n
      · by_cases hid : (k : Int) + 1 = id
        · have hb' : ((k : Int) + 1 == id) = true := by simp [hid]
          have Hr : Hid ((rl id (k + 1)).length = (rl id k).length) := by show (rl id (k + 1)).length = _; simp [rl, hid]
          clear hid
          go_wp2
          go_roundw
          case rel => exact ⟨k + 1, by omega, by go_num, by rw [Hr.out], hbr⟩
          case measure => simp [intOf]; omega
        · have hb' : ((k : Int) + 1 == id) = false := beq_no hid
          have Hr : Hid ((rl id (k + 1)).length = (rl id k).length + 1) := by show (rl id (k + 1)).length = _; simp [rl, hid]
          have hget := rl_get id k n hlt hid
          have hiL : (rl id k).length < L := by rw [HL.out]; exact (List.getElem?_eq_some_iff.1 hget).1
          obtain ⟨g1, rfl, hg1, hg1', hc1⟩ := own_cell HOm.out (by omega)
          obtain ⟨hm1, hm2⟩ := ml_get (.slice (some ⟨I, 0, none⟩) 1 1) _ _ _ hget
          obtain ⟨i, hi⟩ : ∃ i, i = (rl id k).length := ⟨_, rfl⟩
          rw [← hi] at hm1 hm2 hiL hlk Hr ⊢
          have Hi : Hid (i = (rl id k).length) := hi
          clear hid hi hget
          have m1 : wr.cell? ⟨g1, i * 2, none⟩ = some (.int .i64 ((k : Int) + 1)) := (hbr.cell (by exact hg1')).trans (hc1 _ _ hm1)
          have m2 : wr.cell? ⟨g1, i * 2 + 1, none⟩ = some (.slice (some ⟨I, 0, none⟩) 1 1) := (hbr.cell (by exact hg1')).trans (hc1 _ _ hm2)
          have hIs := World.block_lt_of_cell? wm _ (HIm.out 0 _ rfl).1
          have hIr : PS wr I (icells q1) := PS_below HIm.out hbr hIs
          obtain ⟨i1, _⟩ := hIr 0 _ rfl
          obtain ⟨i2, _⟩ := hIr 1 _ rfl
          obtain ⟨i3, _⟩ := hIr 2 _ rfl
          have hIl : I < wr.heap.size := World.block_lt_of_cell? wr _ i1
          have hg1l : g1 < wr.heap.size := World.block_lt_of_cell? wr _ m1
          clear hIr hm1 hm2 hc1
          go_wp2
          go_roundw
          case rel => exact ⟨k + 1, by omega, by go_num, by rw [Hr.out]; go_num, hbr.alloc hbr.size _⟩
          case measure => simp [intOf]; omega
      · obtain rfl : k = n := by omega
        have HL2 : Hid ((rl id k).length = L) := HL.out.symm
        go_wp2
        go_ret
        exact ⟨by rw [HL2.out]; simp, hBm.trans (hbr.mono hBm.size)⟩

set_option maxRecDepth 100000 in
set_option maxHeartbeats 2000000 in
theorem law8_king (n lg cg la ca bg og ba oa : Nat) (id f x pp sp se r : Int) (pr : Bool) (got at' : Nat → Int) (w : World) (E : Env n lg la f got at') (hg : Long w bg og lg got) (ha : Long w ba oa la at')
    (hx : (Lit.int .i64 x).wf = true) (hp : (Lit.int .i64 pp).wf = true) (h1 : 1 ≤ r) (h1' : r ≤ 9223372036854775807) (hs : stp r = 3) (hk : id = kg r n) :
    Calls Try.prog 5 #[.int .i64 id, .int .i64 (n : Int), .int .i64 f, .int .i64 x, .bool pr, .int .i64 pp, .int .i64 sp, .slice (some ⟨bg, og, none⟩) lg cg, .slice (some ⟨ba, oa, none⟩) la ca, .int .i64 se, .int .i64 r] w
      fun e w' => e = .returned (.bool true) ∧ Below w.heap.size w w' := by
  have hstg : stg r = stp r := stg_pos (by omega)
  have h33 : 3 ≤ r := by unfold stp at hs; omega
  have t1 : (stg r == 1) = false := by rw [hstg, hs]; rfl
  have t2 : (stg r == 2) = false := by rw [hstg, hs]; rfl
  have t3 : (stg r == 3) = true := by rw [hstg, hs]; rfl
  have HST : Hid (stp r = 3) := hs
  clear hstg hs
  have ek : (id == kg r n) = true := by simp [hk]
  have HK : Hid (id = kg r n) := hk
  clear hk
  have HE : Hid (Env n lg la f got at') := E
  have hn := E.hn
  have hlg := E.hlg
  have hla := E.hla
  have hlg2 := E.hlg2
  have hla2 := E.hla2
  have hf := E.hf
  have hf2 := E.hf2
  have hbg : bg < w.heap.size := World.block_lt_of_cell? w _ (hg 0 (by omega))
  have hba : ba < w.heap.size := World.block_lt_of_cell? w _ (ha 0 (by omega))
  have HG : Hid (Long w bg og lg got) := hg
  have HA : Hid (Long w ba oa la at') := ha
  have HX : Hid ((Lit.int .i64 x).wf = true) := hx
  have HPP : Hid ((Lit.int .i64 pp).wf = true) := hp
  clear E hg ha hx hp
  go_enter Try.func5, Try.ntmps5
  go_wp2_with (first | (go_at_call 11; go_in) | fail)
  refine (clone_got bg og lg cg got _ hlg2 HG.out).mono ?_
  rintro e w1 ⟨b1, rfl, hb1a, hb1b, hl1, hB1⟩
  have HA1 : Hid (Long w1 ba oa la at') := Long_below HA.out hB1 hba
  have HL1 : Hid (Long w1 b1 0 lg got) := hl1
  have hs1 := hB1.size
  clear HG HA hl1
  go_wp2_with fail
  refine (clone_at ba oa la ca at' _ hla2 HA1.out).mono ?_
  rintro e w2 ⟨b2, rfl, hb2a, hb2b, hl2, hB2⟩
  have HL12 : Hid (Long w2 b1 0 lg got) := Long_below HL1.out hB2 hb1b
  have HL2 : Hid (Long w2 b2 0 la at') := hl2
  have hs2 := hB2.size
  clear HA1 HL1 hl2
  go_wp2_with fail
  refine (clone_got b1 0 lg lg got _ hlg2 HL12.out).mono ?_
  rintro e w3 ⟨b3, rfl, hb3a, hb3b, hl3, hB3⟩
  have HL13 : Hid (Long w3 b1 0 lg got) := Long_below HL12.out hB3 (by omega)
  have HL23 : Hid (Long w3 b2 0 la at') := Long_below HL2.out hB3 hb2b
  have HL3 : Hid (Long w3 b3 0 lg got) := hl3
  have hs3 := hB3.size
  clear HL12 HL2 hl3
  go_wp2_with fail
  refine (clone_at b2 0 la la at' _ hla2 HL23.out).mono ?_
  rintro e w4 ⟨b4, rfl, hb4a, hb4b, hl4, hB4⟩
  have HL14 : Hid (Long w4 b1 0 lg got) := Long_below HL13.out hB4 (by omega)
  have HL24 : Hid (Long w4 b2 0 la at') := Long_below HL23.out hB4 (by omega)
  have HL34 : Hid (Long w4 b3 0 lg got) := Long_below HL3.out hB4 hb3b
  have HL4 : Hid (Long w4 b4 0 la at') := hl4
  have hs4 := hB4.size
  have hBw4 : Below w.heap.size w w4 := ((hB1.trans (hB2.mono hs1)).trans (hB3.mono (by omega))).trans (hB4.mono (by omega))
  clear HL13 HL23 HL3 hl4 hB1 hB2 hB3 hB4
  go_wp2_with fail
  refine (model_call HE.out (r - 1) x pp sp se pr b3 lg b4 la _ HL34.out HL4.out (by omega) (by omega) HX.out HPP.out).mono ?_
  rintro e w5 ⟨x1, p1, q1, s1, e1, hR1, hx1, hq1, rfl, hB5⟩
  have HR1 : Hid (Rule n f got at' (r - 1) ⟨x, pr, pp, sp, se⟩ ⟨x1, p1, q1, s1, e1⟩) := hR1
  have HX1 : Hid ((Lit.int .i64 x1).wf = true) := hx1
  have HQ1 : Hid ((Lit.int .i64 q1).wf = true) := hq1
  clear hR1 hx1 hq1
  go_wp2_with fail
  obtain ⟨w6, hw6, hB6, hD1, hs6⟩ : ∃ w6 : World, w6 = w5.alloc (.cells #[.int .i64 x1, .bool p1, .int .i64 q1, .int .i64 s1, .int .i64 e1] 42) ∧ Below w4.heap.size w4 w6 ∧ PS w6 w5.heap.size (sc x1 p1 q1 s1 e1) ∧ w5.heap.size < w6.heap.size :=
    ⟨_, rfl, hB5.alloc hB5.size _, PS_new w5 (sc x1 p1 q1 s1 e1) 42 _ rfl, by simp⟩
  rw [← hw6]
  have hs5 := hB5.size
  have HD1 : Hid (PS w6 w5.heap.size (sc x1 p1 q1 s1 e1)) := hD1
  obtain ⟨D1, hDD1⟩ : ∃ D1, D1 = w5.heap.size := ⟨_, rfl⟩
  rw [← hDD1] at HD1 hs6 hs5 ⊢
  have HL16 : Hid (Long w6 b1 0 lg got) := Long_below HL14.out hB6 (by omega)
  have HL26 : Hid (Long w6 b2 0 la at') := Long_below HL24.out hB6 (by omega)
  have hBw6 : Below w.heap.size w w6 := hBw4.trans (hB6.mono (by omega))
  clear hw6 hD1 hDD1 hB5 hB6 HL14 HL24 HL34 HL4 hBw4
  clear HX1 HQ1
  refine (stepOf_any r _ (by omega) h1').mono ?_
  rintro e w' ⟨rfl, hw'⟩
  subst w'
  obtain ⟨d0, df0⟩ := HD1.out 0 _ rfl
  obtain ⟨d1, df1⟩ := HD1.out 1 _ rfl
  obtain ⟨d2, df2⟩ := HD1.out 2 _ rfl
  go_wp2_with fail
  refine (third_any r n _ h33 h1' HST.out (by omega) (by omega)).mono ?_
  rintro e w' ⟨rfl, hw'⟩
  subst w'
  go_wp2_with fail
  clear d0 df0 d1 df1 d2 df2
  refine (new_any id f x pp sp se n pr (some ⟨b1, 0, none⟩) (some ⟨b2, 0, none⟩) lg lg la la _).mono ?_
  rintro e w' ⟨rfl, hw'⟩
  obtain ⟨B, hBB⟩ : ∃ B, B = w6.heap.size := ⟨_, rfl⟩
  have hP9 : PS w' B (pcells id n f x pr pp sp (.slice (some ⟨b1, 0, none⟩) lg lg) (.slice (some ⟨b2, 0, none⟩) la la) (.slice none 0 0) 0 se (.slice none 0 0) (.slice none 0 0)) := by rw [hw']; exact PS_new w6 _ 50 _ hBB
  have hB9 : Below w6.heap.size w6 w' := by rw [hw']; exact (Below.refl _ _).alloc (Nat.le_refl _) _
  rw [← hBB] at hB9 ⊢
  have hbb1 : b1 < B := by omega
  have hbb2 : b2 < B := by omega
  have hdd1 : D1 < B := by omega
  have hwB : w.heap.size ≤ B := by omega
  have HD19 : Hid (PS w' D1 (sc x1 p1 q1 s1 e1)) := PS_below HD1.out hB9 hdd1
  have hL19 : Long w' b1 0 lg got := Long_below HL16.out hB9 hbb1
  have hL29 : Long w' b2 0 la at' := Long_below HL26.out hB9 hbb2
  have hBw9 : Below w.heap.size w w' := hBw6.trans (hB9.mono hwB)
  have hroom9 : Room w' B (.slice none 0 0) := ⟨none, 0, 0, [], rfl, World.ownsRow_nil _ _ _ _⟩
  have hset := (settle_call HE.out B id 0 (r - 1) x pp sp se pr b1 lg b2 la _ _ _ _ hP9 hroom9 hbb1 hbb2 hL19 hL29 (by omega) (by omega) HR1.out).mono (R' := fun e w1 => e = .returned (.tuple #[]) ∧ ∃ vr, PS w1 B (pcells id n f x1 p1 q1 s1 (.slice (some ⟨b1, 0, none⟩) lg lg) (.slice (some ⟨b2, 0, none⟩) la la) vr 0 e1 (.slice none 0 0) (.slice none 0 0)) ∧ Below B w' w1) (fun e w1 ⟨he, vr, hq, _, hb⟩ => ⟨he, vr, hq, hb⟩)
  have hn65 : n ≤ 65536 := by omega
  have hsend := send_three B n id f x1 q1 s1 0 e1 r p1 _ _ w' hset h1 h1' hn hn65 HST.out HK.out
  have HSend : Hid (Calls Try.prog 8 #[.pointer (some ⟨B, 0, none⟩), .int .i64 r] w' fun e w2 => Sent w' B n id f p1 x1 q1 s1 e1 r (.slice (some ⟨b1, 0, none⟩) lg lg) (.slice (some ⟨b2, 0, none⟩) la la) x1 e w2) := hsend
  clear hsend hset hw' hBB hP9 hB9 hroom9 hL19 hL29 HD1 HL16 HL26 hBw6 hs1 hs2 hs3 hs4 hs5 hs6 hb1a hb1b hb2a hb2b hb3a hb3b hb4a hb4b HR1
  go_wp2_with fail
  refine HSend.out.mono ?_
  rintro e wS ⟨a, cap, I, vr, rfl, hBI, hown, hI, hPS, hBS⟩
  have HOwn : Hid (wS.ownsRow (B + 1) 31 2 (.slice a (rl id n).length cap) (rl id n).length (ml (.slice (some ⟨I, 0, none⟩) 1 1) (rl id n))) := hown
  have HI : Hid (PS wS I (icells x1)) := hI
  have HPS : Hid (PS wS B (pcells id n f x1 p1 q1 s1 (.slice (some ⟨b1, 0, none⟩) lg lg) (.slice (some ⟨b2, 0, none⟩) la la) vr r e1 (.slice (some ⟨I, 0, none⟩) 1 1) (.slice a (rl id n).length cap))) := hPS
  have hD1S := PS_below HD19.out hBS hdd1
  have hBwS : Below w.heap.size w wS := hBw9.trans (hBS.mono hwB)
  obtain ⟨d0, df0⟩ := hD1S 0 _ rfl
  obtain ⟨d1, df1⟩ := hD1S 1 _ rfl
  obtain ⟨d2, df2⟩ := hD1S 2 _ rfl
  obtain ⟨d3, df3⟩ := hD1S 3 _ rfl
  obtain ⟨d4, df4⟩ := hD1S 4 _ rfl
  have hlen := rl_le id n
  obtain ⟨L, hL⟩ : ∃ L, L = (rl id n).length := ⟨_, rfl⟩
  rw [← hL] at HOwn HPS hlen ⊢
  have HL : Hid (L = (rl id n).length) := hL
  clear hown hI hPS hD1S hBS hBw9 HD19 HSend hL
  go_wp2_with fail
  refine (state_any B n id f x1 q1 s1 r e1 p1 _ _ _ _ _ _ HPS.out).mono ?_
  rintro e wb ⟨rfl, nd, hwb⟩
  subst wb
  go_wp2
  obtain ⟨wm, hwm, hBm, hOm, hIm⟩ : ∃ wm : World, wm = wS.drewN nd ∧ Below w.heap.size w wm ∧ wm.ownsRow (B + 1) 31 2 (.slice a L cap) L (ml (.slice (some ⟨I, 0, none⟩) 1 1) (rl id n)) ∧ PS wm I (icells x1) := ⟨_, rfl, bel_drewN hBwS _, HOwn.out, HI.out⟩
  rw [← hwm]
  have HOm : Hid (wm.ownsRow (B + 1) 31 2 (.slice a L cap) L (ml (.slice (some ⟨I, 0, none⟩) 1 1) (rl id n))) := hOm
  have HIm : Hid (PS wm I (icells x1)) := hIm
  clear hwm hOm hIm HOwn HI HPS hBwS d0 df0 d1 df1 d2 df2 d3 df3 d4 df4
  go_loopw [37, 38] (fun ti tq wr => ∃ k : Nat, k ≤ n ∧ tq = .int .i64 ((k : Int) + 1) ∧ ti = .int .i64 ((rl id k).length : Int) ∧ Below wm.heap.size wm wr) (fun _ tq _ => n + 1 - (intOf tq).toNat)
  case atStart => exact ⟨0, by omega, by go_num, rfl, Below.refl _ _⟩
  case round =>
    obtain ⟨k, hk, rfl, rfl, hbr⟩ := hrel
    have hlk := rl_le id k
    by_cases hlt : k < n
    · by_cases hid : (k : Int) + 1 = id
      · have hb' : ((k : Int) + 1 == id) = true := by simp [hid]
        have Hr : Hid ((rl id (k + 1)).length = (rl id k).length) := by show (rl id (k + 1)).length = _; simp [rl, hid]
        clear hid
        go_wp2
        go_roundw
        case rel => exact ⟨k + 1, by omega, by go_num, by rw [Hr.out], hbr⟩
        case measure => simp [intOf]; omega
      · have hb' : ((k : Int) + 1 == id) = false := beq_no hid
        have Hr : Hid ((rl id (k + 1)).length = (rl id k).length + 1) := by show (rl id (k + 1)).length = _; simp [rl, hid]
        have hget := rl_get id k n hlt hid
        have hiL : (rl id k).length < L := by rw [HL.out]; exact (List.getElem?_eq_some_iff.1 hget).1
        obtain ⟨g1, rfl, hg1, hg1', hc1⟩ := own_cell HOm.out (by omega)
        obtain ⟨hm1, hm2⟩ := ml_get (.slice (some ⟨I, 0, none⟩) 1 1) _ _ _ hget
        obtain ⟨i, hi⟩ : ∃ i, i = (rl id k).length := ⟨_, rfl⟩
        rw [← hi] at hm1 hm2 hiL hlk Hr ⊢
        have Hi : Hid (i = (rl id k).length) := hi
        clear hid hi hget
        have m1 : wr.cell? ⟨g1, i * 2, none⟩ = some (.int .i64 ((k : Int) + 1)) := (hbr.cell (by exact hg1')).trans (hc1 _ _ hm1)
        have m2 : wr.cell? ⟨g1, i * 2 + 1, none⟩ = some (.slice (some ⟨I, 0, none⟩) 1 1) := (hbr.cell (by exact hg1')).trans (hc1 _ _ hm2)
        have hIs := World.block_lt_of_cell? wm _ (HIm.out 0 _ rfl).1
        have hIr : PS wr I (icells x1) := PS_below HIm.out hbr hIs
        obtain ⟨i1, _⟩ := hIr 0 _ rfl
        obtain ⟨i2, _⟩ := hIr 1 _ rfl
        obtain ⟨i3, _⟩ := hIr 2 _ rfl
        have hIl : I < wr.heap.size := World.block_lt_of_cell? wr _ i1
        have hg1l : g1 < wr.heap.size := World.block_lt_of_cell? wr _ m1
        clear hIr hm1 hm2 hc1
        go_wp2
        go_roundw
        case rel => exact ⟨k + 1, by omega, by go_num, by rw [Hr.out]; go_num, hbr.alloc hbr.size _⟩
        case measure => simp [intOf]; omega
    · obtain rfl : k = n := by omega
      have HL2 : Hid ((rl id k).length = L) := HL.out.symm
      go_wp2
      go_ret
      exact ⟨by rw [HL2.out]; simp, hBm.trans (hbr.mono hBm.size)⟩

set_option maxRecDepth 100000 in
set_option maxHeartbeats 2000000 in
theorem law8_none (n lg cg la ca bg og ba oa : Nat) (id f x pp sp se r : Int) (pr : Bool) (got at' : Nat → Int) (w : World) (E : Env n lg la f got at') (hg : Long w bg og lg got) (ha : Long w ba oa la at')
    (hx : (Lit.int .i64 x).wf = true) (hp : (Lit.int .i64 pp).wf = true) (h1 : 1 ≤ r) (h1' : r ≤ 9223372036854775807) (hs : stp r = 3) (hk : ¬ id = kg r n) :
    Calls Try.prog 5 #[.int .i64 id, .int .i64 (n : Int), .int .i64 f, .int .i64 x, .bool pr, .int .i64 pp, .int .i64 sp, .slice (some ⟨bg, og, none⟩) lg cg, .slice (some ⟨ba, oa, none⟩) la ca, .int .i64 se, .int .i64 r] w
      fun e w' => e = .returned (.bool true) ∧ Below w.heap.size w w' := by
  have hstg : stg r = stp r := stg_pos (by omega)
  have h33 : 3 ≤ r := by unfold stp at hs; omega
  have t1 : (stg r == 1) = false := by rw [hstg, hs]; rfl
  have t2 : (stg r == 2) = false := by rw [hstg, hs]; rfl
  have t3 : (stg r == 3) = true := by rw [hstg, hs]; rfl
  have HST : Hid (stp r = 3) := hs
  clear hstg hs
  have ek : (id == kg r n) = false := beq_no hk
  have HK : Hid (¬ id = kg r n) := hk
  clear hk
  have HE : Hid (Env n lg la f got at') := E
  have hn := E.hn
  have hlg := E.hlg
  have hla := E.hla
  have hlg2 := E.hlg2
  have hla2 := E.hla2
  have hf := E.hf
  have hf2 := E.hf2
  have hbg : bg < w.heap.size := World.block_lt_of_cell? w _ (hg 0 (by omega))
  have hba : ba < w.heap.size := World.block_lt_of_cell? w _ (ha 0 (by omega))
  have HG : Hid (Long w bg og lg got) := hg
  have HA : Hid (Long w ba oa la at') := ha
  have HX : Hid ((Lit.int .i64 x).wf = true) := hx
  have HPP : Hid ((Lit.int .i64 pp).wf = true) := hp
  clear E hg ha hx hp
  go_enter Try.func5, Try.ntmps5
  go_wp2_with (first | (go_at_call 11; go_in) | fail)
  refine (clone_got bg og lg cg got _ hlg2 HG.out).mono ?_
  rintro e w1 ⟨b1, rfl, hb1a, hb1b, hl1, hB1⟩
  have HA1 : Hid (Long w1 ba oa la at') := Long_below HA.out hB1 hba
  have HL1 : Hid (Long w1 b1 0 lg got) := hl1
  have hs1 := hB1.size
  clear HG HA hl1
  go_wp2_with fail
  refine (clone_at ba oa la ca at' _ hla2 HA1.out).mono ?_
  rintro e w2 ⟨b2, rfl, hb2a, hb2b, hl2, hB2⟩
  have HL12 : Hid (Long w2 b1 0 lg got) := Long_below HL1.out hB2 hb1b
  have HL2 : Hid (Long w2 b2 0 la at') := hl2
  have hs2 := hB2.size
  clear HA1 HL1 hl2
  go_wp2_with fail
  refine (clone_got b1 0 lg lg got _ hlg2 HL12.out).mono ?_
  rintro e w3 ⟨b3, rfl, hb3a, hb3b, hl3, hB3⟩
  have HL13 : Hid (Long w3 b1 0 lg got) := Long_below HL12.out hB3 (by omega)
  have HL23 : Hid (Long w3 b2 0 la at') := Long_below HL2.out hB3 hb2b
  have HL3 : Hid (Long w3 b3 0 lg got) := hl3
  have hs3 := hB3.size
  clear HL12 HL2 hl3
  go_wp2_with fail
  refine (clone_at b2 0 la la at' _ hla2 HL23.out).mono ?_
  rintro e w4 ⟨b4, rfl, hb4a, hb4b, hl4, hB4⟩
  have HL14 : Hid (Long w4 b1 0 lg got) := Long_below HL13.out hB4 (by omega)
  have HL24 : Hid (Long w4 b2 0 la at') := Long_below HL23.out hB4 (by omega)
  have HL34 : Hid (Long w4 b3 0 lg got) := Long_below HL3.out hB4 hb3b
  have HL4 : Hid (Long w4 b4 0 la at') := hl4
  have hs4 := hB4.size
  have hBw4 : Below w.heap.size w w4 := ((hB1.trans (hB2.mono hs1)).trans (hB3.mono (by omega))).trans (hB4.mono (by omega))
  clear HL13 HL23 HL3 hl4 hB1 hB2 hB3 hB4
  go_wp2_with fail
  refine (model_call HE.out (r - 1) x pp sp se pr b3 lg b4 la _ HL34.out HL4.out (by omega) (by omega) HX.out HPP.out).mono ?_
  rintro e w5 ⟨x1, p1, q1, s1, e1, hR1, hx1, hq1, rfl, hB5⟩
  have HR1 : Hid (Rule n f got at' (r - 1) ⟨x, pr, pp, sp, se⟩ ⟨x1, p1, q1, s1, e1⟩) := hR1
  have HX1 : Hid ((Lit.int .i64 x1).wf = true) := hx1
  have HQ1 : Hid ((Lit.int .i64 q1).wf = true) := hq1
  clear hR1 hx1 hq1
  go_wp2_with fail
  obtain ⟨w6, hw6, hB6, hD1, hs6⟩ : ∃ w6 : World, w6 = w5.alloc (.cells #[.int .i64 x1, .bool p1, .int .i64 q1, .int .i64 s1, .int .i64 e1] 42) ∧ Below w4.heap.size w4 w6 ∧ PS w6 w5.heap.size (sc x1 p1 q1 s1 e1) ∧ w5.heap.size < w6.heap.size :=
    ⟨_, rfl, hB5.alloc hB5.size _, PS_new w5 (sc x1 p1 q1 s1 e1) 42 _ rfl, by simp⟩
  rw [← hw6]
  have hs5 := hB5.size
  have HD1 : Hid (PS w6 w5.heap.size (sc x1 p1 q1 s1 e1)) := hD1
  obtain ⟨D1, hDD1⟩ : ∃ D1, D1 = w5.heap.size := ⟨_, rfl⟩
  rw [← hDD1] at HD1 hs6 hs5 ⊢
  have HL16 : Hid (Long w6 b1 0 lg got) := Long_below HL14.out hB6 (by omega)
  have HL26 : Hid (Long w6 b2 0 la at') := Long_below HL24.out hB6 (by omega)
  have hBw6 : Below w.heap.size w w6 := hBw4.trans (hB6.mono (by omega))
  clear hw6 hD1 hDD1 hB5 hB6 HL14 HL24 HL34 HL4 hBw4
  clear HX1 HQ1
  refine (stepOf_any r _ (by omega) h1').mono ?_
  rintro e w' ⟨rfl, hw'⟩
  subst w'
  obtain ⟨d0, df0⟩ := HD1.out 0 _ rfl
  obtain ⟨d1, df1⟩ := HD1.out 1 _ rfl
  obtain ⟨d2, df2⟩ := HD1.out 2 _ rfl
  go_wp2_with fail
  refine (third_any r n _ h33 h1' HST.out (by omega) (by omega)).mono ?_
  rintro e w' ⟨rfl, hw'⟩
  subst w'
  go_wp2_with fail
  clear d0 df0 d1 df1 d2 df2
  refine (new_any id f x pp sp se n pr (some ⟨b1, 0, none⟩) (some ⟨b2, 0, none⟩) lg lg la la _).mono ?_
  rintro e w' ⟨rfl, hw'⟩
  obtain ⟨B, hBB⟩ : ∃ B, B = w6.heap.size := ⟨_, rfl⟩
  have hP9 : PS w' B (pcells id n f x pr pp sp (.slice (some ⟨b1, 0, none⟩) lg lg) (.slice (some ⟨b2, 0, none⟩) la la) (.slice none 0 0) 0 se (.slice none 0 0) (.slice none 0 0)) := by rw [hw']; exact PS_new w6 _ 50 _ hBB
  have hB9 : Below w6.heap.size w6 w' := by rw [hw']; exact (Below.refl _ _).alloc (Nat.le_refl _) _
  rw [← hBB] at hB9 ⊢
  have hbb1 : b1 < B := by omega
  have hbb2 : b2 < B := by omega
  have hdd1 : D1 < B := by omega
  have hwB : w.heap.size ≤ B := by omega
  have HD19 : Hid (PS w' D1 (sc x1 p1 q1 s1 e1)) := PS_below HD1.out hB9 hdd1
  have hL19 : Long w' b1 0 lg got := Long_below HL16.out hB9 hbb1
  have hL29 : Long w' b2 0 la at' := Long_below HL26.out hB9 hbb2
  have hBw9 : Below w.heap.size w w' := hBw6.trans (hB9.mono hwB)
  have hroom9 : Room w' B (.slice none 0 0) := ⟨none, 0, 0, [], rfl, World.ownsRow_nil _ _ _ _⟩
  have hset := (settle_call HE.out B id 0 (r - 1) x pp sp se pr b1 lg b2 la _ _ _ _ hP9 hroom9 hbb1 hbb2 hL19 hL29 (by omega) (by omega) HR1.out).mono (R' := fun e w1 => e = .returned (.tuple #[]) ∧ ∃ vr, PS w1 B (pcells id n f x1 p1 q1 s1 (.slice (some ⟨b1, 0, none⟩) lg lg) (.slice (some ⟨b2, 0, none⟩) la la) vr 0 e1 (.slice none 0 0) (.slice none 0 0)) ∧ Below B w' w1) (fun e w1 ⟨he, vr, hq, _, hb⟩ => ⟨he, vr, hq, hb⟩)
  have hn65 : n ≤ 65536 := by omega
  have hsend := send_three_no B n id f x1 q1 s1 0 e1 r p1 _ _ w' hset h1 h1' hn hn65 HST.out HK.out
  have HSend : Hid (Calls Try.prog 8 #[.pointer (some ⟨B, 0, none⟩), .int .i64 r] w' fun e w2 => e = .returned (.slice none 0 0) ∧ (∃ vr, PS w2 B (pcells id n f x1 p1 q1 s1 (.slice (some ⟨b1, 0, none⟩) lg lg) (.slice (some ⟨b2, 0, none⟩) la la) vr r e1 (.slice none 0 0) (.slice none 0 0))) ∧ Below B w' w2) := hsend
  clear hsend hset hw' hBB hP9 hB9 hroom9 hL19 hL29 HD1 HL16 HL26 hBw6 hs1 hs2 hs3 hs4 hs5 hs6 hb1a hb1b hb2a hb2b hb3a hb3b hb4a hb4b HR1
  go_wp2_with fail
  refine HSend.out.mono ?_
  rintro e wS ⟨rfl, ⟨vr, hPS⟩, hBS⟩
  have HPS : Hid (PS wS B (pcells id n f x1 p1 q1 s1 (.slice (some ⟨b1, 0, none⟩) lg lg) (.slice (some ⟨b2, 0, none⟩) la la) vr r e1 (.slice none 0 0) (.slice none 0 0))) := hPS
  have hD1S := PS_below HD19.out hBS hdd1
  have hBwS : Below w.heap.size w wS := hBw9.trans (hBS.mono hwB)
  obtain ⟨d0, df0⟩ := hD1S 0 _ rfl
  obtain ⟨d1, df1⟩ := hD1S 1 _ rfl
  obtain ⟨d2, df2⟩ := hD1S 2 _ rfl
  obtain ⟨d3, df3⟩ := hD1S 3 _ rfl
  obtain ⟨d4, df4⟩ := hD1S 4 _ rfl
  clear hPS hD1S hBS hBw9 HD19 HSend
  go_wp2_with fail
  refine (state_any B n id f x1 q1 s1 r e1 p1 _ _ _ _ _ _ HPS.out).mono ?_
  rintro e wb ⟨rfl, nd, hwb⟩
  subst wb
  go_wp2
  go_ret
  exact ⟨rfl, bel_drewN hBwS _⟩

theorem law8_in (n lg cg la ca bg og ba oa : Nat) (id f x pp sp se r : Int) (pr : Bool) (got at' : Nat → Int) (w : World) (E : Env n lg la f got at') (hg : Long w bg og lg got) (ha : Long w ba oa la at')
    (hx : (Lit.int .i64 x).wf = true) (hp : (Lit.int .i64 pp).wf = true) (h1 : 1 ≤ r) (h1' : r ≤ 9223372036854775807) :
    Calls Try.prog 5 #[.int .i64 id, .int .i64 (n : Int), .int .i64 f, .int .i64 x, .bool pr, .int .i64 pp, .int .i64 sp, .slice (some ⟨bg, og, none⟩) lg cg, .slice (some ⟨ba, oa, none⟩) la ca, .int .i64 se, .int .i64 r] w
      fun e w' => e = .returned (.bool true) ∧ Below w.heap.size w w' := by
  rcases (show stp r = 1 ∨ stp r = 2 ∨ stp r = 3 by unfold stp; omega) with h | h | h
  · exact law8_one n lg cg la ca bg og ba oa id f x pp sp se r pr got at' w E hg ha hx hp h1 h1' h
  · exact law8_two n lg cg la ca bg og ba oa id f x pp sp se r pr got at' w E hg ha hx hp h1 h1' h
  · by_cases hk : id = kg r n
    · exact law8_king n lg cg la ca bg og ba oa id f x pp sp se r pr got at' w E hg ha hx hp h1 h1' h hk
    · exact law8_none n lg cg la ca bg og ba oa id f x pp sp se r pr got at' w E hg ha hx hp h1 h1' h hk

end Go.Proofs.Qxb6619470a
