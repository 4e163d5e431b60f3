import Derived.Test.Qxb6619470aClone
namespace Go.Proofs.Qxb6619470a
open Go.RowKit
open Go.Proofs.Qxb6619470a.Mode
set_option linter.unusedVariables false

/-- The first 'N' cells of block 'b' from 'off' on hold 'g'. -/
def Long (w : World) (b off N : Nat) (g : Nat → Int) : Prop := ∀ k, k < N → w.cell? ⟨b, off + k, none⟩ = some (.int .i64 (g k))
theorem Long_below {w w' : World} {b off N M : Nat} {g : Nat → Int} (h : Long w b off N g) (hb : Below M w w') (hM : b < M) : Long w' b off N g :=
  fun k hk => (hb.cell (by exact hM)).trans (h k hk)
theorem Long_row {w : World} {b N n : Nat} {g : Nat → Int} (h : Long w b 0 N g) (hn : n < N) : Row w b n g := fun q hq => by
  have := h q (by omega)
  rwa [Nat.zero_add] at this

theorem clone_got (b off N cap : Nat) (g : Nat → Int) (w : World) (hN : N ≤ 65536) (hc : Long w b off N g) :
    Calls Try.prog 12 #[.slice (some ⟨b, off, none⟩) N cap] w fun e w' => ∃ d, e = .returned (.slice (some ⟨d, 0, none⟩) N N) ∧ w.heap.size ≤ d ∧ d < w'.heap.size ∧ Long w' d 0 N g ∧ Below w.heap.size w w' :=
  (clone37 b off N cap g w hN hc).mono fun e w' ⟨he, hw⟩ => ⟨w.heap.size, he, Nat.le_refl _, by rw [hw]; simp, by rw [hw]; exact fun k hk => by rw [World.cell?_alloc_at _ _ _ _ rfl, Nat.zero_add]; exact Ci_get g N k hk, by rw [hw]; exact (Below.refl _ _).alloc (Nat.le_refl _) _⟩
theorem clone_at (b off N cap : Nat) (g : Nat → Int) (w : World) (hN : N ≤ 65536) (hc : Long w b off N g) :
    Calls Try.prog 13 #[.slice (some ⟨b, off, none⟩) N cap] w fun e w' => ∃ d, e = .returned (.slice (some ⟨d, 0, none⟩) N N) ∧ w.heap.size ≤ d ∧ d < w'.heap.size ∧ Long w' d 0 N g ∧ Below w.heap.size w w' :=
  (clone26 b off N cap g w hN hc).mono fun e w' ⟨he, hw⟩ => ⟨w.heap.size, he, Nat.le_refl _, by rw [hw]; simp, by rw [hw]; exact fun k hk => by rw [World.cell?_alloc_at _ _ _ _ rfl, Nat.zero_add]; exact Ci_get g N k hk, by rw [hw]; exact (Below.refl _ _).alloc (Nat.le_refl _) _⟩

/-- All that the settling of a process of n leans on, in one word. -/
structure Env (n lg la : Nat) (f : Int) (got at' : Nat → Int) : Prop where
  hn : 1 ≤ n
  hlg : n < lg
  hla : n < la
  hlg2 : lg ≤ 65536
  hla2 : la ≤ 65536
  hf : 0 ≤ f
  hf2 : f ≤ n
  hwg : ∀ q, q ≤ n → (Lit.int .i64 (got q)).wf = true

/-- The rule, at a round. -/
def Rule (n : Nat) (f : Int) (got at' : Nat → Int) (round : Int) (s t : St) : Prop := SR n f got at' round (stg round) (kk round n) s t

theorem model_call {n lg la : Nat} {f : Int} {got at' : Nat → Int} (E : Env n lg la f got at') (round x pp sp se : Int) (pr : Bool) (bg cg ba ca : Nat) (w : World) (hg : Long w bg 0 lg got) (ha : Long w ba 0 la at')
    (h0 : 0 ≤ round) (h2 : round ≤ 9223372036854775807) (hwx : (Lit.int .i64 x).wf = true) (hwp : (Lit.int .i64 pp).wf = true) :
    Calls Try.prog 14 #[.agg #[.int .i64 x, .bool pr, .int .i64 pp, .int .i64 sp, .int .i64 se], .int .i64 (n : Int), .int .i64 f, .slice (some ⟨bg, 0, none⟩) lg cg, .slice (some ⟨ba, 0, none⟩) la ca, .int .i64 round] w
      fun e w' => ∃ (x' : Int) (pr' : Bool) (pp' sp' se' : Int), Rule n f got at' round ⟨x, pr, pp, sp, se⟩ ⟨x', pr', pp', sp', se'⟩ ∧ (Lit.int .i64 x').wf = true ∧ (Lit.int .i64 pp').wf = true ∧
        e = .returned (.agg #[.int .i64 x', .bool pr', .int .i64 pp', .int .i64 sp', .int .i64 se']) ∧ Below w.heap.size w w' := by
  have hn2 : n ≤ 65536 := by have := E.hlg; have := E.hlg2; omega
  refine (settleModel_any n f round ⟨x, pr, pp, sp, se⟩ bg lg cg ba la ca got at' w E.hn hn2 E.hlg E.hla E.hlg2 E.hla2 (Long_row hg E.hlg) (Long_row ha E.hla) E.hf E.hf2 h0 h2 hwx hwp E.hwg).mono ?_
  rintro e w' ⟨⟨x', pr', pp', sp', se'⟩, hS, he, hb⟩
  have hk := SR_keeps (W := fun z => (Lit.int .i64 z).wf = true) (kk_eq round n E.hn).2 (by decide) E.hwg hwx hwp hS
  exact ⟨x', pr', pp', sp', se', hS, hk.1, hk.2, he, hb⟩

theorem settle_call {n lg la : Nat} {f : Int} {got at' : Nat → Int} (E : Env n lg la f got at') (B : Nat) (id rd round x pp sp se : Int) (pr : Bool) (bg cg ba ca : Nat) (vr vi vo : Value) (w : World)
    (hP : PS w B (pcells id n f x pr pp sp (.slice (some ⟨bg, 0, none⟩) lg cg) (.slice (some ⟨ba, 0, none⟩) la ca) vr rd se vi vo)) (hroom : Room w B vr) (hbg : bg < B) (hba : ba < B) (hg : Long w bg 0 lg got) (ha : Long w ba 0 la at')
    (h0 : 0 ≤ round) (h2 : round ≤ 9223372036854775807) {x' : Int} {pr' : Bool} {pp' sp' se' : Int} (hR : Rule n f got at' round ⟨x, pr, pp, sp, se⟩ ⟨x', pr', pp', sp', se'⟩) :
    Calls Try.prog 19 #[.pointer (some ⟨B, 0, none⟩), .int .i64 round] w fun e w' => e = .returned (.tuple #[]) ∧ ∃ vr', PS w' B (pcells id n f x' pr' pp' sp' (.slice (some ⟨bg, 0, none⟩) lg cg) (.slice (some ⟨ba, 0, none⟩) la ca) vr' rd se' vi vo) ∧ Room w' B vr' ∧ Below B w w' := by
  have hn2 : n ≤ 65536 := by have := E.hlg; have := E.hlg2; omega
  refine (settle_any B n id f rd round ⟨x, pr, pp, sp, se⟩ bg lg cg ba la ca got at' vr vi vo w hP hroom E.hn hn2 E.hlg E.hla E.hlg2 E.hla2 hbg hba (Long_row hg E.hlg) (Long_row ha E.hla) E.hf E.hf2 h0 h2).mono ?_
  rintro e w' ⟨t, hS, he, vr', h1, h2, h3⟩
  have := SR_unique hS hR
  subst this
  exact ⟨he, vr', h2, h1, h3⟩

set_option maxRecDepth 100000 in
set_option maxHeartbeats 2000000 in
/-- Out of range: the law says nothing. -/
theorem law7_out (n f x pp sp se r1 r2 : Int) (pr : Bool) (ag aa : Option Addr) (lg cg la ca : Nat) (w : World) (hlg : lg ≤ maxLen) (hla : la ≤ maxLen)
    (h : 65536 < lg ∨ 65536 < la ∨ n < 1 ∨ (lg : Int) ≤ n ∨ (la : Int) ≤ n ∨ f < 0 ∨ n < f ∨ r1 < 0 ∨ r2 < 0) :
    Calls Try.prog 6 #[.int .i64 n, .int .i64 f, .int .i64 x, .bool pr, .int .i64 pp, .int .i64 sp, .slice ag lg cg, .slice aa la ca, .int .i64 se, .int .i64 r1, .int .i64 r2] w fun e w' => e = .returned (.bool true) ∧ w' = w := by
  unfold maxLen at hlg hla
  by_cases k1 : 65536 < lg
  · clear h; go_enter Try.func6, Try.ntmps6; go_wp2; all_goals (go_ret; exact ⟨rfl, rfl⟩)
  by_cases k2 : 65536 < la
  · clear h; go_enter Try.func6, Try.ntmps6; go_wp2; all_goals (go_ret; exact ⟨rfl, rfl⟩)
  by_cases k3 : n < 1
  · clear h; go_enter Try.func6, Try.ntmps6; go_wp2; all_goals (go_ret; exact ⟨rfl, rfl⟩)
  by_cases k4 : (lg : Int) ≤ n
  · clear h; go_enter Try.func6, Try.ntmps6; go_wp2; all_goals (go_ret; exact ⟨rfl, rfl⟩)
  by_cases k5 : (la : Int) ≤ n
  · clear h; go_enter Try.func6, Try.ntmps6; go_wp2; all_goals (go_ret; exact ⟨rfl, rfl⟩)
  by_cases k6 : f < 0
  · clear h; go_enter Try.func6, Try.ntmps6; go_wp2; all_goals (go_ret; exact ⟨rfl, rfl⟩)
  by_cases k7 : n < f
  · clear h; go_enter Try.func6, Try.ntmps6; go_wp2; all_goals (go_ret; exact ⟨rfl, rfl⟩)
  by_cases k8 : r1 < 0
  · clear h; go_enter Try.func6, Try.ntmps6; go_wp2; all_goals (go_ret; exact ⟨rfl, rfl⟩)
  have k9 : r2 < 0 := by omega
  clear h; go_enter Try.func6, Try.ntmps6; go_wp2; all_goals (go_ret; exact ⟨rfl, rfl⟩)

set_option maxRecDepth 100000 in
set_option maxHeartbeats 2000000 in
theorem law7_in (n lg cg la ca bg og ba oa : Nat) (f x pp sp se r1 r2 : Int) (pr : Bool) (got at' : Nat → Int) (w : World) (E : Env n lg la f got at') (hg : Long w bg og lg got) (ha : Long w ba oa la at')
    (hx : (Lit.int .i64 x).wf = true) (hp : (Lit.int .i64 pp).wf = true) (h1 : 0 ≤ r1) (h1' : r1 ≤ 9223372036854775807) (h2 : 0 ≤ r2) (h2' : r2 ≤ 9223372036854775807) :
    Calls Try.prog 6 #[.int .i64 (n : Int), .int .i64 f, .int .i64 x, .bool pr, .int .i64 pp, .int .i64 sp, .slice (some ⟨bg, og, none⟩) lg cg, .slice (some ⟨ba, oa, none⟩) la ca, .int .i64 se, .int .i64 r1, .int .i64 r2] w
      fun e w' => e = .returned (.bool true) ∧ Below w.heap.size w w' := by
  have HE : Hid (Env n lg la f got at') := E
  have hn := E.hn
  have hlg := E.hlg
  have hla := E.hla
  have hlg2 := E.hlg2
  have hla2 := E.hla2
  have hf := E.hf
  have hf2 := E.hf2
  have hbg : bg < w.heap.size := World.block_lt_of_cell? w _ (hg 0 (by omega))
  have hba : ba < w.heap.size := World.block_lt_of_cell? w _ (ha 0 (by omega))
  have HG : Hid (Long w bg og lg got) := hg
  have HA : Hid (Long w ba oa la at') := ha
  have HX : Hid ((Lit.int .i64 x).wf = true) := hx
  have HPP : Hid ((Lit.int .i64 pp).wf = true) := hp
  clear E hg ha hx hp
  go_enter Try.func6, Try.ntmps6
  go_wp2_with (first | (go_at_call 17; go_in) | fail)
  refine (clone_got bg og lg cg got _ hlg2 HG.out).mono ?_
  rintro e w1 ⟨b1, rfl, hb1a, hb1b, hl1, hB1⟩
  have HA1 : Hid (Long w1 ba oa la at') := Long_below HA.out hB1 hba
  have HL1 : Hid (Long w1 b1 0 lg got) := hl1
  have hs1 := hB1.size
  clear HG HA hl1
  go_wp2_with fail
  refine (clone_at ba oa la ca at' _ hla2 HA1.out).mono ?_
  rintro e w2 ⟨b2, rfl, hb2a, hb2b, hl2, hB2⟩
  have HL12 : Hid (Long w2 b1 0 lg got) := Long_below HL1.out hB2 hb1b
  have HL2 : Hid (Long w2 b2 0 la at') := hl2
  have hs2 := hB2.size
  clear HA1 HL1 hl2
  go_wp2_with fail
  refine (clone_got b1 0 lg lg got _ hlg2 HL12.out).mono ?_
  rintro e w3 ⟨b3, rfl, hb3a, hb3b, hl3, hB3⟩
  have HL13 : Hid (Long w3 b1 0 lg got) := Long_below HL12.out hB3 (by omega)
  have HL23 : Hid (Long w3 b2 0 la at') := Long_below HL2.out hB3 hb2b
  have HL3 : Hid (Long w3 b3 0 lg got) := hl3
  have hs3 := hB3.size
  clear HL12 HL2 hl3
  go_wp2_with fail
  refine (clone_at b2 0 la la at' _ hla2 HL23.out).mono ?_
  rintro e w4 ⟨b4, rfl, hb4a, hb4b, hl4, hB4⟩
  have HL14 : Hid (Long w4 b1 0 lg got) := Long_below HL13.out hB4 (by omega)
  have HL24 : Hid (Long w4 b2 0 la at') := Long_below HL23.out hB4 (by omega)
  have HL34 : Hid (Long w4 b3 0 lg got) := Long_below HL3.out hB4 hb3b
  have HL4 : Hid (Long w4 b4 0 la at') := hl4
  have hs4 := hB4.size
  have hBw4 : Below w.heap.size w w4 := ((hB1.trans (hB2.mono hs1)).trans (hB3.mono (by omega))).trans (hB4.mono (by omega))
  clear HL13 HL23 HL3 hl4 hB1 hB2 hB3 hB4
  go_wp2_with fail
  refine (model_call HE.out r1 x pp sp se pr b3 lg b4 la _ HL34.out HL4.out h1 h1' HX.out HPP.out).mono ?_
  rintro e w5 ⟨x1, p1, q1, s1, e1, hR1, hx1, hq1, rfl, hB5⟩
  have HR1 : Hid (Rule n f got at' r1 ⟨x, pr, pp, sp, se⟩ ⟨x1, p1, q1, s1, e1⟩) := hR1
  have HX1 : Hid ((Lit.int .i64 x1).wf = true) := hx1
  have HQ1 : Hid ((Lit.int .i64 q1).wf = true) := hq1
  clear hR1 hx1 hq1
  go_wp2_with fail
  obtain ⟨w6, hw6, hB6, hD1, hs6⟩ : ∃ w6 : World, w6 = w5.alloc (.cells #[.int .i64 x1, .bool p1, .int .i64 q1, .int .i64 s1, .int .i64 e1] 42) ∧ Below w4.heap.size w4 w6 ∧ PS w6 w5.heap.size (sc x1 p1 q1 s1 e1) ∧ w5.heap.size < w6.heap.size :=
    ⟨_, rfl, hB5.alloc hB5.size _, PS_new w5 (sc x1 p1 q1 s1 e1) 42 _ rfl, by simp⟩
  rw [← hw6]
  have hs5 := hB5.size
  have HD1 : Hid (PS w6 w5.heap.size (sc x1 p1 q1 s1 e1)) := hD1
  obtain ⟨D1, hDD1⟩ : ∃ D1, D1 = w5.heap.size := ⟨_, rfl⟩
  rw [← hDD1] at HD1 hs6 hs5 ⊢
  have HL16 : Hid (Long w6 b1 0 lg got) := Long_below HL14.out hB6 (by omega)
  have HL26 : Hid (Long w6 b2 0 la at') := Long_below HL24.out hB6 (by omega)
  have HL36 : Hid (Long w6 b3 0 lg got) := Long_below HL34.out hB6 (by omega)
  have HL46 : Hid (Long w6 b4 0 la at') := Long_below HL4.out hB6 (by omega)
  have hBw6 : Below w.heap.size w w6 := hBw4.trans (hB6.mono (by omega))
  clear hw6 hD1 hDD1 hB5 hB6 HL14 HL24 HL34 HL4 hBw4
  refine (model_call HE.out r2 x1 q1 s1 e1 p1 b3 lg b4 la _ HL36.out HL46.out h2 h2' HX1.out HQ1.out).mono ?_
  rintro e w7 ⟨x2, p2, q2, s2, e2, hR2, _, _, rfl, hB7⟩
  have HR2 : Hid (Rule n f got at' r2 ⟨x1, p1, q1, s1, e1⟩ ⟨x2, p2, q2, s2, e2⟩) := hR2
  have hs7 := hB7.size
  clear hR2 HL36 HL46 HX1 HQ1
  go_wp2_with fail
  obtain ⟨w8, hw8, hB8, hD2, hs8⟩ : ∃ w8 : World, w8 = w7.alloc (.cells #[.int .i64 x2, .bool p2, .int .i64 q2, .int .i64 s2, .int .i64 e2] 42) ∧ Below w6.heap.size w6 w8 ∧ PS w8 w7.heap.size (sc x2 p2 q2 s2 e2) ∧ w7.heap.size < w8.heap.size :=
    ⟨_, rfl, hB7.alloc hB7.size _, PS_new w7 (sc x2 p2 q2 s2 e2) 42 _ rfl, by simp⟩
  rw [← hw8]
  have HD2 : Hid (PS w8 w7.heap.size (sc x2 p2 q2 s2 e2)) := hD2
  obtain ⟨D2, hDD2⟩ : ∃ D2, D2 = w7.heap.size := ⟨_, rfl⟩
  rw [← hDD2] at HD2 hs8 hs7 ⊢
  have HD18 : Hid (PS w8 D1 (sc x1 p1 q1 s1 e1)) := PS_below HD1.out hB8 hs6
  have HL18 : Hid (Long w8 b1 0 lg got) := Long_below HL16.out hB8 (by omega)
  have HL28 : Hid (Long w8 b2 0 la at') := Long_below HL26.out hB8 (by omega)
  have hBw8 : Below w.heap.size w w8 := hBw6.trans (hB8.mono (by omega))
  clear hw8 hD2 hDD2 hB7 hB8 HD1 HL16 HL26 hBw6
  refine (new_any 1 f x pp sp se n pr (some ⟨b1, 0, none⟩) (some ⟨b2, 0, none⟩) lg lg la la _).mono ?_
  rintro e w' ⟨rfl, hw'⟩
  obtain ⟨B, hBB⟩ : ∃ B, B = w8.heap.size := ⟨_, rfl⟩
  have hP9 : PS w' B (pcells 1 n f x pr pp sp (.slice (some ⟨b1, 0, none⟩) lg lg) (.slice (some ⟨b2, 0, none⟩) la la) (.slice none 0 0) 0 se (.slice none 0 0) (.slice none 0 0)) := by rw [hw']; exact PS_new w8 _ 50 _ hBB
  have hB9 : Below w8.heap.size w8 w' := by rw [hw']; exact (Below.refl _ _).alloc (Nat.le_refl _) _
  rw [← hBB] at hB9 ⊢
  have hbb1 : b1 < B := by omega
  have hbb2 : b2 < B := by omega
  have hdd1 : D1 < B := by omega
  have hdd2 : D2 < B := by omega
  have hwB : w.heap.size ≤ B := by omega
  have HP9 : Hid (PS w' B (pcells 1 n f x pr pp sp (.slice (some ⟨b1, 0, none⟩) lg lg) (.slice (some ⟨b2, 0, none⟩) la la) (.slice none 0 0) 0 se (.slice none 0 0) (.slice none 0 0))) := hP9
  have HD19 : Hid (PS w' D1 (sc x1 p1 q1 s1 e1)) := PS_below HD18.out hB9 hdd1
  have HD29 : Hid (PS w' D2 (sc x2 p2 q2 s2 e2)) := PS_below HD2.out hB9 hdd2
  have HL19 : Hid (Long w' b1 0 lg got) := Long_below HL18.out hB9 hbb1
  have HL29 : Hid (Long w' b2 0 la at') := Long_below HL28.out hB9 hbb2
  have hBw9 : Below w.heap.size w w' := hBw8.trans (hB9.mono hwB)
  have hroom9 : Room w' B (.slice none 0 0) := ⟨none, 0, 0, [], rfl, World.ownsRow_nil _ _ _ _⟩
  have HR9 : Hid (Room w' B (.slice none 0 0)) := hroom9
  clear hw' hBB hP9 hB9 hroom9 HD18 HD2 HL18 HL28 hBw8 hs1 hs2 hs3 hs4 hs5 hs6 hs7 hs8 hb1a hb1b hb2a hb2b hb3a hb3b hb4a hb4b
  go_wp2_with fail
  refine (zzSettle_of B r1 _ _ (settle_call HE.out B 1 0 r1 x pp sp se pr b1 lg b2 la _ _ _ _ HP9.out HR9.out hbb1 hbb2 HL19.out HL29.out h1 h1' HR1.out)).mono ?_
  rintro e wa ⟨rfl, vra, hPa, hRa, hBa⟩
  have HPa : Hid (PS wa B (pcells 1 n f x1 p1 q1 s1 (.slice (some ⟨b1, 0, none⟩) lg lg) (.slice (some ⟨b2, 0, none⟩) la la) vra 0 e1 (.slice none 0 0) (.slice none 0 0))) := hPa
  have HRa : Hid (Room wa B vra) := hRa
  have hD1a := PS_below HD19.out hBa hdd1
  have HD2a : Hid (PS wa D2 (sc x2 p2 q2 s2 e2)) := PS_below HD29.out hBa hdd2
  have HL1a : Hid (Long wa b1 0 lg got) := Long_below HL19.out hBa hbb1
  have HL2a : Hid (Long wa b2 0 la at') := Long_below HL29.out hBa hbb2
  have hBwa : Below w.heap.size w wa := hBw9.trans (hBa.mono hwB)
  obtain ⟨d0, _⟩ := hD1a 0 _ rfl
  obtain ⟨d1, _⟩ := hD1a 1 _ rfl
  obtain ⟨d2, _⟩ := hD1a 2 _ rfl
  obtain ⟨d3, _⟩ := hD1a 3 _ rfl
  obtain ⟨d4, _⟩ := hD1a 4 _ rfl
  clear hPa hRa hD1a HP9 HR9 HD19 HD29 HL19 HL29 hBw9 hBa
  go_wp2_with fail
  refine (state_any B n 1 f x1 q1 s1 0 e1 p1 _ _ _ _ _ _ HPa.out).mono ?_
  rintro e wb ⟨rfl, nd, rfl⟩
  go_wp2_with fail
  clear d0 d1 d2 d3 d4
  refine (zzSettle_of B r2 _ _ (settle_call HE.out B 1 0 r2 x1 q1 s1 e1 p1 b1 lg b2 la _ _ _ (wa.drewN nd) HPa.out HRa.out hbb1 hbb2 HL1a.out HL2a.out h2 h2' HR2.out)).mono ?_
  rintro e wc ⟨rfl, vrc, hPc, hRc, hBc⟩
  have HPc : Hid (PS wc B (pcells 1 n f x2 p2 q2 s2 (.slice (some ⟨b1, 0, none⟩) lg lg) (.slice (some ⟨b2, 0, none⟩) la la) vrc 0 e2 (.slice none 0 0) (.slice none 0 0))) := hPc
  have hD2c := PS_below (w := wa.drewN nd) HD2a.out hBc hdd2
  have hBwc : Below w.heap.size w wc := (bel_drewN hBwa nd).trans (hBc.mono hwB)
  obtain ⟨d0, _⟩ := hD2c 0 _ rfl
  obtain ⟨d1, _⟩ := hD2c 1 _ rfl
  obtain ⟨d2, _⟩ := hD2c 2 _ rfl
  obtain ⟨d3, _⟩ := hD2c 3 _ rfl
  obtain ⟨d4, _⟩ := hD2c 4 _ rfl
  clear hPc hRc hD2c HPa HRa HD2a HL1a HL2a hBwa hBc HR1 HR2
  go_wp2_with fail
  refine (state_any B n 1 f x2 q2 s2 0 e2 p2 _ _ _ _ _ _ HPc.out).mono ?_
  rintro e wd ⟨rfl, nd2, rfl⟩
  go_wp2
  go_ret
  exact ⟨by simp, bel_drewN hBwc _⟩

end Go.Proofs.Qxb6619470a
