import Derived.Test.Qxb6619470aSettle
namespace Go.Proofs.Qxb6619470a
open Go.RowKit
open Go.Proofs.Qxb6619470a.Mode
set_option linter.unusedVariables false

/-- Which round of its phase a round is; 0 for round 0. -/
def stg (r : Int) : Int := if r = 0 then 0 else stp r
/-- The king's number. -/
def kk (r : Int) (n : Nat) : Nat := (kg r n).toNat

theorem kk_eq (r : Int) (n : Nat) (hn : 1 ≤ n) : kg r n = (kk r n : Int) ∧ kk r n ≤ n := by
  have := kg_bounds r n (by omega)
  unfold kk
  omega

theorem stepOf_any (r : Int) (w : World) (h1 : 0 ≤ r) (h2 : r ≤ 9223372036854775807) : Calls Try.prog 15 #[.int .i64 r] w fun e w' => e = .returned (.int .i64 (stg r)) ∧ w' = w := by
  by_cases h0 : r = 0
  · subst h0
    go_enter Try.func15, Try.ntmps15
    go_wp2
    go_ret
    exact ⟨rfl, rfl⟩
  · have hs : Hid (stg r = stp r) := by show stg r = _; simp [stg, h0]
    by_cases h3 : r % 3 = 0
    · have hb : (r % 3 == 0) = true := by simp [h3]
      have h4 : Hid (stp r = 3) := by show stp r = 3; unfold stp; omega
      have hpos : 1 ≤ r := by omega
      clear h0 h3
      go_enter Try.func15, Try.ntmps15
      go_wp2
      go_ret
      exact ⟨ret_int (by rw [hs.out, h4.out]), rfl⟩
    · have hb : (r % 3 == 0) = false := beq_no h3
      have h4 : Hid (stp r = r % 3) := by show stp r = _; unfold stp; omega
      have hpos : 1 ≤ r := by omega
      clear h0 h3
      go_enter Try.func15, Try.ntmps15
      go_wp2
      go_ret
      exact ⟨ret_int (by rw [hs.out, h4.out]), rfl⟩

theorem own_below {w w' : World} {M n size : Nat} {e : TypeId} {v : Value} {xs : List Value} (h : w.ownsRow M e size v n xs) (hb : Below w.heap.size w w') : w'.ownsRow M e size v n xs := by
  obtain ⟨h1, h2⟩ := h
  refine ⟨h1, ?_⟩
  rcases h2 with h2 | ⟨g, cap, cur, hv, hg, hh, r⟩
  · exact .inl h2
  · have hl : g < w.heap.size := (Array.getElem?_eq_some_iff.1 hh).1
    exact .inr ⟨g, cap, cur, hv, hg, (hb.block g hl).trans hh, r⟩

/-- What the model's process is, as a value. -/
def stv (t : St) : Value := .agg #[.int .i64 t.x, .bool t.pr, .int .i64 t.pp, .int .i64 t.sp, .int .i64 t.se]
def sc (x : Int) (pr : Bool) (pp sp se : Int) : List Value := [.int .i64 x, .bool pr, .int .i64 pp, .int .i64 sp, .int .i64 se]

set_option maxRecDepth 100000 in
theorem model_done (n : Nat) (f x pp sp se round : Int) (pr : Bool) (bg lg cg ba la ca : Nat) (got at' : Nat → Int) (w : World)
    (hn : 1 ≤ n) (hn2 : n ≤ 65536) (hlg : n < lg) (hla : n < la) (hlg2 : lg ≤ 65536) (hla2 : la ≤ 65536) (hg : Row w bg n got) (ha : Row w ba n at') (hf : 0 ≤ f) (hf2 : f ≤ n)
    (h0 : 0 ≤ round) (h2 : round ≤ 9223372036854775807) (hse : round ≤ se) :
    Calls Try.prog 14 #[.agg #[.int .i64 x, .bool pr, .int .i64 pp, .int .i64 sp, .int .i64 se], .int .i64 (n : Int), .int .i64 f, .slice (some ⟨bg, 0, none⟩) lg cg, .slice (some ⟨ba, 0, none⟩) la ca, .int .i64 round] w fun e w' => e = .returned (.agg #[.int .i64 x, .bool pr, .int .i64 pp, .int .i64 sp, .int .i64 se]) ∧ Below w.heap.size w w' := by
  clear hg ha
  go_enter Try.func14, Try.ntmps14
  go_wp2
  refine bodyPost_ret (v := .agg #[.int .i64 x, .bool pr, .int .i64 pp, .int .i64 sp, .int .i64 se]) (by simp [results, Try.results14, go_sem]) rfl ⟨rfl, ?_⟩
  exact ((Below.refl _ _).alloc (Nat.le_refl _) _).alloc (by simp) _

set_option maxRecDepth 100000 in
set_option maxHeartbeats 400000 in
theorem model_zero (n : Nat) (f x pp sp se round : Int) (pr : Bool) (bg lg cg ba la ca : Nat) (got at' : Nat → Int) (w : World)
    (hn : 1 ≤ n) (hn2 : n ≤ 65536) (hlg : n < lg) (hla : n < la) (hlg2 : lg ≤ 65536) (hla2 : la ≤ 65536) (hg : Row w bg n got) (ha : Row w ba n at') (hf : 0 ≤ f) (hf2 : f ≤ n)
    (h0 : 0 ≤ round) (h2 : round ≤ 9223372036854775807) (hse : se < round) (hst : stg round = 0) :
    Calls Try.prog 14 #[.agg #[.int .i64 x, .bool pr, .int .i64 pp, .int .i64 sp, .int .i64 se], .int .i64 (n : Int), .int .i64 f, .slice (some ⟨bg, 0, none⟩) lg cg, .slice (some ⟨ba, 0, none⟩) la ca, .int .i64 round] w fun e w' => e = .returned (.agg #[.int .i64 x, .bool pr, .int .i64 pp, .int .i64 sp, .int .i64 round]) ∧ Below w.heap.size w w' := by
  have e1 : (stg round == 1) = false := by rw [hst]; rfl
  have e2 : (stg round == 2) = false := by rw [hst]; rfl
  have e3 : (stg round == 3) = false := by rw [hst]; rfl
  clear hst
  have hbg : bg < w.heap.size := World.block_lt_of_cell? w _ (hg 0 (by omega))
  have hba : ba < w.heap.size := World.block_lt_of_cell? w _ (ha 0 (by omega))
  have Hg : Hid (Row w bg n got) := hg
  have Ha : Hid (Row w ba n at') := ha
  clear hg ha
  go_enter Try.func14, Try.ntmps14
  go_wp2_with fail
  refine (stepOf_any round _ h0 h2).mono ?_
  rintro e w' ⟨rfl, rfl⟩
  obtain ⟨S, hS⟩ : ∃ S, S = w.heap.size := ⟨_, rfl⟩
  obtain ⟨wa, hwa, hPa, hQa, hba2, hsz⟩ : ∃ wa : World, wa = (w.alloc (.cells #[.int .i64 x, .bool pr, .int .i64 pp, .int .i64 sp, .int .i64 round] 42)).alloc (.cells #[.int .i64 0, .bool false, .int .i64 0, .int .i64 0, .int .i64 0] 42) ∧
      PS wa S (sc x pr pp sp round) ∧ PS wa (S + 1) (sc 0 false 0 0 0) ∧ Below w.heap.size w wa ∧ S + 2 ≤ wa.heap.size :=
    ⟨_, rfl, PS_alloc (PS_new w (sc x pr pp sp round) 42 _ hS) (by simp; omega) _, PS_new _ (sc 0 false 0 0 0) 42 _ (by simp; omega), ((Below.refl _ _).alloc (Nat.le_refl _) _).alloc (by simp) _, by simp; omega⟩
  rw [← hwa, ← hS]
  clear hwa
  have Hga : Hid (Row wa bg n got) := Row_below Hg.out hba2 hbg
  have Haa : Hid (Row wa ba n at') := Row_below Ha.out hba2 hba
  have HPa : Hid (PS wa S (sc x pr pp sp round)) := hPa
  have HQa : Hid (PS wa (S + 1) (sc 0 false 0 0 0)) := hQa
  have HS : Hid (S = w.heap.size) := hS
  rw [← hS] at hba2
  clear Hg Ha hPa hQa hS hbg hba
  obtain ⟨p0, pf0⟩ := HPa.out 0 _ rfl
  obtain ⟨p1, pf1⟩ := HPa.out 1 _ rfl
  obtain ⟨p2, pf2⟩ := HPa.out 2 _ rfl
  obtain ⟨p3, pf3⟩ := HPa.out 3 _ rfl
  obtain ⟨p4, pf4⟩ := HPa.out 4 _ rfl
  obtain ⟨q0, qf0⟩ := HQa.out 0 _ rfl
  obtain ⟨q1, qf1⟩ := HQa.out 1 _ rfl
  obtain ⟨q2, qf2⟩ := HQa.out 2 _ rfl
  obtain ⟨q3, qf3⟩ := HQa.out 3 _ rfl
  obtain ⟨q4, qf4⟩ := HQa.out 4 _ rfl
  clear Hga Haa
  go_wp2
  refine bodyPost_ret (v := .agg #[.int .i64 x, .bool pr, .int .i64 pp, .int .i64 sp, .int .i64 round]) (by simp [results, Try.results14, go_sem, cell_set_off, *]) rfl ⟨rfl, ?_⟩
  rw [← HS.out]
  repeat (first | exact hba2 | refine Below.setCell ?_ (by simp) _)

set_option maxRecDepth 100000 in
set_option maxHeartbeats 1000000 in
theorem model_one (n : Nat) (f x pp sp se round : Int) (pr : Bool) (bg lg cg ba la ca : Nat) (got at' : Nat → Int) (w : World)
    (hn : 1 ≤ n) (hn2 : n ≤ 65536) (hlg : n < lg) (hla : n < la) (hlg2 : lg ≤ 65536) (hla2 : la ≤ 65536) (hg : Row w bg n got) (ha : Row w ba n at') (hf : 0 ≤ f) (hf2 : f ≤ n)
    (h0 : 0 ≤ round) (h2 : round ≤ 9223372036854775807) (hwx : (Lit.int .i64 x).wf = true) (hwp : (Lit.int .i64 pp).wf = true) (hwg : ∀ q, q ≤ n → (Lit.int .i64 (got q)).wf = true) (hse : se < round) (hst : stg round = 1) :
    Calls Try.prog 14 #[.agg #[.int .i64 x, .bool pr, .int .i64 pp, .int .i64 sp, .int .i64 se], .int .i64 (n : Int), .int .i64 f, .slice (some ⟨bg, 0, none⟩) lg cg, .slice (some ⟨ba, 0, none⟩) la ca, .int .i64 round] w fun e w' => ∃ v c, ModeOf (cl x true got at' round n) v c ∧ e = .returned (.agg #[.int .i64 x, .bool (decide ((n : Int) - f ≤ (c : Int))), .int .i64 v, .int .i64 sp, .int .i64 round]) ∧ Below w.heap.size w w' := by
  have e1 : (stg round == 1) = true := by rw [hst]; rfl
  have HWG : Hid (∀ q, q ≤ n → (Lit.int .i64 (got q)).wf = true) := hwg
  have HWX : Hid ((Lit.int .i64 x).wf = true) := hwx
  clear hst hwg hwx hwp
  have hbg : bg < w.heap.size := World.block_lt_of_cell? w _ (hg 0 (by omega))
  have hba : ba < w.heap.size := World.block_lt_of_cell? w _ (ha 0 (by omega))
  have Hg : Hid (Row w bg n got) := hg
  have Ha : Hid (Row w ba n at') := ha
  clear hg ha
  go_enter Try.func14, Try.ntmps14
  go_wp2_with fail
  refine (stepOf_any round _ h0 h2).mono ?_
  rintro e w' ⟨rfl, rfl⟩
  obtain ⟨S, hS⟩ : ∃ S, S = w.heap.size := ⟨_, rfl⟩
  obtain ⟨wa, hwa, hPa, hQa, hba2, hsz⟩ : ∃ wa : World, wa = (w.alloc (.cells #[.int .i64 x, .bool pr, .int .i64 pp, .int .i64 sp, .int .i64 round] 42)).alloc (.cells #[.int .i64 0, .bool false, .int .i64 0, .int .i64 0, .int .i64 0] 42) ∧
      PS wa S (sc x pr pp sp round) ∧ PS wa (S + 1) (sc 0 false 0 0 0) ∧ Below w.heap.size w wa ∧ S + 2 ≤ wa.heap.size :=
    ⟨_, rfl, PS_alloc (PS_new w (sc x pr pp sp round) 42 _ hS) (by simp; omega) _, PS_new _ (sc 0 false 0 0 0) 42 _ (by simp; omega), ((Below.refl _ _).alloc (Nat.le_refl _) _).alloc (by simp) _, by simp; omega⟩
  rw [← hwa, ← hS]
  clear hwa
  have Hga : Hid (Row wa bg n got) := Row_below Hg.out hba2 hbg
  have Haa : Hid (Row wa ba n at') := Row_below Ha.out hba2 hba
  have HPa : Hid (PS wa S (sc x pr pp sp round)) := hPa
  have HQa : Hid (PS wa (S + 1) (sc 0 false 0 0 0)) := hQa
  have HS : Hid (S = w.heap.size) := hS
  rw [← hS] at hba2
  clear Hg Ha hPa hQa hS hbg hba
  obtain ⟨p0, pf0⟩ := HPa.out 0 _ rfl
  go_wp2_with fail
  refine (counted_any x round true n bg lg cg ba la ca got at' _ hn2 hlg hla hlg2 hla2 Hga.out Haa.out).mono ?_
  rintro e w1 ⟨a, cap, rfl, hown, hb1⟩
  obtain ⟨l, hl⟩ : ∃ l, l = cl x true got at' round n := ⟨_, rfl⟩
  rw [← hl] at hown ⊢
  have hll : l.length ≤ 65537 := by rw [hl]; exact Nat.le_trans (cl_le x true got at' round n) (by omega)
  have hlw : ∀ z ∈ l, (Lit.int .i64 z).wf = true := by
    intro z hz
    rw [hl] at hz
    rcases cl_mem x true got at' round n z hz with e | ⟨q, _, h2, e⟩
    · rw [e]; exact HWX.out
    · rw [e]; exact HWG.out q h2
  obtain ⟨L, hL⟩ : ∃ L, L = l.length := ⟨_, rfl⟩
  have hSI := SI_own (w := w1) (M := wa.heap.size) rfl hown
  rw [← hL] at hown hSI hll ⊢
  have Hl : Hid (l = cl x true got at' round n) := hl
  have HL : Hid (L = l.length) := hL
  have HSI : Hid (SI w1 (.slice a L cap) l) := hSI
  have HLW : Hid (∀ z ∈ l, (Lit.int .i64 z).wf = true) := hlw
  have HOW : Hid (w1.ownsRow wa.heap.size 2 1 (.slice a L cap) L (l.map (Value.int .i64))) := hown
  have HP1 : Hid (PS w1 S (sc x pr pp sp round)) := PS_below HPa.out hb1 (by omega)
  have HQ1 : Hid (PS w1 (S + 1) (sc 0 false 0 0 0)) := PS_below HQa.out hb1 (by omega)
  have hB1 : Below S w w1 := hba2.trans (hb1.mono (by omega))
  have hs1 : S + 2 ≤ w1.heap.size := Nat.le_trans hsz hb1.size
  have hsw : wa.heap.size ≤ w1.heap.size := hb1.size
  clear hl hL hown hSI hlw hb1 HPa HQa hba2 Hga Haa
  go_wp2_with fail
  refine (mode_any _ l _ (by rw [← HL.out]; omega) HLW.out HSI.out).mono ?_
  rintro e w2 ⟨v, c, rfl, hmode, hb2⟩
  have HMo : Hid (ModeOf l v c) := hmode
  have hcb : c ≤ 65537 := by have h1 := ModeOf_le hmode; rw [← HL.out] at h1; omega
  have HP2 : Hid (PS w2 S (sc x pr pp sp round)) := PS_below HP1.out hb2 (by omega)
  have HQ2 : Hid (PS w2 (S + 1) (sc 0 false 0 0 0)) := PS_below HQ1.out hb2 (by omega)
  have hB2 : Below S w w2 := hB1.trans (hb2.mono (by omega))
  obtain ⟨p0, pf0⟩ := HP2.out 0 _ rfl
  obtain ⟨p1, pf1⟩ := HP2.out 1 _ rfl
  obtain ⟨p2, pf2⟩ := HP2.out 2 _ rfl
  obtain ⟨p3, pf3⟩ := HP2.out 3 _ rfl
  obtain ⟨p4, pf4⟩ := HP2.out 4 _ rfl
  obtain ⟨q0, qf0⟩ := HQ2.out 0 _ rfl
  obtain ⟨q1, qf1⟩ := HQ2.out 1 _ rfl
  obtain ⟨q2, qf2⟩ := HQ2.out 2 _ rfl
  obtain ⟨q3, qf3⟩ := HQ2.out 3 _ rfl
  obtain ⟨q4, qf4⟩ := HQ2.out 4 _ rfl
  clear hmode hb2 HP1 HQ1 hB1 HSI HOW HLW
  go_wp2
  obtain ⟨wF, hwF, hPF, hBF⟩ : ∃ wF : World, wF = ((((((w2.setCell ⟨S, 1, none⟩ (.bool (decide ((n : Int) - f ≤ (c : Int))))).setCell ⟨S, 2, none⟩ (.int .i64 v)).setCell ⟨S + 1, 0, none⟩ (.int .i64 x)).setCell ⟨S + 1, 1, none⟩ (.bool (decide ((n : Int) - f ≤ (c : Int))))).setCell ⟨S + 1, 2, none⟩ (.int .i64 v)).setCell ⟨S + 1, 3, none⟩ (.int .i64 sp)).setCell ⟨S + 1, 4, none⟩ (.int .i64 round) ∧
      PS wF (S + 1) (sc x (decide ((n : Int) - f ≤ (c : Int))) v sp round) ∧ Below S w wF :=
    ⟨_, rfl, PS_set (PS_set (PS_set (PS_set (PS_set (PS_set_other (PS_set_other HQ2.out (by omega) 1 _) (by omega) 2 _) 0 _) 1 _) 2 _) 3 _) 4 _, (((((((hB2.setCell (by simp) _).setCell (by simp) _).setCell (by simp) _).setCell (by simp) _).setCell (by simp) _).setCell (by simp) _).setCell (by simp) _)⟩
  rw [← hwF]
  clear hwF
  obtain ⟨r0, _⟩ := hPF 0 _ rfl
  obtain ⟨r1, _⟩ := hPF 1 _ rfl
  obtain ⟨r2, _⟩ := hPF 2 _ rfl
  obtain ⟨r3, _⟩ := hPF 3 _ rfl
  obtain ⟨r4, _⟩ := hPF 4 _ rfl
  have HBF : Hid (Below w.heap.size w wF) := by rw [← HS.out]; exact hBF
  refine bodyPost_ret (v := .agg #[.int .i64 x, .bool (decide ((n : Int) - f ≤ (c : Int))), .int .i64 v, .int .i64 sp, .int .i64 round]) (by simp [results, Try.results14, go_sem, r0, r1, r2, r3, r4]) rfl ?_
  exact ⟨v, c, by rw [← Hl.out]; exact HMo.out, rfl, HBF.out⟩

set_option maxRecDepth 100000 in
set_option maxHeartbeats 1000000 in
theorem model_two (n : Nat) (f x pp sp se round : Int) (pr : Bool) (bg lg cg ba la ca : Nat) (got at' : Nat → Int) (w : World)
    (hn : 1 ≤ n) (hn2 : n ≤ 65536) (hlg : n < lg) (hla : n < la) (hlg2 : lg ≤ 65536) (hla2 : la ≤ 65536) (hg : Row w bg n got) (ha : Row w ba n at') (hf : 0 ≤ f) (hf2 : f ≤ n)
    (h0 : 0 ≤ round) (h2 : round ≤ 9223372036854775807) (hwx : (Lit.int .i64 x).wf = true) (hwp : (Lit.int .i64 pp).wf = true) (hwg : ∀ q, q ≤ n → (Lit.int .i64 (got q)).wf = true) (hse : se < round) (hst : stg round = 2) :
    Calls Try.prog 14 #[.agg #[.int .i64 x, .bool pr, .int .i64 pp, .int .i64 sp, .int .i64 se], .int .i64 (n : Int), .int .i64 f, .slice (some ⟨bg, 0, none⟩) lg cg, .slice (some ⟨ba, 0, none⟩) la ca, .int .i64 round] w fun e w' => ∃ v c x', ModeOf (cl pp pr got at' round n) v c ∧ x' = (if f < (c : Int) then v else x) ∧ e = .returned (.agg #[.int .i64 x', .bool pr, .int .i64 pp, .int .i64 ((cl pp pr got at' round n).count x' : Int), .int .i64 round]) ∧ Below w.heap.size w w' := by
  have e1 : (stg round == 1) = false := by rw [hst]; rfl
  have e2 : (stg round == 2) = true := by rw [hst]; rfl
  have HWG : Hid (∀ q, q ≤ n → (Lit.int .i64 (got q)).wf = true) := hwg
  have HWP : Hid ((Lit.int .i64 pp).wf = true) := hwp
  clear hst hwg hwx hwp
  have hbg : bg < w.heap.size := World.block_lt_of_cell? w _ (hg 0 (by omega))
  have hba : ba < w.heap.size := World.block_lt_of_cell? w _ (ha 0 (by omega))
  have Hg : Hid (Row w bg n got) := hg
  have Ha : Hid (Row w ba n at') := ha
  clear hg ha
  go_enter Try.func14, Try.ntmps14
  go_wp2_with fail
  refine (stepOf_any round _ h0 h2).mono ?_
  rintro e w' ⟨rfl, rfl⟩
  obtain ⟨S, hS⟩ : ∃ S, S = w.heap.size := ⟨_, rfl⟩
  obtain ⟨wa, hwa, hPa, hQa, hba2, hsz⟩ : ∃ wa : World, wa = (w.alloc (.cells #[.int .i64 x, .bool pr, .int .i64 pp, .int .i64 sp, .int .i64 round] 42)).alloc (.cells #[.int .i64 0, .bool false, .int .i64 0, .int .i64 0, .int .i64 0] 42) ∧
      PS wa S (sc x pr pp sp round) ∧ PS wa (S + 1) (sc 0 false 0 0 0) ∧ Below w.heap.size w wa ∧ S + 2 ≤ wa.heap.size :=
    ⟨_, rfl, PS_alloc (PS_new w (sc x pr pp sp round) 42 _ hS) (by simp; omega) _, PS_new _ (sc 0 false 0 0 0) 42 _ (by simp; omega), ((Below.refl _ _).alloc (Nat.le_refl _) _).alloc (by simp) _, by simp; omega⟩
  rw [← hwa, ← hS]
  clear hwa
  have Hga : Hid (Row wa bg n got) := Row_below Hg.out hba2 hbg
  have Haa : Hid (Row wa ba n at') := Row_below Ha.out hba2 hba
  have HPa : Hid (PS wa S (sc x pr pp sp round)) := hPa
  have HQa : Hid (PS wa (S + 1) (sc 0 false 0 0 0)) := hQa
  have HS : Hid (S = w.heap.size) := hS
  rw [← hS] at hba2
  clear Hg Ha hPa hQa hS hbg hba
  obtain ⟨p1, pf1⟩ := HPa.out 1 _ rfl
  obtain ⟨p2, pf2⟩ := HPa.out 2 _ rfl
  go_wp2_with fail
  refine (counted_any pp round pr n bg lg cg ba la ca got at' _ hn2 hlg hla hlg2 hla2 Hga.out Haa.out).mono ?_
  rintro e w1 ⟨a, cap, rfl, hown, hb1⟩
  obtain ⟨l, hl⟩ : ∃ l, l = cl pp pr got at' round n := ⟨_, rfl⟩
  rw [← hl] at hown ⊢
  have hll : l.length ≤ 65537 := by rw [hl]; exact Nat.le_trans (cl_le pp pr got at' round n) (by omega)
  have hlw : ∀ z ∈ l, (Lit.int .i64 z).wf = true := by
    intro z hz
    rw [hl] at hz
    rcases cl_mem pp pr got at' round n z hz with e | ⟨q, _, h2, e⟩
    · rw [e]; exact HWP.out
    · rw [e]; exact HWG.out q h2
  obtain ⟨L, hL⟩ : ∃ L, L = l.length := ⟨_, rfl⟩
  have hSI := SI_own (w := w1) (M := wa.heap.size) rfl hown
  rw [← hL] at hown hSI hll ⊢
  have Hl : Hid (l = cl pp pr got at' round n) := hl
  have HL : Hid (L = l.length) := hL
  have HSI : Hid (SI w1 (.slice a L cap) l) := hSI
  have HLW : Hid (∀ z ∈ l, (Lit.int .i64 z).wf = true) := hlw
  have HOW : Hid (w1.ownsRow wa.heap.size 2 1 (.slice a L cap) L (l.map (Value.int .i64))) := hown
  have HP1 : Hid (PS w1 S (sc x pr pp sp round)) := PS_below HPa.out hb1 (by omega)
  have HQ1 : Hid (PS w1 (S + 1) (sc 0 false 0 0 0)) := PS_below HQa.out hb1 (by omega)
  have hB1 : Below S w w1 := hba2.trans (hb1.mono (by omega))
  have hs1 : S + 2 ≤ w1.heap.size := Nat.le_trans hsz hb1.size
  have hsw : wa.heap.size ≤ w1.heap.size := hb1.size
  clear hl hL hown hSI hlw hb1 HPa HQa hba2 Hga Haa
  go_wp2_with fail
  refine (mode_any _ l _ (by rw [← HL.out]; omega) HLW.out HSI.out).mono ?_
  rintro e w2 ⟨v, c, rfl, hmode, hb2⟩
  have HMo : Hid (ModeOf l v c) := hmode
  have hcb : c ≤ 65537 := by have h1 := ModeOf_le hmode; rw [← HL.out] at h1; omega
  have HP2 : Hid (PS w2 S (sc x pr pp sp round)) := PS_below HP1.out hb2 (by omega)
  have HQ2 : Hid (PS w2 (S + 1) (sc 0 false 0 0 0)) := PS_below HQ1.out hb2 (by omega)
  have hB2 : Below S w w2 := hB1.trans (hb2.mono (by omega))
  have HO2 : Hid (w2.ownsRow wa.heap.size 2 1 (.slice a L cap) L (l.map (Value.int .i64))) := own_below HOW.out hb2
  obtain ⟨p0, pf0⟩ := HP2.out 0 _ rfl
  obtain ⟨p1, pf1⟩ := HP2.out 1 _ rfl
  obtain ⟨p2, pf2⟩ := HP2.out 2 _ rfl
  obtain ⟨p3, pf3⟩ := HP2.out 3 _ rfl
  obtain ⟨p4, pf4⟩ := HP2.out 4 _ rfl
  obtain ⟨q0, qf0⟩ := HQ2.out 0 _ rfl
  obtain ⟨q1, qf1⟩ := HQ2.out 1 _ rfl
  obtain ⟨q2, qf2⟩ := HQ2.out 2 _ rfl
  obtain ⟨q3, qf3⟩ := HQ2.out 3 _ rfl
  obtain ⟨q4, qf4⟩ := HQ2.out 4 _ rfl
  clear hmode hb2 HP1 HQ1 hB1 HSI HOW HLW
  by_cases hcf : f < (c : Int)
  · have HCF : Hid (f < (c : Int)) := hcf
    go_wp2
    obtain ⟨w3, hw3, hP3, hQ3, hO3, hB3⟩ : ∃ w3 : World, w3 = (w2.setCell ⟨S, 0, none⟩ (.int .i64 v)).setCell ⟨S, 3, none⟩ (.int .i64 0) ∧ PS w3 S (sc v pr pp 0 round) ∧ PS w3 (S + 1) (sc 0 false 0 0 0) ∧ w3.ownsRow wa.heap.size 2 1 (.slice a L cap) L (l.map (Value.int .i64)) ∧ Below S w w3 :=
      ⟨_, rfl, PS_set (PS_set HP2.out 0 _) 3 _, PS_set_other (PS_set_other HQ2.out (by omega) 0 _) (by omega) 3 _, ownsRow_set_below (ownsRow_set_below HO2.out (by omega)) (by omega), (hB2.setCell (by simp) _).setCell (by simp) _⟩
    rw [← hw3]
    have HP3 : Hid (PS w3 S (sc v pr pp 0 round)) := hP3
    have HQ3 : Hid (PS w3 (S + 1) (sc 0 false 0 0 0)) := hQ3
    have HO3 : Hid (w3.ownsRow wa.heap.size 2 1 (.slice a L cap) L (l.map (Value.int .i64))) := hO3
    clear hw3 hP3 hQ3 hO3 HP2 HQ2 HO2 hB2 p0 pf0 p1 pf1 p2 pf2 p3 pf3 p4 pf4 q0 qf0 q1 qf1 q2 qf2 q3 qf3 q4 qf4
    go_loopw [19] (fun t wr => ∃ i : Nat, i ≤ L ∧ t = .int .i64 (i : Int) ∧ PS wr S (sc v pr pp ((l.take i).count v : Int) round) ∧ PS wr (S + 1) (sc 0 false 0 0 0) ∧ wr.ownsRow wa.heap.size 2 1 (.slice a L cap) L (l.map (Value.int .i64)) ∧ Below S w wr) (fun t _ => L - (intOf t).toNat)
    case atStart => exact ⟨0, Nat.zero_le _, by go_num, HP3.out, HQ3.out, HO3.out, hB3⟩
    case round =>
      obtain ⟨i, hi, rfl, hPr, hQr, hOr, hBr⟩ := hrel
      have HPr : Hid (PS wr S (sc v pr pp ((l.take i).count v : Int) round)) := hPr
      have HQr : Hid (PS wr (S + 1) (sc 0 false 0 0 0)) := hQr
      have HOr : Hid (wr.ownsRow wa.heap.size 2 1 (.slice a L cap) L (l.map (Value.int .i64))) := hOr
      clear HP3 HQ3 HO3 hB3
      by_cases hlt : i < L
      · obtain ⟨g, rfl, _, _, hc⟩ := own_cell hOr (by omega)
        obtain ⟨z, hz⟩ : ∃ z, l[i]? = some z := ⟨_, List.getElem?_eq_getElem (by rw [← HL.out]; exact hlt)⟩
        have ci : wr.cell? ⟨g, i, none⟩ = some (.int .i64 z) := hc i _ (by simp [hz])
        obtain ⟨c0, f0⟩ := hPr 0 _ rfl
        obtain ⟨c3, f3⟩ := hPr 3 _ rfl
        have hcl : (l.take i).count v ≤ i := Nat.le_trans List.count_le_length (by simp; omega)
        have HCN := count_snoc (y := v) hz
        obtain ⟨cn, hcn⟩ : ∃ cn : Nat, cn = (l.take i).count v := ⟨_, rfl⟩
        rw [← hcn] at c3 hcl HCN
        have Hcn : Hid (cn = (l.take i).count v) := hcn
        clear hPr hQr hOr hc hz hcn
        by_cases hzx : z = v
        · have hzb : (z == v) = true := by simp [hzx]
          have HC2 : Hid (((l.take (i + 1)).count v : Int) = (cn : Int) + 1) := by show _ = _; rw [HCN, if_pos hzx]; omega
          clear hzx HCN
          go_wp2
          go_quiet (fail)
          obtain ⟨wb, hwb, hPb, hQb, hOb, hBb, c3, f3⟩ : ∃ wb : World, wb = wr.drewN nq ∧ PS wb S (sc v pr pp ((l.take i).count v : Int) round) ∧ PS wb (S + 1) (sc 0 false 0 0 0) ∧ wb.ownsRow wa.heap.size 2 1 (.slice (some ⟨g, 0, none⟩) L cap) L (l.map (Value.int .i64)) ∧ Below S w wb ∧ wb.cell? ⟨S, 3, none⟩ = some (.int .i64 (cn : Int)) ∧ wb.frozen? ⟨S, 3, none⟩ = false := ⟨_, rfl, HPr.out, HQr.out, HOr.out, bel_drewN hBr _, c3, f3⟩
          rw [← hwb]
          have HP4 : Hid (PS (wb.setCell ⟨S, 3, none⟩ (.int .i64 ((cn : Int) + 1))) S (sc v pr pp ((l.take (i + 1)).count v : Int) round)) := by
            rw [HC2.out]
            exact PS_set hPb 3 _
          have HQ4 : Hid (PS (wb.setCell ⟨S, 3, none⟩ (.int .i64 ((cn : Int) + 1))) (S + 1) (sc 0 false 0 0 0)) := PS_set_other hQb (by omega) 3 _
          have HO4 : Hid ((wb.setCell ⟨S, 3, none⟩ (.int .i64 ((cn : Int) + 1))).ownsRow wa.heap.size 2 1 (.slice (some ⟨g, 0, none⟩) L cap) L (l.map (Value.int .i64))) := ownsRow_set_below hOb (by omega)
          clear hwb hPb hQb hOb HPr HQr HOr
          go_wp2
          go_roundw
          case rel => exact ⟨i + 1, by omega, by go_num, HP4.out, HQ4.out, HO4.out, hBb.setCell (by simp) _⟩
          case measure => simp [intOf]; omega
        · have hzb : (z == v) = false := beq_no hzx
          have HC2 : Hid ((l.take (i + 1)).count v = (l.take i).count v) := by show _ = _; rw [HCN, if_neg hzx, ← Hcn.out]; omega
          clear hzx HCN
          go_wp2
          go_quiet (fail)
          go_wp2
          go_roundw
          case rel => exact ⟨i + 1, by omega, by go_num, by rw [HC2.out]; exact HPr.out, HQr.out, HOr.out, bel_drewN hBr _⟩
          case measure => simp [intOf]; omega
      · obtain rfl : i = L := by omega
        have HC3 : Hid (((l.take i).count v : Int) = ((cl pp pr got at' round n).count v : Int)) := by show _ = _; rw [HL.out, List.take_length, Hl.out]
        obtain ⟨cn, hcn⟩ : ∃ cn : Nat, cn = (l.take i).count v := ⟨_, rfl⟩
        rw [← hcn] at HC3 hPr HPr
        obtain ⟨p0, pf0⟩ := hPr 0 _ rfl
        obtain ⟨p1, pf1⟩ := hPr 1 _ rfl
        obtain ⟨p2, pf2⟩ := hPr 2 _ rfl
        obtain ⟨p3, pf3⟩ := hPr 3 _ rfl
        obtain ⟨p4, pf4⟩ := hPr 4 _ rfl
        obtain ⟨q0, qf0⟩ := hQr 0 _ rfl
        obtain ⟨q1, qf1⟩ := hQr 1 _ rfl
        obtain ⟨q2, qf2⟩ := hQr 2 _ rfl
        obtain ⟨q3, qf3⟩ := hQr 3 _ rfl
        obtain ⟨q4, qf4⟩ := hQr 4 _ rfl
        clear hPr hQr hOr hcn
        go_wp2
        obtain ⟨wF, hwF, hPF, hBF⟩ : ∃ wF : World, wF = (((((wr).setCell ⟨S + 1, 0, none⟩ (.int .i64 v)).setCell ⟨S + 1, 1, none⟩ (.bool pr)).setCell ⟨S + 1, 2, none⟩ (.int .i64 pp)).setCell ⟨S + 1, 3, none⟩ (.int .i64 (cn : Int))).setCell ⟨S + 1, 4, none⟩ (.int .i64 round) ∧
            PS wF (S + 1) (sc v pr pp (cn : Int) round) ∧ Below S w wF :=
          ⟨_, rfl, PS_set (PS_set (PS_set (PS_set (PS_set (HQr.out) 0 _) 1 _) 2 _) 3 _) 4 _, ((((((hBr).setCell (by simp) _).setCell (by simp) _).setCell (by simp) _).setCell (by simp) _).setCell (by simp) _)⟩
        rw [← hwF]
        clear hwF
        obtain ⟨r0, _⟩ := hPF 0 _ rfl
        obtain ⟨r1, _⟩ := hPF 1 _ rfl
        obtain ⟨r2, _⟩ := hPF 2 _ rfl
        obtain ⟨r3, _⟩ := hPF 3 _ rfl
        obtain ⟨r4, _⟩ := hPF 4 _ rfl
        have HBF : Hid (Below w.heap.size w wF) := by rw [← HS.out]; exact hBF
        refine bodyPost_ret (v := .agg #[.int .i64 v, .bool pr, .int .i64 pp, .int .i64 (cn : Int), .int .i64 round]) (by simp [results, Try.results14, go_sem, r0, r1, r2, r3, r4]) rfl ?_
        exact ⟨v, c, v, by rw [← Hl.out]; exact HMo.out, by rw [if_pos HCF.out], by rw [HC3.out], HBF.out⟩
  · have HCF : Hid (¬ f < (c : Int)) := hcf
    go_wp2
    obtain ⟨w3, hw3, hP3, hQ3, hO3, hB3⟩ : ∃ w3 : World, w3 = w2.setCell ⟨S, 3, none⟩ (.int .i64 0) ∧ PS w3 S (sc x pr pp 0 round) ∧ PS w3 (S + 1) (sc 0 false 0 0 0) ∧ w3.ownsRow wa.heap.size 2 1 (.slice a L cap) L (l.map (Value.int .i64)) ∧ Below S w w3 :=
      ⟨_, rfl, PS_set HP2.out 3 _, PS_set_other HQ2.out (by omega) 3 _, ownsRow_set_below HO2.out (by omega), hB2.setCell (by simp) _⟩
    rw [← hw3]
    have HP3 : Hid (PS w3 S (sc x pr pp 0 round)) := hP3
    have HQ3 : Hid (PS w3 (S + 1) (sc 0 false 0 0 0)) := hQ3
    have HO3 : Hid (w3.ownsRow wa.heap.size 2 1 (.slice a L cap) L (l.map (Value.int .i64))) := hO3
    clear hw3 hP3 hQ3 hO3 HP2 HQ2 HO2 hB2 p0 pf0 p1 pf1 p2 pf2 p3 pf3 p4 pf4 q0 qf0 q1 qf1 q2 qf2 q3 qf3 q4 qf4
    go_loopw [19] (fun t wr => ∃ i : Nat, i ≤ L ∧ t = .int .i64 (i : Int) ∧ PS wr S (sc x pr pp ((l.take i).count x : Int) round) ∧ PS wr (S + 1) (sc 0 false 0 0 0) ∧ wr.ownsRow wa.heap.size 2 1 (.slice a L cap) L (l.map (Value.int .i64)) ∧ Below S w wr) (fun t _ => L - (intOf t).toNat)
    case atStart => exact ⟨0, Nat.zero_le _, by go_num, HP3.out, HQ3.out, HO3.out, hB3⟩
    case round =>
      obtain ⟨i, hi, rfl, hPr, hQr, hOr, hBr⟩ := hrel
      have HPr : Hid (PS wr S (sc x pr pp ((l.take i).count x : Int) round)) := hPr
      have HQr : Hid (PS wr (S + 1) (sc 0 false 0 0 0)) := hQr
      have HOr : Hid (wr.ownsRow wa.heap.size 2 1 (.slice a L cap) L (l.map (Value.int .i64))) := hOr
      clear HP3 HQ3 HO3 hB3
      by_cases hlt : i < L
      · obtain ⟨g, rfl, _, _, hc⟩ := own_cell hOr (by omega)
        obtain ⟨z, hz⟩ : ∃ z, l[i]? = some z := ⟨_, List.getElem?_eq_getElem (by rw [← HL.out]; exact hlt)⟩
        have ci : wr.cell? ⟨g, i, none⟩ = some (.int .i64 z) := hc i _ (by simp [hz])
        obtain ⟨c0, f0⟩ := hPr 0 _ rfl
        obtain ⟨c3, f3⟩ := hPr 3 _ rfl
        have hcl : (l.take i).count x ≤ i := Nat.le_trans List.count_le_length (by simp; omega)
        have HCN := count_snoc (y := x) hz
        obtain ⟨cn, hcn⟩ : ∃ cn : Nat, cn = (l.take i).count x := ⟨_, rfl⟩
        rw [← hcn] at c3 hcl HCN
        have Hcn : Hid (cn = (l.take i).count x) := hcn
        clear hPr hQr hOr hc hz hcn
        by_cases hzx : z = x
        · have hzb : (z == x) = true := by simp [hzx]
          have HC2 : Hid (((l.take (i + 1)).count x : Int) = (cn : Int) + 1) := by show _ = _; rw [HCN, if_pos hzx]; omega
          clear hzx HCN
          go_wp2
          go_quiet (fail)
          obtain ⟨wb, hwb, hPb, hQb, hOb, hBb, c3, f3⟩ : ∃ wb : World, wb = wr.drewN nq ∧ PS wb S (sc x pr pp ((l.take i).count x : Int) round) ∧ PS wb (S + 1) (sc 0 false 0 0 0) ∧ wb.ownsRow wa.heap.size 2 1 (.slice (some ⟨g, 0, none⟩) L cap) L (l.map (Value.int .i64)) ∧ Below S w wb ∧ wb.cell? ⟨S, 3, none⟩ = some (.int .i64 (cn : Int)) ∧ wb.frozen? ⟨S, 3, none⟩ = false := ⟨_, rfl, HPr.out, HQr.out, HOr.out, bel_drewN hBr _, c3, f3⟩
          rw [← hwb]
          have HP4 : Hid (PS (wb.setCell ⟨S, 3, none⟩ (.int .i64 ((cn : Int) + 1))) S (sc x pr pp ((l.take (i + 1)).count x : Int) round)) := by
            rw [HC2.out]
            exact PS_set hPb 3 _
          have HQ4 : Hid (PS (wb.setCell ⟨S, 3, none⟩ (.int .i64 ((cn : Int) + 1))) (S + 1) (sc 0 false 0 0 0)) := PS_set_other hQb (by omega) 3 _
          have HO4 : Hid ((wb.setCell ⟨S, 3, none⟩ (.int .i64 ((cn : Int) + 1))).ownsRow wa.heap.size 2 1 (.slice (some ⟨g, 0, none⟩) L cap) L (l.map (Value.int .i64))) := ownsRow_set_below hOb (by omega)
          clear hwb hPb hQb hOb HPr HQr HOr
          go_wp2
          go_roundw
          case rel => exact ⟨i + 1, by omega, by go_num, HP4.out, HQ4.out, HO4.out, hBb.setCell (by simp) _⟩
          case measure => simp [intOf]; omega
        · have hzb : (z == x) = false := beq_no hzx
          have HC2 : Hid ((l.take (i + 1)).count x = (l.take i).count x) := by show _ = _; rw [HCN, if_neg hzx, ← Hcn.out]; omega
          clear hzx HCN
          go_wp2
          go_quiet (fail)
          go_wp2
          go_roundw
          case rel => exact ⟨i + 1, by omega, by go_num, by rw [HC2.out]; exact HPr.out, HQr.out, HOr.out, bel_drewN hBr _⟩
          case measure => simp [intOf]; omega
      · obtain rfl : i = L := by omega
        have HC3 : Hid (((l.take i).count x : Int) = ((cl pp pr got at' round n).count x : Int)) := by show _ = _; rw [HL.out, List.take_length, Hl.out]
        obtain ⟨cn, hcn⟩ : ∃ cn : Nat, cn = (l.take i).count x := ⟨_, rfl⟩
        rw [← hcn] at HC3 hPr HPr
        obtain ⟨p0, pf0⟩ := hPr 0 _ rfl
        obtain ⟨p1, pf1⟩ := hPr 1 _ rfl
        obtain ⟨p2, pf2⟩ := hPr 2 _ rfl
        obtain ⟨p3, pf3⟩ := hPr 3 _ rfl
        obtain ⟨p4, pf4⟩ := hPr 4 _ rfl
        obtain ⟨q0, qf0⟩ := hQr 0 _ rfl
        obtain ⟨q1, qf1⟩ := hQr 1 _ rfl
        obtain ⟨q2, qf2⟩ := hQr 2 _ rfl
        obtain ⟨q3, qf3⟩ := hQr 3 _ rfl
        obtain ⟨q4, qf4⟩ := hQr 4 _ rfl
        clear hPr hQr hOr hcn
        go_wp2
        obtain ⟨wF, hwF, hPF, hBF⟩ : ∃ wF : World, wF = (((((wr).setCell ⟨S + 1, 0, none⟩ (.int .i64 x)).setCell ⟨S + 1, 1, none⟩ (.bool pr)).setCell ⟨S + 1, 2, none⟩ (.int .i64 pp)).setCell ⟨S + 1, 3, none⟩ (.int .i64 (cn : Int))).setCell ⟨S + 1, 4, none⟩ (.int .i64 round) ∧
            PS wF (S + 1) (sc x pr pp (cn : Int) round) ∧ Below S w wF :=
          ⟨_, rfl, PS_set (PS_set (PS_set (PS_set (PS_set (HQr.out) 0 _) 1 _) 2 _) 3 _) 4 _, ((((((hBr).setCell (by simp) _).setCell (by simp) _).setCell (by simp) _).setCell (by simp) _).setCell (by simp) _)⟩
        rw [← hwF]
        clear hwF
        obtain ⟨r0, _⟩ := hPF 0 _ rfl
        obtain ⟨r1, _⟩ := hPF 1 _ rfl
        obtain ⟨r2, _⟩ := hPF 2 _ rfl
        obtain ⟨r3, _⟩ := hPF 3 _ rfl
        obtain ⟨r4, _⟩ := hPF 4 _ rfl
        have HBF : Hid (Below w.heap.size w wF) := by rw [← HS.out]; exact hBF
        refine bodyPost_ret (v := .agg #[.int .i64 x, .bool pr, .int .i64 pp, .int .i64 (cn : Int), .int .i64 round]) (by simp [results, Try.results14, go_sem, r0, r1, r2, r3, r4]) rfl ?_
        exact ⟨v, c, x, by rw [← Hl.out]; exact HMo.out, by rw [if_neg (by have := HCF.out; omega)], by rw [HC3.out], HBF.out⟩

set_option maxRecDepth 100000 in
set_option maxHeartbeats 1000000 in
theorem model_three_a (n : Nat) (f x pp sp se round : Int) (pr : Bool) (bg lg cg ba la ca : Nat) (got at' : Nat → Int) (w : World)
    (hn : 1 ≤ n) (hn2 : n ≤ 65536) (hlg : n < lg) (hla : n < la) (hlg2 : lg ≤ 65536) (hla2 : la ≤ 65536) (hg : Row w bg n got) (ha : Row w ba n at') (hf : 0 ≤ f) (hf2 : f ≤ n)
    (h0 : 0 ≤ round) (h2 : round ≤ 9223372036854775807) (hse : se < round) (hst : stg round = 3) (hst3 : stp round = 3) (h33 : 3 ≤ round) (k : Nat) (hk : kg round n = (k : Int)) (hkn : k ≤ n) (hc : ¬ sp < (n : Int) - f) :
    Calls Try.prog 14 #[.agg #[.int .i64 x, .bool pr, .int .i64 pp, .int .i64 sp, .int .i64 se], .int .i64 (n : Int), .int .i64 f, .slice (some ⟨bg, 0, none⟩) lg cg, .slice (some ⟨ba, 0, none⟩) la ca, .int .i64 round] w fun e w' => e = .returned (.agg #[.int .i64 x, .bool pr, .int .i64 pp, .int .i64 sp, .int .i64 round]) ∧ Below w.heap.size w w' := by
  have e1 : (stg round == 1) = false := by rw [hst]; rfl
  have e2 : (stg round == 2) = false := by rw [hst]; rfl
  have e3 : (stg round == 3) = true := by rw [hst]; rfl
  have hking : ∀ w, Calls Try.prog 10 #[.int .i64 round, .int .i64 (n : Int)] w fun e w' => e = .returned (.int .i64 (k : Int)) ∧ w' = w := fun w => by rw [← hk]; exact third_any round n w h33 h2 hst3 (by omega) (by omega)
  have HKG : Hid (∀ w, Calls Try.prog 10 #[.int .i64 round, .int .i64 (n : Int)] w fun e w' => e = .returned (.int .i64 (k : Int)) ∧ w' = w) := hking
  clear hst hk hking hst3
  have hd : decide (sp < (n : Int) - f) = false := by simp; omega
  have hbg : bg < w.heap.size := World.block_lt_of_cell? w _ (hg 0 (by omega))
  have hba : ba < w.heap.size := World.block_lt_of_cell? w _ (ha 0 (by omega))
  have Hg : Hid (Row w bg n got) := hg
  have Ha : Hid (Row w ba n at') := ha
  clear hg ha
  go_enter Try.func14, Try.ntmps14
  go_wp2_with fail
  refine (stepOf_any round _ h0 h2).mono ?_
  rintro e w' ⟨rfl, rfl⟩
  obtain ⟨S, hS⟩ : ∃ S, S = w.heap.size := ⟨_, rfl⟩
  obtain ⟨wa, hwa, hPa, hQa, hba2, hsz⟩ : ∃ wa : World, wa = (w.alloc (.cells #[.int .i64 x, .bool pr, .int .i64 pp, .int .i64 sp, .int .i64 round] 42)).alloc (.cells #[.int .i64 0, .bool false, .int .i64 0, .int .i64 0, .int .i64 0] 42) ∧
      PS wa S (sc x pr pp sp round) ∧ PS wa (S + 1) (sc 0 false 0 0 0) ∧ Below w.heap.size w wa ∧ S + 2 ≤ wa.heap.size :=
    ⟨_, rfl, PS_alloc (PS_new w (sc x pr pp sp round) 42 _ hS) (by simp; omega) _, PS_new _ (sc 0 false 0 0 0) 42 _ (by simp; omega), ((Below.refl _ _).alloc (Nat.le_refl _) _).alloc (by simp) _, by simp; omega⟩
  rw [← hwa, ← hS]
  clear hwa
  have Hga : Hid (Row wa bg n got) := Row_below Hg.out hba2 hbg
  have Haa : Hid (Row wa ba n at') := Row_below Ha.out hba2 hba
  have HPa : Hid (PS wa S (sc x pr pp sp round)) := hPa
  have HQa : Hid (PS wa (S + 1) (sc 0 false 0 0 0)) := hQa
  have HS : Hid (S = w.heap.size) := hS
  rw [← hS] at hba2
  clear Hg Ha hPa hQa hS hbg hba
  obtain ⟨p0, pf0⟩ := HPa.out 0 _ rfl
  obtain ⟨p1, pf1⟩ := HPa.out 1 _ rfl
  obtain ⟨p2, pf2⟩ := HPa.out 2 _ rfl
  obtain ⟨p3, pf3⟩ := HPa.out 3 _ rfl
  obtain ⟨p4, pf4⟩ := HPa.out 4 _ rfl
  obtain ⟨q0, qf0⟩ := HQa.out 0 _ rfl
  obtain ⟨q1, qf1⟩ := HQa.out 1 _ rfl
  obtain ⟨q2, qf2⟩ := HQa.out 2 _ rfl
  obtain ⟨q3, qf3⟩ := HQa.out 3 _ rfl
  obtain ⟨q4, qf4⟩ := HQa.out 4 _ rfl
  have ck := Haa.out k hkn
  have cgk := Hga.out k hkn
  clear Hga Haa
  go_wp2_with fail
  refine (HKG.out _).mono ?_
  rintro e w' ⟨rfl, hw'⟩
  subst w'
  clear HKG
  go_wp2
  obtain ⟨wF, hwF, hPF, hBF⟩ : ∃ wF : World, wF = (((((wa).setCell ⟨S + 1, 0, none⟩ (.int .i64 x)).setCell ⟨S + 1, 1, none⟩ (.bool pr)).setCell ⟨S + 1, 2, none⟩ (.int .i64 pp)).setCell ⟨S + 1, 3, none⟩ (.int .i64 sp)).setCell ⟨S + 1, 4, none⟩ (.int .i64 round) ∧
      PS wF (S + 1) (sc x pr pp sp round) ∧ Below S w wF :=
    ⟨_, rfl, PS_set (PS_set (PS_set (PS_set (PS_set (HQa.out) 0 _) 1 _) 2 _) 3 _) 4 _, ((((((hba2).setCell (by simp) _).setCell (by simp) _).setCell (by simp) _).setCell (by simp) _).setCell (by simp) _)⟩
  rw [← hwF]
  clear hwF
  obtain ⟨r0, _⟩ := hPF 0 _ rfl
  obtain ⟨r1, _⟩ := hPF 1 _ rfl
  obtain ⟨r2, _⟩ := hPF 2 _ rfl
  obtain ⟨r3, _⟩ := hPF 3 _ rfl
  obtain ⟨r4, _⟩ := hPF 4 _ rfl
  have HBF : Hid (Below w.heap.size w wF) := by rw [← HS.out]; exact hBF
  refine bodyPost_ret (v := .agg #[.int .i64 x, .bool pr, .int .i64 pp, .int .i64 sp, .int .i64 round]) (by simp [results, Try.results14, go_sem, r0, r1, r2, r3, r4]) rfl ⟨rfl, HBF.out⟩

set_option maxRecDepth 100000 in
set_option maxHeartbeats 1000000 in
theorem model_three_b (n : Nat) (f x pp sp se round : Int) (pr : Bool) (bg lg cg ba la ca : Nat) (got at' : Nat → Int) (w : World)
    (hn : 1 ≤ n) (hn2 : n ≤ 65536) (hlg : n < lg) (hla : n < la) (hlg2 : lg ≤ 65536) (hla2 : la ≤ 65536) (hg : Row w bg n got) (ha : Row w ba n at') (hf : 0 ≤ f) (hf2 : f ≤ n)
    (h0 : 0 ≤ round) (h2 : round ≤ 9223372036854775807) (hse : se < round) (hst : stg round = 3) (hst3 : stp round = 3) (h33 : 3 ≤ round) (k : Nat) (hk : kg round n = (k : Int)) (hkn : k ≤ n) (hc : sp < (n : Int) - f) (hat : ¬ at' k = round) :
    Calls Try.prog 14 #[.agg #[.int .i64 x, .bool pr, .int .i64 pp, .int .i64 sp, .int .i64 se], .int .i64 (n : Int), .int .i64 f, .slice (some ⟨bg, 0, none⟩) lg cg, .slice (some ⟨ba, 0, none⟩) la ca, .int .i64 round] w fun e w' => e = .returned (.agg #[.int .i64 x, .bool pr, .int .i64 pp, .int .i64 sp, .int .i64 round]) ∧ Below w.heap.size w w' := by
  have e1 : (stg round == 1) = false := by rw [hst]; rfl
  have e2 : (stg round == 2) = false := by rw [hst]; rfl
  have e3 : (stg round == 3) = true := by rw [hst]; rfl
  have hking : ∀ w, Calls Try.prog 10 #[.int .i64 round, .int .i64 (n : Int)] w fun e w' => e = .returned (.int .i64 (k : Int)) ∧ w' = w := fun w => by rw [← hk]; exact third_any round n w h33 h2 hst3 (by omega) (by omega)
  have HKG : Hid (∀ w, Calls Try.prog 10 #[.int .i64 round, .int .i64 (n : Int)] w fun e w' => e = .returned (.int .i64 (k : Int)) ∧ w' = w) := hking
  clear hst hk hking hst3
  have hab : (at' k == round) = false := beq_no hat
  clear hat
  have hbg : bg < w.heap.size := World.block_lt_of_cell? w _ (hg 0 (by omega))
  have hba : ba < w.heap.size := World.block_lt_of_cell? w _ (ha 0 (by omega))
  have Hg : Hid (Row w bg n got) := hg
  have Ha : Hid (Row w ba n at') := ha
  clear hg ha
  go_enter Try.func14, Try.ntmps14
  go_wp2_with fail
  refine (stepOf_any round _ h0 h2).mono ?_
  rintro e w' ⟨rfl, rfl⟩
  obtain ⟨S, hS⟩ : ∃ S, S = w.heap.size := ⟨_, rfl⟩
  obtain ⟨wa, hwa, hPa, hQa, hba2, hsz⟩ : ∃ wa : World, wa = (w.alloc (.cells #[.int .i64 x, .bool pr, .int .i64 pp, .int .i64 sp, .int .i64 round] 42)).alloc (.cells #[.int .i64 0, .bool false, .int .i64 0, .int .i64 0, .int .i64 0] 42) ∧
      PS wa S (sc x pr pp sp round) ∧ PS wa (S + 1) (sc 0 false 0 0 0) ∧ Below w.heap.size w wa ∧ S + 2 ≤ wa.heap.size :=
    ⟨_, rfl, PS_alloc (PS_new w (sc x pr pp sp round) 42 _ hS) (by simp; omega) _, PS_new _ (sc 0 false 0 0 0) 42 _ (by simp; omega), ((Below.refl _ _).alloc (Nat.le_refl _) _).alloc (by simp) _, by simp; omega⟩
  rw [← hwa, ← hS]
  clear hwa
  have Hga : Hid (Row wa bg n got) := Row_below Hg.out hba2 hbg
  have Haa : Hid (Row wa ba n at') := Row_below Ha.out hba2 hba
  have HPa : Hid (PS wa S (sc x pr pp sp round)) := hPa
  have HQa : Hid (PS wa (S + 1) (sc 0 false 0 0 0)) := hQa
  have HS : Hid (S = w.heap.size) := hS
  rw [← hS] at hba2
  clear Hg Ha hPa hQa hS hbg hba
  obtain ⟨p0, pf0⟩ := HPa.out 0 _ rfl
  obtain ⟨p1, pf1⟩ := HPa.out 1 _ rfl
  obtain ⟨p2, pf2⟩ := HPa.out 2 _ rfl
  obtain ⟨p3, pf3⟩ := HPa.out 3 _ rfl
  obtain ⟨p4, pf4⟩ := HPa.out 4 _ rfl
  obtain ⟨q0, qf0⟩ := HQa.out 0 _ rfl
  obtain ⟨q1, qf1⟩ := HQa.out 1 _ rfl
  obtain ⟨q2, qf2⟩ := HQa.out 2 _ rfl
  obtain ⟨q3, qf3⟩ := HQa.out 3 _ rfl
  obtain ⟨q4, qf4⟩ := HQa.out 4 _ rfl
  have ck := Haa.out k hkn
  have cgk := Hga.out k hkn
  clear Hga Haa
  go_wp2_with fail
  refine (HKG.out _).mono ?_
  rintro e w' ⟨rfl, hw'⟩
  subst w'
  clear HKG
  go_wp2
  obtain ⟨wF, hwF, hPF, hBF⟩ : ∃ wF : World, wF = (((((wa).setCell ⟨S + 1, 0, none⟩ (.int .i64 x)).setCell ⟨S + 1, 1, none⟩ (.bool pr)).setCell ⟨S + 1, 2, none⟩ (.int .i64 pp)).setCell ⟨S + 1, 3, none⟩ (.int .i64 sp)).setCell ⟨S + 1, 4, none⟩ (.int .i64 round) ∧
      PS wF (S + 1) (sc x pr pp sp round) ∧ Below S w wF :=
    ⟨_, rfl, PS_set (PS_set (PS_set (PS_set (PS_set (HQa.out) 0 _) 1 _) 2 _) 3 _) 4 _, ((((((hba2).setCell (by simp) _).setCell (by simp) _).setCell (by simp) _).setCell (by simp) _).setCell (by simp) _)⟩
  rw [← hwF]
  clear hwF
  obtain ⟨r0, _⟩ := hPF 0 _ rfl
  obtain ⟨r1, _⟩ := hPF 1 _ rfl
  obtain ⟨r2, _⟩ := hPF 2 _ rfl
  obtain ⟨r3, _⟩ := hPF 3 _ rfl
  obtain ⟨r4, _⟩ := hPF 4 _ rfl
  have HBF : Hid (Below w.heap.size w wF) := by rw [← HS.out]; exact hBF
  refine bodyPost_ret (v := .agg #[.int .i64 x, .bool pr, .int .i64 pp, .int .i64 sp, .int .i64 round]) (by simp [results, Try.results14, go_sem, r0, r1, r2, r3, r4]) rfl ⟨rfl, HBF.out⟩

set_option maxRecDepth 100000 in
set_option maxHeartbeats 1000000 in
theorem model_three_c (n : Nat) (f x pp sp se round : Int) (pr : Bool) (bg lg cg ba la ca : Nat) (got at' : Nat → Int) (w : World)
    (hn : 1 ≤ n) (hn2 : n ≤ 65536) (hlg : n < lg) (hla : n < la) (hlg2 : lg ≤ 65536) (hla2 : la ≤ 65536) (hg : Row w bg n got) (ha : Row w ba n at') (hf : 0 ≤ f) (hf2 : f ≤ n)
    (h0 : 0 ≤ round) (h2 : round ≤ 9223372036854775807) (hse : se < round) (hst : stg round = 3) (hst3 : stp round = 3) (h33 : 3 ≤ round) (k : Nat) (hk : kg round n = (k : Int)) (hkn : k ≤ n) (hc : sp < (n : Int) - f) (hat : at' k = round) :
    Calls Try.prog 14 #[.agg #[.int .i64 x, .bool pr, .int .i64 pp, .int .i64 sp, .int .i64 se], .int .i64 (n : Int), .int .i64 f, .slice (some ⟨bg, 0, none⟩) lg cg, .slice (some ⟨ba, 0, none⟩) la ca, .int .i64 round] w fun e w' => e = .returned (.agg #[.int .i64 (got k), .bool pr, .int .i64 pp, .int .i64 sp, .int .i64 round]) ∧ Below w.heap.size w w' := by
  have e1 : (stg round == 1) = false := by rw [hst]; rfl
  have e2 : (stg round == 2) = false := by rw [hst]; rfl
  have e3 : (stg round == 3) = true := by rw [hst]; rfl
  have hking : ∀ w, Calls Try.prog 10 #[.int .i64 round, .int .i64 (n : Int)] w fun e w' => e = .returned (.int .i64 (k : Int)) ∧ w' = w := fun w => by rw [← hk]; exact third_any round n w h33 h2 hst3 (by omega) (by omega)
  have HKG : Hid (∀ w, Calls Try.prog 10 #[.int .i64 round, .int .i64 (n : Int)] w fun e w' => e = .returned (.int .i64 (k : Int)) ∧ w' = w) := hking
  clear hst hk hking hst3
  have hab : (at' k == round) = true := by simp [hat]
  clear hat
  have hbg : bg < w.heap.size := World.block_lt_of_cell? w _ (hg 0 (by omega))
  have hba : ba < w.heap.size := World.block_lt_of_cell? w _ (ha 0 (by omega))
  have Hg : Hid (Row w bg n got) := hg
  have Ha : Hid (Row w ba n at') := ha
  clear hg ha
  go_enter Try.func14, Try.ntmps14
  go_wp2_with fail
  refine (stepOf_any round _ h0 h2).mono ?_
  rintro e w' ⟨rfl, rfl⟩
  obtain ⟨S, hS⟩ : ∃ S, S = w.heap.size := ⟨_, rfl⟩
  obtain ⟨wa, hwa, hPa, hQa, hba2, hsz⟩ : ∃ wa : World, wa = (w.alloc (.cells #[.int .i64 x, .bool pr, .int .i64 pp, .int .i64 sp, .int .i64 round] 42)).alloc (.cells #[.int .i64 0, .bool false, .int .i64 0, .int .i64 0, .int .i64 0] 42) ∧
      PS wa S (sc x pr pp sp round) ∧ PS wa (S + 1) (sc 0 false 0 0 0) ∧ Below w.heap.size w wa ∧ S + 2 ≤ wa.heap.size :=
    ⟨_, rfl, PS_alloc (PS_new w (sc x pr pp sp round) 42 _ hS) (by simp; omega) _, PS_new _ (sc 0 false 0 0 0) 42 _ (by simp; omega), ((Below.refl _ _).alloc (Nat.le_refl _) _).alloc (by simp) _, by simp; omega⟩
  rw [← hwa, ← hS]
  clear hwa
  have Hga : Hid (Row wa bg n got) := Row_below Hg.out hba2 hbg
  have Haa : Hid (Row wa ba n at') := Row_below Ha.out hba2 hba
  have HPa : Hid (PS wa S (sc x pr pp sp round)) := hPa
  have HQa : Hid (PS wa (S + 1) (sc 0 false 0 0 0)) := hQa
  have HS : Hid (S = w.heap.size) := hS
  rw [← hS] at hba2
  clear Hg Ha hPa hQa hS hbg hba
  obtain ⟨p0, pf0⟩ := HPa.out 0 _ rfl
  obtain ⟨p1, pf1⟩ := HPa.out 1 _ rfl
  obtain ⟨p2, pf2⟩ := HPa.out 2 _ rfl
  obtain ⟨p3, pf3⟩ := HPa.out 3 _ rfl
  obtain ⟨p4, pf4⟩ := HPa.out 4 _ rfl
  obtain ⟨q0, qf0⟩ := HQa.out 0 _ rfl
  obtain ⟨q1, qf1⟩ := HQa.out 1 _ rfl
  obtain ⟨q2, qf2⟩ := HQa.out 2 _ rfl
  obtain ⟨q3, qf3⟩ := HQa.out 3 _ rfl
  obtain ⟨q4, qf4⟩ := HQa.out 4 _ rfl
  have ck := Haa.out k hkn
  have cgk := Hga.out k hkn
  clear Hga Haa
  go_wp2_with fail
  refine (HKG.out _).mono ?_
  rintro e w' ⟨rfl, hw'⟩
  subst w'
  clear HKG
  go_wp2
  obtain ⟨wF, hwF, hPF, hBF⟩ : ∃ wF : World, wF = (((((wa.setCell ⟨S, 0, none⟩ (.int .i64 (got k))).setCell ⟨S + 1, 0, none⟩ (.int .i64 (got k))).setCell ⟨S + 1, 1, none⟩ (.bool pr)).setCell ⟨S + 1, 2, none⟩ (.int .i64 pp)).setCell ⟨S + 1, 3, none⟩ (.int .i64 sp)).setCell ⟨S + 1, 4, none⟩ (.int .i64 round) ∧
      PS wF (S + 1) (sc (got k) pr pp sp round) ∧ Below S w wF :=
    ⟨_, rfl, PS_set (PS_set (PS_set (PS_set (PS_set (PS_set_other HQa.out (by omega) 0 _) 0 _) 1 _) 2 _) 3 _) 4 _, ((((((hba2.setCell (by simp) _).setCell (by simp) _).setCell (by simp) _).setCell (by simp) _).setCell (by simp) _).setCell (by simp) _)⟩
  rw [← hwF]
  clear hwF
  obtain ⟨r0, _⟩ := hPF 0 _ rfl
  obtain ⟨r1, _⟩ := hPF 1 _ rfl
  obtain ⟨r2, _⟩ := hPF 2 _ rfl
  obtain ⟨r3, _⟩ := hPF 3 _ rfl
  obtain ⟨r4, _⟩ := hPF 4 _ rfl
  have HBF : Hid (Below w.heap.size w wF) := by rw [← HS.out]; exact hBF
  refine bodyPost_ret (v := .agg #[.int .i64 (got k), .bool pr, .int .i64 pp, .int .i64 sp, .int .i64 round]) (by simp [results, Try.results14, go_sem, r0, r1, r2, r3, r4]) rfl ⟨rfl, HBF.out⟩

end Go.Proofs.Qxb6619470a
