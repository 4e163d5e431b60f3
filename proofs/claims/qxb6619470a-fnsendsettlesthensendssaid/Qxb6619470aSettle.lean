import Derived.Test.Qxb6619470aMost
import Derived.Test.Qxb6619470aSettlePlain
namespace Go.Proofs.Qxb6619470a
open Go.RowKit
open Go.Proofs.Qxb6619470a.Mode
set_option linter.unusedVariables false

/-- The cells 0 .. n of block 'b' hold 'g'. -/
def Row (w : World) (b n : Nat) (g : Nat → Int) : Prop := ∀ q, q ≤ n → w.cell? ⟨b, q, none⟩ = some (.int .i64 (g q))

theorem Row_below {w w' : World} {b n M : Nat} {g : Nat → Int} (h : Row w b n g) (hb : Below M w w') (hM : b < M) : Row w' b n g :=
  fun q hq => (hb.cell (by exact hM)).trans (h q hq)

theorem cell_set_off (w : World) (B i j : Nat) (v : Value) (h : i ≠ j) : (w.setCell ⟨B, i, none⟩ v).cell? ⟨B, j, none⟩ = w.cell? ⟨B, j, none⟩ :=
  World.cell?_setCell_other _ _ _ _ (by simp only [ne_eq, Addr.mk.injEq]; exact fun e => h e.2.1)

/-- The process's room to count in is nil, or its own. -/
def Room (w : World) (B : Nat) (vr : Value) : Prop := ∃ ar Lr capr xr, vr = .slice ar Lr capr ∧ w.ownsRow (B + 1) 2 1 (.slice ar Lr capr) Lr xr

theorem Room_set {w : World} {B k : Nat} {vr u : Value} (h : Room w B vr) : Room (w.setCell ⟨B, k, none⟩ u) B vr := by
  obtain ⟨ar, Lr, capr, xr, rfl, h⟩ := h
  exact ⟨ar, Lr, capr, xr, rfl, ownsRow_set_below h (by omega)⟩

theorem PS_drew {w : World} {B : Nat} {c : List Value} (h : PS w B c) : PS w.drew B c := h
theorem Room_drew {w : World} {B : Nat} {v : Value} (h : Room w B v) : Room w.drew B v := h

/-- Where settle leaves the process. -/
def Settled (w : World) (B n : Nat) (id f rd : Int) (vg va vi vo : Value) (t : St) (e : Ending) (w' : World) : Prop :=
  e = .returned (.tuple #[]) ∧ ∃ vr, Room w' B vr ∧ PS w' B (pcells id n f t.x t.pr t.pp t.sp vg va vr rd t.se vi vo) ∧ Below B w w'

set_option maxRecDepth 100000 in
set_option maxHeartbeats 1000000 in
theorem settle_one (B n : Nat) (id f x pp sp rd se round : Int) (pr : Bool) (bg lg cg ba la ca : Nat) (got at' : Nat → Int) (vr vi vo : Value) (w : World)
    (hP : PS w B (pcells id n f x pr pp sp (.slice (some ⟨bg, 0, none⟩) lg cg) (.slice (some ⟨ba, 0, none⟩) la ca) vr rd se vi vo))
    (hroom : Room w B vr) (hn : 1 ≤ n) (hn2 : n ≤ 65536) (hlg : n < lg) (hla : n < la) (hlg2 : lg ≤ 65536) (hla2 : la ≤ 65536) (hbg : bg < B) (hba : ba < B)
    (hg : Row w bg n got) (ha : Row w ba n at') (hf : 0 ≤ f) (hf2 : f ≤ n) (hse : se < round) (h1 : 1 ≤ round) (h2 : round ≤ 9223372036854775807) (hs : stp round = 1) :
    Calls Try.prog 19 #[.pointer (some ⟨B, 0, none⟩), .int .i64 round] w fun e w' => ∃ t : St, (∃ v c, ModeOf (cl x true got at' round n) v c ∧ t.x = x ∧ t.pr = decide ((n : Int) - f ≤ (c : Int)) ∧ t.pp = v ∧ t.sp = sp ∧ t.se = round) ∧
      Settled w B n id f rd (.slice (some ⟨bg, 0, none⟩) lg cg) (.slice (some ⟨ba, 0, none⟩) la ca) vi vo t e w' := by
  have e1 : (stp round == 1) = true := by rw [hs]; rfl
  clear hs
  obtain ⟨c11, f11⟩ := hP 11 _ rfl
  have hBs : B < w.heap.size := World.block_lt_of_cell? w _ c11
  obtain ⟨wa, hwa, hPa, hRa, hga, haa, hbwa⟩ : ∃ wa : World, wa = w.setCell ⟨B, 11, none⟩ (.int .i64 round) ∧ PS wa B (pcells id n f x pr pp sp (.slice (some ⟨bg, 0, none⟩) lg cg) (.slice (some ⟨ba, 0, none⟩) la ca) vr rd round vi vo) ∧ Room wa B vr ∧ Row wa bg n got ∧ Row wa ba n at' ∧ Below B w wa :=
    ⟨_, rfl, PS_set hP 11 _, Room_set hroom, Row_below hg ((Below.refl B w).setCell (by simp) _) hbg, Row_below ha ((Below.refl B w).setCell (by simp) _) hba, (Below.refl B w).setCell (by simp) _⟩
  have Hwa : Hid (wa = w.setCell ⟨B, 11, none⟩ (.int .i64 round)) := hwa
  have HPa : Hid (PS wa B (pcells id n f x pr pp sp (.slice (some ⟨bg, 0, none⟩) lg cg) (.slice (some ⟨ba, 0, none⟩) la ca) vr rd round vi vo)) := hPa
  have HRa : Hid (Room wa B vr) := hRa
  have Hga : Hid (Row wa bg n got) := hga
  have Haa : Hid (Row wa ba n at') := haa
  clear hP hroom hg ha hwa hPa hRa hga haa
  go_enter Try.func19, Try.ntmps19
  go_wp2_with fail
  refine (step_pos round _ h1 h2).mono ?_
  rintro e w' ⟨rfl, rfl⟩
  rw [← Hwa.out]
  clear c11 f11 hBs Hwa
  obtain ⟨c3, f3⟩ := HPa.out 3 _ rfl
  obtain ⟨ar, Lr, capr, xr, hvr, hro⟩ := HRa.out
  have Hmost := most_true B n id f x pp sp rd round x round pr bg lg cg ba la ca got at' ar Lr capr xr vi vo wa (by rw [← hvr]; exact HPa.out) hro hn2 hlg hla hlg2 hla2 hbg hba Hga.out Haa.out
  have HM : Hid (Calls Try.prog 25 #[.pointer (some ⟨B, 0, none⟩), .int .i64 round, .int .i64 x, .bool true] wa fun e w' =>
      ∃ (v : Int) (c : Nat) (a : Option Addr) (cap : Nat) (s : List Int), e = .returned (.tuple #[.int .i64 v, .int .i64 (c : Int)]) ∧ ModeOf (cl x true got at' round n) v c ∧ s.Perm (cl x true got at' round n) ∧
        PS w' B (pcells id n f x pr pp sp (.slice (some ⟨bg, 0, none⟩) lg cg) (.slice (some ⟨ba, 0, none⟩) la ca) (.slice a s.length cap) rd round vi vo) ∧ w'.ownsRow (B + 1) 2 1 (.slice a s.length cap) s.length (s.map (Value.int .i64)) ∧ Below B wa w') := Hmost
  clear Hmost hvr hro HPa HRa Hga Haa
  go_wp2_with fail
  refine HM.out.mono ?_
  rintro e w2 ⟨v, c, a, cap, s, rfl, hmode, hperm, hP2, hO2, hb2⟩
  have hcb : c ≤ 65537 := by have h1 := ModeOf_le hmode; have h2 := cl_le x true got at' round n; omega
  have HMo : Hid (ModeOf (cl x true got at' round n) v c) := hmode
  have HP2 : Hid (PS w2 B (pcells id n f x pr pp sp (.slice (some ⟨bg, 0, none⟩) lg cg) (.slice (some ⟨ba, 0, none⟩) la ca) (.slice a s.length cap) rd round vi vo)) := hP2
  have HO2 : Hid (Room w2 B (.slice a s.length cap)) := ⟨a, s.length, cap, _, rfl, hO2⟩
  have hB2 : Below B w w2 := hbwa.trans hb2
  obtain ⟨c1, f1⟩ := hP2 1 _ rfl
  obtain ⟨c2, f2⟩ := hP2 2 _ rfl
  obtain ⟨c4, f4⟩ := hP2 4 _ rfl
  obtain ⟨c5, f5⟩ := hP2 5 _ rfl
  clear HM hmode hperm hP2 hO2 hb2 c3 f3 hbwa
  have hwr : IntKind.i64.wrap ((n : Int) - f) = (n : Int) - f := by rw [IntKind.wrap_i64]; omega
  go_wp2
  go_region_held3 (fun w' => w'.cell? ⟨B, 1, none⟩ = some (.int .i64 (n : Int)) ∧ w'.cell? ⟨B, 2, none⟩ = some (.int .i64 f)) (refine ⟨?_, ?_⟩ <;> simp [cell_set_off, c1, c2]) (fail)
  go_wp2
  go_end0
  exact ⟨⟨x, decide ((n : Int) - f ≤ (c : Int)), v, sp, round⟩, ⟨v, c, HMo.out, rfl, rfl, rfl, rfl, rfl⟩, rfl, _, Room_drew (Room_set (Room_set HO2.out)), PS_drew (PS_set (PS_set HP2.out 4 _) 5 _), ((hB2.setCell (by simp) _).setCell (by simp) _).drew⟩

theorem settle_zero (B n : Nat) (id f x pp sp rd se round : Int) (pr : Bool) (bg lg cg ba la ca : Nat) (got at' : Nat → Int) (vr vi vo : Value) (w : World)
    (hP : PS w B (pcells id n f x pr pp sp (.slice (some ⟨bg, 0, none⟩) lg cg) (.slice (some ⟨ba, 0, none⟩) la ca) vr rd se vi vo))
    (hroom : Room w B vr) (hn : 1 ≤ n) (hn2 : n ≤ 65536) (hlg : n < lg) (hla : n < la) (hlg2 : lg ≤ 65536) (hla2 : la ≤ 65536) (hbg : bg < B) (hba : ba < B)
    (hg : Row w bg n got) (ha : Row w ba n at') (hf : 0 ≤ f) (hf2 : f ≤ n) (hse : se < 0) :
    Calls Try.prog 19 #[.pointer (some ⟨B, 0, none⟩), .int .i64 0] w fun e w' => Settled w B n id f rd (.slice (some ⟨bg, 0, none⟩) lg cg) (.slice (some ⟨ba, 0, none⟩) la ca) vi vo ⟨x, pr, pp, sp, 0⟩ e w' := by
  obtain ⟨c11, f11⟩ := hP 11 _ rfl
  have hBs : B < w.heap.size := World.block_lt_of_cell? w _ c11
  obtain ⟨wa, hwa, hPa, hRa, hga, haa, hbwa⟩ : ∃ wa : World, wa = w.setCell ⟨B, 11, none⟩ (.int .i64 0) ∧ PS wa B (pcells id n f x pr pp sp (.slice (some ⟨bg, 0, none⟩) lg cg) (.slice (some ⟨ba, 0, none⟩) la ca) vr rd 0 vi vo) ∧ Room wa B vr ∧ Row wa bg n got ∧ Row wa ba n at' ∧ Below B w wa :=
    ⟨_, rfl, PS_set hP 11 _, Room_set hroom, Row_below hg ((Below.refl B w).setCell (by simp) _) hbg, Row_below ha ((Below.refl B w).setCell (by simp) _) hba, (Below.refl B w).setCell (by simp) _⟩
  have Hwa : Hid (wa = w.setCell ⟨B, 11, none⟩ (.int .i64 0)) := hwa
  have HPa : Hid (PS wa B (pcells id n f x pr pp sp (.slice (some ⟨bg, 0, none⟩) lg cg) (.slice (some ⟨ba, 0, none⟩) la ca) vr rd 0 vi vo)) := hPa
  have HRa : Hid (Room wa B vr) := hRa
  have Hga : Hid (Row wa bg n got) := hga
  have Haa : Hid (Row wa ba n at') := haa
  clear hP hroom hg ha hwa hPa hRa hga haa
  go_enter Try.func19, Try.ntmps19
  go_wp2_with fail
  refine (step_zero _).mono ?_
  rintro e w' ⟨rfl, rfl⟩
  rw [← Hwa.out]
  clear c11 f11 hBs Hwa
  go_wp2
  go_end0
  exact ⟨rfl, vr, HRa.out, HPa.out, hbwa⟩

theorem most_any (B n : Nat) (id f x pp sp rd se own round : Int) (pr has : Bool) (bg lg cg ba la ca : Nat) (got at' : Nat → Int) (vr vi vo : Value) (w : World)
    (hP : PS w B (pcells id n f x pr pp sp (.slice (some ⟨bg, 0, none⟩) lg cg) (.slice (some ⟨ba, 0, none⟩) la ca) vr rd se vi vo))
    (hroom : Room w B vr) (hn2 : n ≤ 65536) (hlg : n < lg) (hla : n < la) (hlg2 : lg ≤ 65536) (hla2 : la ≤ 65536) (hbg : bg < B) (hba : ba < B) (hg : Row w bg n got) (ha : Row w ba n at') :
    Calls Try.prog 25 #[.pointer (some ⟨B, 0, none⟩), .int .i64 round, .int .i64 own, .bool has] w fun e w' =>
      ∃ (v : Int) (c : Nat) (a : Option Addr) (cap : Nat) (s : List Int), e = .returned (.tuple #[.int .i64 v, .int .i64 (c : Int)]) ∧ ModeOf (cl own has got at' round n) v c ∧ s.Perm (cl own has got at' round n) ∧
        PS w' B (pcells id n f x pr pp sp (.slice (some ⟨bg, 0, none⟩) lg cg) (.slice (some ⟨ba, 0, none⟩) la ca) (.slice a s.length cap) rd se vi vo) ∧ w'.ownsRow (B + 1) 2 1 (.slice a s.length cap) s.length (s.map (Value.int .i64)) ∧ Below B w w' := by
  obtain ⟨ar, Lr, capr, xr, rfl, hro⟩ := hroom
  cases has
  · exact most_false B n id f x pp sp rd se own round pr bg lg cg ba la ca got at' ar Lr capr xr vi vo w hP hro hn2 hlg hla hlg2 hla2 hbg hba hg ha
  · exact most_true B n id f x pp sp rd se own round pr bg lg cg ba la ca got at' ar Lr capr xr vi vo w hP hro hn2 hlg hla hlg2 hla2 hbg hba hg ha

theorem count_snoc {s : List Int} {i : Nat} {z y : Int} (h : s[i]? = some z) : (s.take (i + 1)).count y = (s.take i).count y + if z = y then 1 else 0 := by
  rw [take_snoc' h, List.count_append]
  congr 1
  by_cases e : z = y
  · subst e; simp
  · rw [if_neg e, List.count_eq_zero]; simpa using fun h => e h.symm

set_option maxRecDepth 100000 in
set_option maxHeartbeats 1000000 in
theorem settle_two (B n : Nat) (id f x pp sp rd se round : Int) (pr : Bool) (bg lg cg ba la ca : Nat) (got at' : Nat → Int) (vr vi vo : Value) (w : World)
    (hP : PS w B (pcells id n f x pr pp sp (.slice (some ⟨bg, 0, none⟩) lg cg) (.slice (some ⟨ba, 0, none⟩) la ca) vr rd se vi vo))
    (hroom : Room w B vr) (hn : 1 ≤ n) (hn2 : n ≤ 65536) (hlg : n < lg) (hla : n < la) (hlg2 : lg ≤ 65536) (hla2 : la ≤ 65536) (hbg : bg < B) (hba : ba < B)
    (hg : Row w bg n got) (ha : Row w ba n at') (hf : 0 ≤ f) (hf2 : f ≤ n) (hse : se < round) (h1 : 1 ≤ round) (h2 : round ≤ 9223372036854775807) (hs : stp round = 2) :
    Calls Try.prog 19 #[.pointer (some ⟨B, 0, none⟩), .int .i64 round] w fun e w' => ∃ t : St, (∃ v c, ModeOf (cl pp pr got at' round n) v c ∧ t.x = (if f < (c : Int) then v else x) ∧ t.pr = pr ∧ t.pp = pp ∧ t.sp = ((cl pp pr got at' round n).count t.x : Int) ∧ t.se = round) ∧
      Settled w B n id f rd (.slice (some ⟨bg, 0, none⟩) lg cg) (.slice (some ⟨ba, 0, none⟩) la ca) vi vo t e w' := by
  have e1 : (stp round == 1) = false := by rw [hs]; rfl
  have e2 : (stp round == 2) = true := by rw [hs]; rfl
  clear hs
  obtain ⟨c11, f11⟩ := hP 11 _ rfl
  have hBs : B < w.heap.size := World.block_lt_of_cell? w _ c11
  obtain ⟨wa, hwa, hPa, hRa, hga, haa, hbwa⟩ : ∃ wa : World, wa = w.setCell ⟨B, 11, none⟩ (.int .i64 round) ∧ PS wa B (pcells id n f x pr pp sp (.slice (some ⟨bg, 0, none⟩) lg cg) (.slice (some ⟨ba, 0, none⟩) la ca) vr rd round vi vo) ∧ Room wa B vr ∧ Row wa bg n got ∧ Row wa ba n at' ∧ Below B w wa :=
    ⟨_, rfl, PS_set hP 11 _, Room_set hroom, Row_below hg ((Below.refl B w).setCell (by simp) _) hbg, Row_below ha ((Below.refl B w).setCell (by simp) _) hba, (Below.refl B w).setCell (by simp) _⟩
  have Hwa : Hid (wa = w.setCell ⟨B, 11, none⟩ (.int .i64 round)) := hwa
  have HPa : Hid (PS wa B (pcells id n f x pr pp sp (.slice (some ⟨bg, 0, none⟩) lg cg) (.slice (some ⟨ba, 0, none⟩) la ca) vr rd round vi vo)) := hPa
  have HRa : Hid (Room wa B vr) := hRa
  have Hga : Hid (Row wa bg n got) := hga
  have Haa : Hid (Row wa ba n at') := haa
  clear hP hroom hg ha hwa hPa hRa hga haa
  go_enter Try.func19, Try.ntmps19
  go_wp2_with fail
  refine (step_pos round _ h1 h2).mono ?_
  rintro e w' ⟨rfl, rfl⟩
  rw [← Hwa.out]
  clear c11 f11 hBs Hwa
  obtain ⟨c4, f4⟩ := HPa.out 4 _ rfl
  obtain ⟨c5, f5⟩ := HPa.out 5 _ rfl
  have Hmost := most_any B n id f x pp sp rd round pp round pr pr bg lg cg ba la ca got at' vr vi vo wa.drew HPa.out HRa.out hn2 hlg hla hlg2 hla2 hbg hba Hga.out Haa.out
  have HM : Hid (Calls Try.prog 25 #[.pointer (some ⟨B, 0, none⟩), .int .i64 round, .int .i64 pp, .bool pr] wa.drew fun e w' =>
      ∃ (v : Int) (c : Nat) (a : Option Addr) (cap : Nat) (s : List Int), e = .returned (.tuple #[.int .i64 v, .int .i64 (c : Int)]) ∧ ModeOf (cl pp pr got at' round n) v c ∧ s.Perm (cl pp pr got at' round n) ∧
        PS w' B (pcells id n f x pr pp sp (.slice (some ⟨bg, 0, none⟩) lg cg) (.slice (some ⟨ba, 0, none⟩) la ca) (.slice a s.length cap) rd round vi vo) ∧ w'.ownsRow (B + 1) 2 1 (.slice a s.length cap) s.length (s.map (Value.int .i64)) ∧ Below B wa.drew w') := Hmost
  clear Hmost HPa HRa Hga Haa
  go_wp2
  go_region_held3 (fun w' => w'.cell? ⟨B, 5, none⟩ = some (.int .i64 pp) ∧ w'.cell? ⟨B, 4, none⟩ = some (.bool pr)) (first | (exact ⟨k5, k4⟩) | (refine ⟨?_, ?_⟩ <;> simp [c4, c5]))
    ((go_at_call 25; refine HM.out.mono ?_; rintro e w2 ⟨v, c, a, cap, s, rfl, hmode, hperm, hP2, hO2, hb2⟩; have k5 := (hP2 5 _ rfl).1; have k4 := (hP2 4 _ rfl).1))
  have hcb : c ≤ 65537 := by have h1 := ModeOf_le hmode; have h2 := cl_le pp pr got at' round n; omega
  have hslen : s.length ≤ 65537 := by rw [hperm.length_eq]; exact Nat.le_trans (cl_le pp pr got at' round n) (by omega)
  have HMo : Hid (ModeOf (cl pp pr got at' round n) v c) := hmode
  have Hperm : Hid (s.Perm (cl pp pr got at' round n)) := hperm
  have HP2 : Hid (PS w2 B (pcells id n f x pr pp sp (.slice (some ⟨bg, 0, none⟩) lg cg) (.slice (some ⟨ba, 0, none⟩) la ca) (.slice a s.length cap) rd round vi vo)) := hP2
  have HO2 : Hid (w2.ownsRow (B + 1) 2 1 (.slice a s.length cap) s.length (s.map (Value.int .i64))) := hO2
  have hB2 : Below B w w2 := hbwa.trans ⟨hb2.os, hb2.tape, hb2.output, hb2.size, hb2.block⟩
  obtain ⟨c2, f2⟩ := hP2 2 _ rfl
  obtain ⟨c3, f3⟩ := hP2 3 _ rfl
  obtain ⟨c6, f6⟩ := hP2 6 _ rfl
  obtain ⟨c9, f9⟩ := hP2 9 _ rfl
  clear HM hmode hperm hP2 hO2 hb2 c4 f4 c5 f5 hbwa k4 k5
  by_cases hcf : f < (c : Int)
  · have HCF : Hid (f < (c : Int)) := hcf
    go_wp2
    obtain ⟨w3, hw3, hP3, hO3, hB3⟩ : ∃ w3 : World, w3 = (w2.setCell ⟨B, 3, none⟩ (.int .i64 v)).setCell ⟨B, 6, none⟩ (.int .i64 0) ∧ PS w3 B (pcells id n f v pr pp 0 (.slice (some ⟨bg, 0, none⟩) lg cg) (.slice (some ⟨ba, 0, none⟩) la ca) (.slice a s.length cap) rd round vi vo) ∧ w3.ownsRow (B + 1) 2 1 (.slice a s.length cap) s.length (s.map (Value.int .i64)) ∧ Below B w w3 :=
      ⟨_, rfl, PS_set (PS_set HP2.out 3 _) 6 _, ownsRow_set_below (ownsRow_set_below HO2.out (by omega)) (by omega), (hB2.setCell (by simp) _).setCell (by simp) _⟩
    rw [← hw3]
    clear hw3 c2 f2 c3 f3 c6 f6 c9 f9 HP2 HO2 hB2
    obtain ⟨L, hL⟩ : ∃ L, L = s.length := ⟨_, rfl⟩
    rw [← hL] at hslen hP3 hO3 ⊢
    have HLs : Hid (L = s.length) := hL
    have HP3 : Hid (PS w3 B (pcells id n f v pr pp 0 (.slice (some ⟨bg, 0, none⟩) lg cg) (.slice (some ⟨ba, 0, none⟩) la ca) (.slice a L cap) rd round vi vo)) := hP3
    have HO3 : Hid (w3.ownsRow (B + 1) 2 1 (.slice a L cap) L (s.map (Value.int .i64))) := hO3
    clear hL hP3 hO3
    go_loopw [87] (fun t wr => ∃ i : Nat, i ≤ L ∧ t = .int .i64 (i : Int) ∧ PS wr B (pcells id n f v pr pp ((s.take i).count v : Int) (.slice (some ⟨bg, 0, none⟩) lg cg) (.slice (some ⟨ba, 0, none⟩) la ca) (.slice a L cap) rd round vi vo) ∧ wr.ownsRow (B + 1) 2 1 (.slice a L cap) L (s.map (Value.int .i64)) ∧ Below B w wr) (fun t _ => L - (intOf t).toNat)
    case atStart => exact ⟨0, Nat.zero_le _, by go_num, HP3.out, HO3.out, hB3⟩
    case round =>
      obtain ⟨i, hi, rfl, hPr, hOr, hBr⟩ := hrel
      have HPr : Hid (PS wr B (pcells id n f v pr pp ((s.take i).count v : Int) (.slice (some ⟨bg, 0, none⟩) lg cg) (.slice (some ⟨ba, 0, none⟩) la ca) (.slice a L cap) rd round vi vo)) := hPr
      have HOr : Hid (wr.ownsRow (B + 1) 2 1 (.slice a L cap) L (s.map (Value.int .i64))) := hOr
      clear HP3 HO3 hB3
      by_cases hlt : i < L
      · obtain ⟨g, rfl, _, _, hc⟩ := own_cell hOr (by omega)
        obtain ⟨z, hz⟩ : ∃ z, s[i]? = some z := ⟨_, List.getElem?_eq_getElem (by rw [← HLs.out]; exact hlt)⟩
        have ci : wr.cell? ⟨g, i, none⟩ = some (.int .i64 z) := hc i _ (by simp [hz])
        obtain ⟨c3, f3⟩ := hPr 3 _ rfl
        obtain ⟨c6, f6⟩ := hPr 6 _ rfl
        have hcl : (s.take i).count v ≤ i := Nat.le_trans List.count_le_length (by simp; omega)
        have HCN := count_snoc (y := v) hz
        obtain ⟨cn, hcn⟩ : ∃ cn : Nat, cn = (s.take i).count v := ⟨_, rfl⟩
        rw [← hcn] at c6 hcl HCN
        have Hcn : Hid (cn = (s.take i).count v) := hcn
        clear hPr hOr hc hz hcn
        by_cases hzx : z = v
        · have hzb : (z == v) = true := by simp [hzx]
          have HC2 : Hid (((s.take (i + 1)).count v : Int) = (cn : Int) + 1) := by show _ = _; rw [HCN, if_pos hzx]; omega
          have HP4 : Hid (PS (wr.setCell ⟨B, 6, none⟩ (.int .i64 ((cn : Int) + 1))) B (pcells id n f v pr pp ((s.take (i + 1)).count v : Int) (.slice (some ⟨bg, 0, none⟩) lg cg) (.slice (some ⟨ba, 0, none⟩) la ca) (.slice (some ⟨g, 0, none⟩) L cap) rd round vi vo)) := by
            rw [HC2.out]
            exact PS_set HPr.out 6 _
          clear hzx HCN
          go_wp2
          go_roundw
          case rel => exact ⟨i + 1, by omega, by go_num, HP4.out, ownsRow_set_below HOr.out (by omega), hBr.setCell (by simp) _⟩
          case measure => simp [intOf]; omega
        · have hzb : (z == v) = false := beq_no hzx
          have HC2 : Hid ((s.take (i + 1)).count v = (s.take i).count v) := by show _ = _; rw [HCN, if_neg hzx, ← Hcn.out]; omega
          clear hzx HCN
          go_wp2
          go_roundw
          case rel => exact ⟨i + 1, by omega, by go_num, by rw [HC2.out]; exact HPr.out, HOr.out, hBr⟩
          case measure => simp [intOf]; omega
      · obtain rfl : i = L := by omega
        have HC3 : Hid ((s.take i).count v = (cl pp pr got at' round n).count v) := by show _ = _; rw [HLs.out, List.take_length]; exact Hperm.out.count_eq _
        go_wp2
        go_end0
        exact ⟨⟨v, pr, pp, ((cl pp pr got at' round n).count v : Int), round⟩, ⟨v, c, HMo.out, by rw [if_pos HCF.out], rfl, rfl, rfl, rfl⟩, rfl, _, ⟨a, i, cap, _, rfl, HOr.out⟩, by have := HPr.out; rw [HC3.out] at this; exact this, hBr⟩
  · have HCF : Hid (¬ f < (c : Int)) := hcf
    go_wp2
    obtain ⟨w3, hw3, hP3, hO3, hB3⟩ : ∃ w3 : World, w3 = w2.setCell ⟨B, 6, none⟩ (.int .i64 0) ∧ PS w3 B (pcells id n f x pr pp 0 (.slice (some ⟨bg, 0, none⟩) lg cg) (.slice (some ⟨ba, 0, none⟩) la ca) (.slice a s.length cap) rd round vi vo) ∧ w3.ownsRow (B + 1) 2 1 (.slice a s.length cap) s.length (s.map (Value.int .i64)) ∧ Below B w w3 :=
      ⟨_, rfl, PS_set HP2.out 6 _, ownsRow_set_below HO2.out (by omega), hB2.setCell (by simp) _⟩
    rw [← hw3]
    clear hw3 c2 f2 c3 f3 c6 f6 c9 f9 HP2 HO2 hB2
    obtain ⟨L, hL⟩ : ∃ L, L = s.length := ⟨_, rfl⟩
    rw [← hL] at hslen hP3 hO3 ⊢
    have HLs : Hid (L = s.length) := hL
    have HP3 : Hid (PS w3 B (pcells id n f x pr pp 0 (.slice (some ⟨bg, 0, none⟩) lg cg) (.slice (some ⟨ba, 0, none⟩) la ca) (.slice a L cap) rd round vi vo)) := hP3
    have HO3 : Hid (w3.ownsRow (B + 1) 2 1 (.slice a L cap) L (s.map (Value.int .i64))) := hO3
    clear hL hP3 hO3
    go_loopw [87] (fun t wr => ∃ i : Nat, i ≤ L ∧ t = .int .i64 (i : Int) ∧ PS wr B (pcells id n f x pr pp ((s.take i).count x : Int) (.slice (some ⟨bg, 0, none⟩) lg cg) (.slice (some ⟨ba, 0, none⟩) la ca) (.slice a L cap) rd round vi vo) ∧ wr.ownsRow (B + 1) 2 1 (.slice a L cap) L (s.map (Value.int .i64)) ∧ Below B w wr) (fun t _ => L - (intOf t).toNat)
    case atStart => exact ⟨0, Nat.zero_le _, by go_num, HP3.out, HO3.out, hB3⟩
    case round =>
      obtain ⟨i, hi, rfl, hPr, hOr, hBr⟩ := hrel
      have HPr : Hid (PS wr B (pcells id n f x pr pp ((s.take i).count x : Int) (.slice (some ⟨bg, 0, none⟩) lg cg) (.slice (some ⟨ba, 0, none⟩) la ca) (.slice a L cap) rd round vi vo)) := hPr
      have HOr : Hid (wr.ownsRow (B + 1) 2 1 (.slice a L cap) L (s.map (Value.int .i64))) := hOr
      clear HP3 HO3 hB3
      by_cases hlt : i < L
      · obtain ⟨g, rfl, _, _, hc⟩ := own_cell hOr (by omega)
        obtain ⟨z, hz⟩ : ∃ z, s[i]? = some z := ⟨_, List.getElem?_eq_getElem (by rw [← HLs.out]; exact hlt)⟩
        have ci : wr.cell? ⟨g, i, none⟩ = some (.int .i64 z) := hc i _ (by simp [hz])
        obtain ⟨c3, f3⟩ := hPr 3 _ rfl
        obtain ⟨c6, f6⟩ := hPr 6 _ rfl
        have hcl : (s.take i).count x ≤ i := Nat.le_trans List.count_le_length (by simp; omega)
        have HCN := count_snoc (y := x) hz
        obtain ⟨cn, hcn⟩ : ∃ cn : Nat, cn = (s.take i).count x := ⟨_, rfl⟩
        rw [← hcn] at c6 hcl HCN
        have Hcn : Hid (cn = (s.take i).count x) := hcn
        clear hPr hOr hc hz hcn
        by_cases hzx : z = x
        · have hzb : (z == x) = true := by simp [hzx]
          have HC2 : Hid (((s.take (i + 1)).count x : Int) = (cn : Int) + 1) := by show _ = _; rw [HCN, if_pos hzx]; omega
          have HP4 : Hid (PS (wr.setCell ⟨B, 6, none⟩ (.int .i64 ((cn : Int) + 1))) B (pcells id n f x pr pp ((s.take (i + 1)).count x : Int) (.slice (some ⟨bg, 0, none⟩) lg cg) (.slice (some ⟨ba, 0, none⟩) la ca) (.slice (some ⟨g, 0, none⟩) L cap) rd round vi vo)) := by
            rw [HC2.out]
            exact PS_set HPr.out 6 _
          clear hzx HCN
          go_wp2
          go_roundw
          case rel => exact ⟨i + 1, by omega, by go_num, HP4.out, ownsRow_set_below HOr.out (by omega), hBr.setCell (by simp) _⟩
          case measure => simp [intOf]; omega
        · have hzb : (z == x) = false := beq_no hzx
          have HC2 : Hid ((s.take (i + 1)).count x = (s.take i).count x) := by show _ = _; rw [HCN, if_neg hzx, ← Hcn.out]; omega
          clear hzx HCN
          go_wp2
          go_roundw
          case rel => exact ⟨i + 1, by omega, by go_num, by rw [HC2.out]; exact HPr.out, HOr.out, hBr⟩
          case measure => simp [intOf]; omega
      · obtain rfl : i = L := by omega
        have HC3 : Hid ((s.take i).count x = (cl pp pr got at' round n).count x) := by show _ = _; rw [HLs.out, List.take_length]; exact Hperm.out.count_eq _
        go_wp2
        go_end0
        exact ⟨⟨x, pr, pp, ((cl pp pr got at' round n).count x : Int), round⟩, ⟨v, c, HMo.out, by rw [if_neg (by have := HCF.out; omega)], rfl, rfl, rfl, rfl⟩, rfl, _, ⟨a, i, cap, _, rfl, HOr.out⟩, by have := HPr.out; rw [HC3.out] at this; exact this, hBr⟩

set_option maxRecDepth 100000 in
set_option maxHeartbeats 1000000 in
theorem settle_three_a (B n : Nat) (id f x pp sp rd se round : Int) (pr : Bool) (bg lg cg ba la ca : Nat) (got at' : Nat → Int) (vr vi vo : Value) (w : World)
    (hP : PS w B (pcells id n f x pr pp sp (.slice (some ⟨bg, 0, none⟩) lg cg) (.slice (some ⟨ba, 0, none⟩) la ca) vr rd se vi vo))
    (hroom : Room w B vr) (hn : 1 ≤ n) (hn2 : n ≤ 65536) (hlg : n < lg) (hla : n < la) (hlg2 : lg ≤ 65536) (hla2 : la ≤ 65536) (hbg : bg < B) (hba : ba < B)
    (hg : Row w bg n got) (ha : Row w ba n at') (hf : 0 ≤ f) (hf2 : f ≤ n) (hse : se < round) (h1 : 1 ≤ round) (h2 : round ≤ 9223372036854775807) (hs : stp round = 3) (k : Nat) (hk : kg round n = (k : Int)) (hkn : k ≤ n) (hc : ¬ sp < (n : Int) - f) :
    Calls Try.prog 19 #[.pointer (some ⟨B, 0, none⟩), .int .i64 round] w fun e w' => Settled w B n id f rd (.slice (some ⟨bg, 0, none⟩) lg cg) (.slice (some ⟨ba, 0, none⟩) la ca) vi vo ⟨x, pr, pp, sp, round⟩ e w' := by
  have e1 : (stp round == 1) = false := by rw [hs]; rfl
  have e2 : (stp round == 2) = false := by rw [hs]; rfl
  have e3 : (stp round == 3) = true := by rw [hs]; rfl
  have hking : ∀ w, Calls Try.prog 21 #[.int .i64 round, .int .i64 (n : Int)] w fun e w' => e = .returned (.int .i64 (k : Int)) ∧ w' = w := fun w => by rw [← hk]; exact kingOf_any round n w h1 h2 (by omega) (by omega)
  have HKG : Hid (∀ w, Calls Try.prog 21 #[.int .i64 round, .int .i64 (n : Int)] w fun e w' => e = .returned (.int .i64 (k : Int)) ∧ w' = w) := hking
  clear hs hk hking
  have hd : decide (sp < (n : Int) - f) = false := by simp; omega
  clear hc
  obtain ⟨c11, f11⟩ := hP 11 _ rfl
  have hBs : B < w.heap.size := World.block_lt_of_cell? w _ c11
  obtain ⟨wa, hwa, hPa, hRa, hga, haa, hbwa⟩ : ∃ wa : World, wa = w.setCell ⟨B, 11, none⟩ (.int .i64 round) ∧ PS wa B (pcells id n f x pr pp sp (.slice (some ⟨bg, 0, none⟩) lg cg) (.slice (some ⟨ba, 0, none⟩) la ca) vr rd round vi vo) ∧ Room wa B vr ∧ Row wa bg n got ∧ Row wa ba n at' ∧ Below B w wa :=
    ⟨_, rfl, PS_set hP 11 _, Room_set hroom, Row_below hg ((Below.refl B w).setCell (by simp) _) hbg, Row_below ha ((Below.refl B w).setCell (by simp) _) hba, (Below.refl B w).setCell (by simp) _⟩
  have Hwa : Hid (wa = w.setCell ⟨B, 11, none⟩ (.int .i64 round)) := hwa
  have HPa : Hid (PS wa B (pcells id n f x pr pp sp (.slice (some ⟨bg, 0, none⟩) lg cg) (.slice (some ⟨ba, 0, none⟩) la ca) vr rd round vi vo)) := hPa
  have HRa : Hid (Room wa B vr) := hRa
  have Hga : Hid (Row wa bg n got) := hga
  have Haa : Hid (Row wa ba n at') := haa
  clear hP hroom hg ha hwa hPa hRa hga haa
  go_enter Try.func19, Try.ntmps19
  go_wp2_with fail
  refine (step_pos round _ h1 h2).mono ?_
  rintro e w' ⟨rfl, rfl⟩
  rw [← Hwa.out]
  clear c11 f11 hBs Hwa
  obtain ⟨c1, f1⟩ := HPa.out 1 _ rfl
  obtain ⟨c2, f2⟩ := HPa.out 2 _ rfl
  obtain ⟨c3, f3⟩ := HPa.out 3 _ rfl
  obtain ⟨c6, f6⟩ := HPa.out 6 _ rfl
  obtain ⟨c7, f7⟩ := HPa.out 7 _ rfl
  obtain ⟨c8, f8⟩ := HPa.out 8 _ rfl
  have ck := Haa.out k hkn
  have cgk := Hga.out k hkn
  have hBa : B < wa.heap.size := World.block_lt_of_cell? wa _ c1
  clear Hga Haa
  go_wp2_with fail
  refine (HKG.out _).mono ?_
  rintro e w' ⟨rfl, hw'⟩
  subst w'
  clear HKG
  go_wp2
  go_quiet (fail)
  obtain ⟨wb, hwb, hPb, hRb, hbb, d7, d3, f3', ck, cgk⟩ : ∃ wb : World, wb = wa.drewN nq ∧ PS wb B (pcells id n f x pr pp sp (.slice (some ⟨bg, 0, none⟩) lg cg) (.slice (some ⟨ba, 0, none⟩) la ca) vr rd round vi vo) ∧ Room wb B vr ∧ Below B w wb ∧ wb.cell? ⟨B, 7, none⟩ = some (.slice (some ⟨bg, 0, none⟩) lg cg) ∧ wb.cell? ⟨B, 3, none⟩ = some (.int .i64 x) ∧ wb.frozen? ⟨B, 3, none⟩ = false ∧ wb.cell? ⟨ba, k, none⟩ = some (.int .i64 (at' k)) ∧ wb.cell? ⟨bg, k, none⟩ = some (.int .i64 (got k)) :=
    ⟨_, rfl, HPa.out, HRa.out, bel_drewN hbwa _, c7, c3, f3, ck, cgk⟩
  rw [← hwb]
  have HPb : Hid (PS wb B (pcells id n f x pr pp sp (.slice (some ⟨bg, 0, none⟩) lg cg) (.slice (some ⟨ba, 0, none⟩) la ca) vr rd round vi vo)) := hPb
  have HRb : Hid (Room wb B vr) := hRb
  clear hwb hPb hRb HPa HRa c1 f1 c2 f2 c3 f3 c6 f6 c7 f7 c8 f8
  go_wp2
  go_end0
  exact ⟨rfl, vr, HRb.out, HPb.out, hbb⟩

set_option maxRecDepth 100000 in
set_option maxHeartbeats 1000000 in
theorem settle_three_b (B n : Nat) (id f x pp sp rd se round : Int) (pr : Bool) (bg lg cg ba la ca : Nat) (got at' : Nat → Int) (vr vi vo : Value) (w : World)
    (hP : PS w B (pcells id n f x pr pp sp (.slice (some ⟨bg, 0, none⟩) lg cg) (.slice (some ⟨ba, 0, none⟩) la ca) vr rd se vi vo))
    (hroom : Room w B vr) (hn : 1 ≤ n) (hn2 : n ≤ 65536) (hlg : n < lg) (hla : n < la) (hlg2 : lg ≤ 65536) (hla2 : la ≤ 65536) (hbg : bg < B) (hba : ba < B)
    (hg : Row w bg n got) (ha : Row w ba n at') (hf : 0 ≤ f) (hf2 : f ≤ n) (hse : se < round) (h1 : 1 ≤ round) (h2 : round ≤ 9223372036854775807) (hs : stp round = 3) (k : Nat) (hk : kg round n = (k : Int)) (hkn : k ≤ n) (hc : sp < (n : Int) - f) (hat : ¬ at' k = round) :
    Calls Try.prog 19 #[.pointer (some ⟨B, 0, none⟩), .int .i64 round] w fun e w' => Settled w B n id f rd (.slice (some ⟨bg, 0, none⟩) lg cg) (.slice (some ⟨ba, 0, none⟩) la ca) vi vo ⟨x, pr, pp, sp, round⟩ e w' := by
  have e1 : (stp round == 1) = false := by rw [hs]; rfl
  have e2 : (stp round == 2) = false := by rw [hs]; rfl
  have e3 : (stp round == 3) = true := by rw [hs]; rfl
  have hking : ∀ w, Calls Try.prog 21 #[.int .i64 round, .int .i64 (n : Int)] w fun e w' => e = .returned (.int .i64 (k : Int)) ∧ w' = w := fun w => by rw [← hk]; exact kingOf_any round n w h1 h2 (by omega) (by omega)
  have HKG : Hid (∀ w, Calls Try.prog 21 #[.int .i64 round, .int .i64 (n : Int)] w fun e w' => e = .returned (.int .i64 (k : Int)) ∧ w' = w) := hking
  clear hs hk hking
  have hab : (at' k == round) = false := beq_no hat
  clear hat
  obtain ⟨c11, f11⟩ := hP 11 _ rfl
  have hBs : B < w.heap.size := World.block_lt_of_cell? w _ c11
  obtain ⟨wa, hwa, hPa, hRa, hga, haa, hbwa⟩ : ∃ wa : World, wa = w.setCell ⟨B, 11, none⟩ (.int .i64 round) ∧ PS wa B (pcells id n f x pr pp sp (.slice (some ⟨bg, 0, none⟩) lg cg) (.slice (some ⟨ba, 0, none⟩) la ca) vr rd round vi vo) ∧ Room wa B vr ∧ Row wa bg n got ∧ Row wa ba n at' ∧ Below B w wa :=
    ⟨_, rfl, PS_set hP 11 _, Room_set hroom, Row_below hg ((Below.refl B w).setCell (by simp) _) hbg, Row_below ha ((Below.refl B w).setCell (by simp) _) hba, (Below.refl B w).setCell (by simp) _⟩
  have Hwa : Hid (wa = w.setCell ⟨B, 11, none⟩ (.int .i64 round)) := hwa
  have HPa : Hid (PS wa B (pcells id n f x pr pp sp (.slice (some ⟨bg, 0, none⟩) lg cg) (.slice (some ⟨ba, 0, none⟩) la ca) vr rd round vi vo)) := hPa
  have HRa : Hid (Room wa B vr) := hRa
  have Hga : Hid (Row wa bg n got) := hga
  have Haa : Hid (Row wa ba n at') := haa
  clear hP hroom hg ha hwa hPa hRa hga haa
  go_enter Try.func19, Try.ntmps19
  go_wp2_with fail
  refine (step_pos round _ h1 h2).mono ?_
  rintro e w' ⟨rfl, rfl⟩
  rw [← Hwa.out]
  clear c11 f11 hBs Hwa
  obtain ⟨c1, f1⟩ := HPa.out 1 _ rfl
  obtain ⟨c2, f2⟩ := HPa.out 2 _ rfl
  obtain ⟨c3, f3⟩ := HPa.out 3 _ rfl
  obtain ⟨c6, f6⟩ := HPa.out 6 _ rfl
  obtain ⟨c7, f7⟩ := HPa.out 7 _ rfl
  obtain ⟨c8, f8⟩ := HPa.out 8 _ rfl
  have ck := Haa.out k hkn
  have cgk := Hga.out k hkn
  have hBa : B < wa.heap.size := World.block_lt_of_cell? wa _ c1
  clear Hga Haa
  go_wp2_with fail
  refine (HKG.out _).mono ?_
  rintro e w' ⟨rfl, hw'⟩
  subst w'
  clear HKG
  go_wp2
  go_quiet (fail)
  obtain ⟨wb, hwb, hPb, hRb, hbb, d7, d3, f3', ck, cgk⟩ : ∃ wb : World, wb = wa.drewN nq ∧ PS wb B (pcells id n f x pr pp sp (.slice (some ⟨bg, 0, none⟩) lg cg) (.slice (some ⟨ba, 0, none⟩) la ca) vr rd round vi vo) ∧ Room wb B vr ∧ Below B w wb ∧ wb.cell? ⟨B, 7, none⟩ = some (.slice (some ⟨bg, 0, none⟩) lg cg) ∧ wb.cell? ⟨B, 3, none⟩ = some (.int .i64 x) ∧ wb.frozen? ⟨B, 3, none⟩ = false ∧ wb.cell? ⟨ba, k, none⟩ = some (.int .i64 (at' k)) ∧ wb.cell? ⟨bg, k, none⟩ = some (.int .i64 (got k)) :=
    ⟨_, rfl, HPa.out, HRa.out, bel_drewN hbwa _, c7, c3, f3, ck, cgk⟩
  rw [← hwb]
  have HPb : Hid (PS wb B (pcells id n f x pr pp sp (.slice (some ⟨bg, 0, none⟩) lg cg) (.slice (some ⟨ba, 0, none⟩) la ca) vr rd round vi vo)) := hPb
  have HRb : Hid (Room wb B vr) := hRb
  clear hwb hPb hRb HPa HRa c1 f1 c2 f2 c3 f3 c6 f6 c7 f7 c8 f8
  go_wp2
  go_end0
  exact ⟨rfl, vr, HRb.out, HPb.out, hbb⟩

set_option maxRecDepth 100000 in
set_option maxHeartbeats 1000000 in
theorem settle_three_c (B n : Nat) (id f x pp sp rd se round : Int) (pr : Bool) (bg lg cg ba la ca : Nat) (got at' : Nat → Int) (vr vi vo : Value) (w : World)
    (hP : PS w B (pcells id n f x pr pp sp (.slice (some ⟨bg, 0, none⟩) lg cg) (.slice (some ⟨ba, 0, none⟩) la ca) vr rd se vi vo))
    (hroom : Room w B vr) (hn : 1 ≤ n) (hn2 : n ≤ 65536) (hlg : n < lg) (hla : n < la) (hlg2 : lg ≤ 65536) (hla2 : la ≤ 65536) (hbg : bg < B) (hba : ba < B)
    (hg : Row w bg n got) (ha : Row w ba n at') (hf : 0 ≤ f) (hf2 : f ≤ n) (hse : se < round) (h1 : 1 ≤ round) (h2 : round ≤ 9223372036854775807) (hs : stp round = 3) (k : Nat) (hk : kg round n = (k : Int)) (hkn : k ≤ n) (hc : sp < (n : Int) - f) (hat : at' k = round) :
    Calls Try.prog 19 #[.pointer (some ⟨B, 0, none⟩), .int .i64 round] w fun e w' => Settled w B n id f rd (.slice (some ⟨bg, 0, none⟩) lg cg) (.slice (some ⟨ba, 0, none⟩) la ca) vi vo ⟨got k, pr, pp, sp, round⟩ e w' := by
  have e1 : (stp round == 1) = false := by rw [hs]; rfl
  have e2 : (stp round == 2) = false := by rw [hs]; rfl
  have e3 : (stp round == 3) = true := by rw [hs]; rfl
  have hking : ∀ w, Calls Try.prog 21 #[.int .i64 round, .int .i64 (n : Int)] w fun e w' => e = .returned (.int .i64 (k : Int)) ∧ w' = w := fun w => by rw [← hk]; exact kingOf_any round n w h1 h2 (by omega) (by omega)
  have HKG : Hid (∀ w, Calls Try.prog 21 #[.int .i64 round, .int .i64 (n : Int)] w fun e w' => e = .returned (.int .i64 (k : Int)) ∧ w' = w) := hking
  clear hs hk hking
  have hab : (at' k == round) = true := by simp [hat]
  clear hat
  obtain ⟨c11, f11⟩ := hP 11 _ rfl
  have hBs : B < w.heap.size := World.block_lt_of_cell? w _ c11
  obtain ⟨wa, hwa, hPa, hRa, hga, haa, hbwa⟩ : ∃ wa : World, wa = w.setCell ⟨B, 11, none⟩ (.int .i64 round) ∧ PS wa B (pcells id n f x pr pp sp (.slice (some ⟨bg, 0, none⟩) lg cg) (.slice (some ⟨ba, 0, none⟩) la ca) vr rd round vi vo) ∧ Room wa B vr ∧ Row wa bg n got ∧ Row wa ba n at' ∧ Below B w wa :=
    ⟨_, rfl, PS_set hP 11 _, Room_set hroom, Row_below hg ((Below.refl B w).setCell (by simp) _) hbg, Row_below ha ((Below.refl B w).setCell (by simp) _) hba, (Below.refl B w).setCell (by simp) _⟩
  have Hwa : Hid (wa = w.setCell ⟨B, 11, none⟩ (.int .i64 round)) := hwa
  have HPa : Hid (PS wa B (pcells id n f x pr pp sp (.slice (some ⟨bg, 0, none⟩) lg cg) (.slice (some ⟨ba, 0, none⟩) la ca) vr rd round vi vo)) := hPa
  have HRa : Hid (Room wa B vr) := hRa
  have Hga : Hid (Row wa bg n got) := hga
  have Haa : Hid (Row wa ba n at') := haa
  clear hP hroom hg ha hwa hPa hRa hga haa
  go_enter Try.func19, Try.ntmps19
  go_wp2_with fail
  refine (step_pos round _ h1 h2).mono ?_
  rintro e w' ⟨rfl, rfl⟩
  rw [← Hwa.out]
  clear c11 f11 hBs Hwa
  obtain ⟨c1, f1⟩ := HPa.out 1 _ rfl
  obtain ⟨c2, f2⟩ := HPa.out 2 _ rfl
  obtain ⟨c3, f3⟩ := HPa.out 3 _ rfl
  obtain ⟨c6, f6⟩ := HPa.out 6 _ rfl
  obtain ⟨c7, f7⟩ := HPa.out 7 _ rfl
  obtain ⟨c8, f8⟩ := HPa.out 8 _ rfl
  have ck := Haa.out k hkn
  have cgk := Hga.out k hkn
  have hBa : B < wa.heap.size := World.block_lt_of_cell? wa _ c1
  clear Hga Haa
  go_wp2_with fail
  refine (HKG.out _).mono ?_
  rintro e w' ⟨rfl, hw'⟩
  subst w'
  clear HKG
  go_wp2
  go_quiet (fail)
  obtain ⟨wb, hwb, hPb, hRb, hbb, d7, d3, f3', ck, cgk⟩ : ∃ wb : World, wb = wa.drewN nq ∧ PS wb B (pcells id n f x pr pp sp (.slice (some ⟨bg, 0, none⟩) lg cg) (.slice (some ⟨ba, 0, none⟩) la ca) vr rd round vi vo) ∧ Room wb B vr ∧ Below B w wb ∧ wb.cell? ⟨B, 7, none⟩ = some (.slice (some ⟨bg, 0, none⟩) lg cg) ∧ wb.cell? ⟨B, 3, none⟩ = some (.int .i64 x) ∧ wb.frozen? ⟨B, 3, none⟩ = false ∧ wb.cell? ⟨ba, k, none⟩ = some (.int .i64 (at' k)) ∧ wb.cell? ⟨bg, k, none⟩ = some (.int .i64 (got k)) :=
    ⟨_, rfl, HPa.out, HRa.out, bel_drewN hbwa _, c7, c3, f3, ck, cgk⟩
  rw [← hwb]
  have HPb : Hid (PS wb B (pcells id n f x pr pp sp (.slice (some ⟨bg, 0, none⟩) lg cg) (.slice (some ⟨ba, 0, none⟩) la ca) vr rd round vi vo)) := hPb
  have HRb : Hid (Room wb B vr) := hRb
  clear hwb hPb hRb HPa HRa c1 f1 c2 f2 c3 f3 c6 f6 c7 f7 c8 f8
  go_wp2
  go_end0
  exact ⟨rfl, vr, Room_set HRb.out, PS_set HPb.out 3 _, hbb.setCell (by simp) _⟩

end Go.Proofs.Qxb6619470a
