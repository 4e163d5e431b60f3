import Derived.Test.Qxb6619470aModel
namespace Go.Proofs.Qxb6619470a
open Go.RowKit
open Go.Proofs.Qxb6619470a.Mode
set_option linter.unusedVariables false

theorem stg_pos {r : Int} (h : ¬ r = 0) : stg r = stp r := by simp [stg, h]

/-- settle does what the rule says. -/
theorem settle_any (B n : Nat) (id f rd round : Int) (s : St) (bg lg cg ba la ca : Nat) (got at' : Nat → Int) (vr vi vo : Value) (w : World)
    (hP : PS w B (pcells id n f s.x s.pr s.pp s.sp (.slice (some ⟨bg, 0, none⟩) lg cg) (.slice (some ⟨ba, 0, none⟩) la ca) vr rd s.se vi vo))
    (hroom : Room w B vr) (hn : 1 ≤ n) (hn2 : n ≤ 65536) (hlg : n < lg) (hla : n < la) (hlg2 : lg ≤ 65536) (hla2 : la ≤ 65536) (hbg : bg < B) (hba : ba < B)
    (hg : Row w bg n got) (ha : Row w ba n at') (hf : 0 ≤ f) (hf2 : f ≤ n) (h0 : 0 ≤ round) (h2 : round ≤ 9223372036854775807) :
    Calls Try.prog 19 #[.pointer (some ⟨B, 0, none⟩), .int .i64 round] w fun e w' => ∃ t : St, SR n f got at' round (stg round) (kk round n) s t ∧
      Settled w B n id f rd (.slice (some ⟨bg, 0, none⟩) lg cg) (.slice (some ⟨ba, 0, none⟩) la ca) vi vo t e w' := by
  obtain ⟨x, pr, pp, sp, se⟩ := s
  dsimp only at hP
  by_cases hd : round ≤ se
  · refine (settle_done B n id f x pp sp se rd round pr _ _ _ _ _ w hP hd).mono ?_
    rintro e w' ⟨he, rfl⟩
    exact ⟨⟨x, pr, pp, sp, se⟩, by simp [SR, hd], he, vr, hroom, hP, Below.refl _ _⟩
  have hse : se < round := by omega
  by_cases hz : round = 0
  · subst hz
    refine (settle_zero B n id f x pp sp rd se 0 pr bg lg cg ba la ca got at' vr vi vo w hP hroom hn hn2 hlg hla hlg2 hla2 hbg hba hg ha hf hf2 hse).mono ?_
    intro e w' h
    refine ⟨_, ?_, h⟩
    unfold SR
    rw [if_neg (by simpa using hd)]
    simp [stg]
  have hst := stg_pos hz
  rcases (show stp round = 1 ∨ stp round = 2 ∨ stp round = 3 by unfold stp; omega) with h | h | h
  · refine (settle_one B n id f x pp sp rd se round pr bg lg cg ba la ca got at' vr vi vo w hP hroom hn hn2 hlg hla hlg2 hla2 hbg hba hg ha hf hf2 hse (by omega) h2 h).mono ?_
    rintro e w' ⟨t, ⟨v, c, a1, a2, a3, a4, a5, a6⟩, ht⟩
    refine ⟨t, ?_, ht⟩
    unfold SR
    rw [if_neg (by simpa using hd), hst, h, if_pos rfl]
    exact ⟨a6, v, c, a1, a2, a3, a4, a5⟩
  · refine (settle_two B n id f x pp sp rd se round pr bg lg cg ba la ca got at' vr vi vo w hP hroom hn hn2 hlg hla hlg2 hla2 hbg hba hg ha hf hf2 hse (by omega) h2 h).mono ?_
    rintro e w' ⟨t, ⟨v, c, a1, a2, a3, a4, a5, a6⟩, ht⟩
    refine ⟨t, ?_, ht⟩
    unfold SR
    rw [if_neg (by simpa using hd), hst, h, if_neg (by omega), if_pos rfl]
    exact ⟨a6, v, c, a1, a2, a3, a4, a5⟩
  · obtain ⟨k1, k2⟩ := kk_eq round n hn
    have fin : ∀ (x' : Int), x' = (if sp < (n : Int) - f ∧ at' (kk round n) = round then got (kk round n) else x) → SR n f got at' round (stg round) (kk round n) ⟨x, pr, pp, sp, se⟩ ⟨x', pr, pp, sp, round⟩ := by
      intro x' hx'
      unfold SR
      rw [if_neg (by simpa using hd), hst, h, if_neg (by omega), if_neg (by omega), if_pos rfl]
      exact ⟨rfl, hx', rfl, rfl, rfl⟩
    by_cases hc : sp < (n : Int) - f
    · by_cases hat : at' (kk round n) = round
      · refine (settle_three_c B n id f x pp sp rd se round pr bg lg cg ba la ca got at' vr vi vo w hP hroom hn hn2 hlg hla hlg2 hla2 hbg hba hg ha hf hf2 hse (by omega) h2 h (kk round n) k1 k2 hc hat).mono ?_
        intro e w' ht
        exact ⟨_, fin _ (by rw [if_pos ⟨hc, hat⟩]), ht⟩
      · refine (settle_three_b B n id f x pp sp rd se round pr bg lg cg ba la ca got at' vr vi vo w hP hroom hn hn2 hlg hla hlg2 hla2 hbg hba hg ha hf hf2 hse (by omega) h2 h (kk round n) k1 k2 hc hat).mono ?_
        intro e w' ht
        exact ⟨_, fin _ (by rw [if_neg (fun h => hat h.2)]), ht⟩
    · refine (settle_three_a B n id f x pp sp rd se round pr bg lg cg ba la ca got at' vr vi vo w hP hroom hn hn2 hlg hla hlg2 hla2 hbg hba hg ha hf hf2 hse (by omega) h2 h (kk round n) k1 k2 hc).mono ?_
      intro e w' ht
      exact ⟨_, fin _ (by rw [if_neg (fun h => hc h.1)]), ht⟩

/-- zzSettleModel does what the rule says. -/
theorem settleModel_any (n : Nat) (f round : Int) (s : St) (bg lg cg ba la ca : Nat) (got at' : Nat → Int) (w : World)
    (hn : 1 ≤ n) (hn2 : n ≤ 65536) (hlg : n < lg) (hla : n < la) (hlg2 : lg ≤ 65536) (hla2 : la ≤ 65536) (hg : Row w bg n got) (ha : Row w ba n at') (hf : 0 ≤ f) (hf2 : f ≤ n)
    (h0 : 0 ≤ round) (h2 : round ≤ 9223372036854775807) (hwx : (Lit.int .i64 s.x).wf = true) (hwp : (Lit.int .i64 s.pp).wf = true) (hwg : ∀ q, q ≤ n → (Lit.int .i64 (got q)).wf = true) :
    Calls Try.prog 14 #[stv s, .int .i64 (n : Int), .int .i64 f, .slice (some ⟨bg, 0, none⟩) lg cg, .slice (some ⟨ba, 0, none⟩) la ca, .int .i64 round] w
      fun e w' => ∃ t : St, SR n f got at' round (stg round) (kk round n) s t ∧ e = .returned (stv t) ∧ Below w.heap.size w w' := by
  obtain ⟨x, pr, pp, sp, se⟩ := s
  dsimp only at hwx hwp
  by_cases hd : round ≤ se
  · refine (model_done n f x pp sp se round pr bg lg cg ba la ca got at' w hn hn2 hlg hla hlg2 hla2 hg ha hf hf2 h0 h2 hd).mono ?_
    rintro e w' ⟨he, hb⟩
    exact ⟨⟨x, pr, pp, sp, se⟩, by simp [SR, hd], he, hb⟩
  have hse : se < round := by omega
  by_cases hz : round = 0
  · refine (model_zero n f x pp sp se round pr bg lg cg ba la ca got at' w hn hn2 hlg hla hlg2 hla2 hg ha hf hf2 h0 h2 hse (by simp [stg, hz])).mono ?_
    rintro e w' ⟨he, hb⟩
    refine ⟨⟨x, pr, pp, sp, round⟩, ?_, he, hb⟩
    unfold SR
    rw [if_neg (by simpa using hd)]
    simp [stg, hz]
  have hst := stg_pos hz
  rcases (show stp round = 1 ∨ stp round = 2 ∨ stp round = 3 by unfold stp; omega) with h | h | h
  · refine (model_one n f x pp sp se round pr bg lg cg ba la ca got at' w hn hn2 hlg hla hlg2 hla2 hg ha hf hf2 h0 h2 hwx hwp hwg hse (by rw [hst, h])).mono ?_
    rintro e w' ⟨v, c, hm, he, hb⟩
    refine ⟨⟨x, decide ((n : Int) - f ≤ (c : Int)), v, sp, round⟩, ?_, he, hb⟩
    unfold SR
    rw [if_neg (by simpa using hd), hst, h, if_pos rfl]
    exact ⟨rfl, v, c, hm, rfl, rfl, rfl, rfl⟩
  · refine (model_two n f x pp sp se round pr bg lg cg ba la ca got at' w hn hn2 hlg hla hlg2 hla2 hg ha hf hf2 h0 h2 hwx hwp hwg hse (by rw [hst, h])).mono ?_
    rintro e w' ⟨v, c, x', hm, hx', he, hb⟩
    refine ⟨⟨x', pr, pp, ((cl pp pr got at' round n).count x' : Int), round⟩, ?_, he, hb⟩
    unfold SR
    rw [if_neg (by simpa using hd), hst, h, if_neg (by omega), if_pos rfl]
    exact ⟨rfl, v, c, hm, hx', rfl, rfl, rfl⟩
  · obtain ⟨k1, k2⟩ := kk_eq round n hn
    have h33 : 3 ≤ round := by unfold stp at h; omega
    have fin : ∀ (x' : Int), x' = (if sp < (n : Int) - f ∧ at' (kk round n) = round then got (kk round n) else x) → SR n f got at' round (stg round) (kk round n) ⟨x, pr, pp, sp, se⟩ ⟨x', pr, pp, sp, round⟩ := by
      intro x' hx'
      unfold SR
      rw [if_neg (by simpa using hd), hst, h, if_neg (by omega), if_neg (by omega), if_pos rfl]
      exact ⟨rfl, hx', rfl, rfl, rfl⟩
    by_cases hc : sp < (n : Int) - f
    · by_cases hat : at' (kk round n) = round
      · refine (model_three_c n f x pp sp se round pr bg lg cg ba la ca got at' w hn hn2 hlg hla hlg2 hla2 hg ha hf hf2 h0 h2 hse (by rw [hst, h]) h h33 (kk round n) k1 k2 hc hat).mono ?_
        rintro e w' ⟨he, hb⟩
        exact ⟨_, fin _ (by rw [if_pos ⟨hc, hat⟩]), he, hb⟩
      · refine (model_three_b n f x pp sp se round pr bg lg cg ba la ca got at' w hn hn2 hlg hla hlg2 hla2 hg ha hf hf2 h0 h2 hse (by rw [hst, h]) h h33 (kk round n) k1 k2 hc hat).mono ?_
        rintro e w' ⟨he, hb⟩
        exact ⟨_, fin _ (by rw [if_neg (fun h => hat h.2)]), he, hb⟩
    · refine (model_three_a n f x pp sp se round pr bg lg cg ba la ca got at' w hn hn2 hlg hla hlg2 hla2 hg ha hf hf2 h0 h2 hse (by rw [hst, h]) h h33 (kk round n) k1 k2 hc).mono ?_
      rintro e w' ⟨he, hb⟩
      exact ⟨_, fin _ (by rw [if_neg (fun h => hc h.1)]), he, hb⟩

theorem zzSettle_of (B : Nat) (round : Int) (w : World) (R : World → Prop) (h : Calls Try.prog 19 #[.pointer (some ⟨B, 0, none⟩), .int .i64 round] w fun e w' => e = .returned (.tuple #[]) ∧ R w') :
    Calls Try.prog 18 #[.pointer (some ⟨B, 0, none⟩), .int .i64 round] w fun e w' => e = .returned (.tuple #[]) ∧ R w' := by
  have H : Hid (Calls Try.prog 19 #[.pointer (some ⟨B, 0, none⟩), .int .i64 round] w fun e w' => e = .returned (.tuple #[]) ∧ R w') := h
  clear h
  go_enter Try.func18, Try.ntmps18
  go_wp2_with fail
  refine H.out.mono ?_
  rintro e w' ⟨rfl, hR⟩
  have HR : Hid (R w') := hR
  clear hR
  go_wp2
  go_end0
  exact ⟨rfl, HR.out⟩

theorem state_any (B n : Nat) (id f x pp sp rd se : Int) (pr : Bool) (vg va vr vi vo : Value) (w : World) (hP : PS w B (pcells id n f x pr pp sp vg va vr rd se vi vo)) :
    Calls Try.prog 16 #[.pointer (some ⟨B, 0, none⟩)] w fun e w' => e = .returned (.tuple #[.int .i64 x, .bool pr, .int .i64 pp, .int .i64 sp, .int .i64 se, .int .i64 rd]) ∧ ∃ nd, w' = w.drewN nd := by
  obtain ⟨c3, f3⟩ := hP 3 _ rfl
  obtain ⟨c4, f4⟩ := hP 4 _ rfl
  obtain ⟨c5, f5⟩ := hP 5 _ rfl
  obtain ⟨c6, f6⟩ := hP 6 _ rfl
  obtain ⟨c11, f11⟩ := hP 11 _ rfl
  obtain ⟨c10, f10⟩ := hP 10 _ rfl
  clear hP
  go_enter Try.func16, Try.ntmps16
  go_wp2
  go_quiet (fail)
  go_wp2
  refine bodyPost_ret (v := .tuple #[.int .i64 x, .bool pr, .int .i64 pp, .int .i64 sp, .int .i64 se, .int .i64 rd]) (by simp [results, Try.results16, go_sem]) rfl ⟨rfl, _, rfl⟩

end Go.Proofs.Qxb6619470a
