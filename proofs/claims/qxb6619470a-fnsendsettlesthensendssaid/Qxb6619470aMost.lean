import Derived.Test.Qxb6619470aCounted
import Derived.Test.Qxb6619470aShelf
import Derived.Sort.OwnSortedInts
namespace Go.Proofs.Qxb6619470a
open Go.RowKit
open Go.Proofs.Qxb6619470a.Mode

/-- slices.Sort on a row that the caller owns. -/
theorem sort_own (M L cap : Nat) (a : Option Addr) (l : List Int) (w : World) (hL : L = l.length) (hl : L ≤ 1048576) (hown : w.ownsRow M 2 1 (.slice a L cap) L (l.map (Value.int .i64))) (hM : M ≤ w.heap.size) :
    Calls Try.prog 26 #[.slice a L cap] w fun e w' => e = .returned (.tuple #[]) ∧ ∃ s : List Int, s.Perm l ∧ Sorted s ∧ w'.ownsRow M 2 1 (.slice a L cap) L (s.map (Value.int .i64)) ∧ Below M w w' := by
  subst hL
  by_cases h0 : l = []
  · subst h0
    exact (Try.sort_none a cap w).mono fun e w' ⟨he, hw⟩ => ⟨he, [], List.Perm.refl _, fun i j x y _ hx => by simp at hx, by rw [hw]; exact hown, by rw [hw]; exact Below.refl _ _⟩
  · have hp : 0 < l.length := List.length_pos_iff.2 h0
    obtain ⟨_, ⟨hv, h1⟩ | ⟨g, c, cur, hv, hg, hb, h1, h2, h3, h4⟩⟩ := hown
    · omega
    · simp only [Value.slice.injEq] at hv
      obtain ⟨rfl, _, rfl⟩ := hv
      have hH := holds_of_blockI (ss := l) hb (by simpa using h4)
      have hgl : g < w.heap.size := (Array.getElem?_eq_some_iff.1 hb).1
      refine (Try.sort_int g 0 cap l w hH hgl (by omega)).mono ?_
      rintro e w' ⟨rfl, n, os, rfl⟩
      have hperm := List.mergeSort_perm l (fun x y => decide (x ≤ y))
      refine ⟨rfl, _, hperm, ?_, ownsRow_sortedI (by simp) hg hb h1 h2 h3, (Below.refl _ _).grown (grownBy_sortedI _) hM (fun j hj => by cases hj; exact hg)⟩
      have hpw := List.pairwise_mergeSort (le := fun x y : Int => decide (x ≤ y)) (fun a b c h1 h2 => by simp at *; omega) (fun a b => by simp; omega) l
      exact Sorted_of_pairwise (hpw.imp (by simp))

theorem own_zero {w : World} {M L cap : Nat} {a : Option Addr} {xs : List Value} (h : w.ownsRow M 2 1 (.slice a L cap) L xs) : w.ownsRow M 2 1 (.slice a 0 cap) 0 [] := by
  obtain ⟨_, ⟨hv, h1⟩ | ⟨g, c, cur, hv, hg, hb, h1, h2, h3, h4⟩⟩ := h
  · simp only [Value.slice.injEq] at hv
    obtain ⟨rfl, _, rfl⟩ := hv
    exact ⟨rfl, .inl ⟨rfl, rfl⟩⟩
  · simp only [Value.slice.injEq] at hv
    obtain ⟨rfl, _, rfl⟩ := hv
    exact ⟨rfl, .inr ⟨g, cap, cur, rfl, hg, hb, Nat.zero_le _, h2, h3, by simp⟩⟩

set_option maxRecDepth 100000 in
set_option maxHeartbeats 1000000 in
theorem most_false (B n : Nat) (id f x pp sp rd se own round : Int) (pr : Bool) (bg lg cg ba la ca : Nat) (got at' : Nat → Int) (ar : Option Addr) (Lr capr : Nat) (xr : List Value) (vi vo : Value) (w : World)
    (hP : PS w B (pcells id n f x pr pp sp (.slice (some ⟨bg, 0, none⟩) lg cg) (.slice (some ⟨ba, 0, none⟩) la ca) (.slice ar Lr capr) rd se vi vo))
    (hroom : w.ownsRow (B + 1) 2 1 (.slice ar Lr capr) Lr xr) (hn2 : n ≤ 65536) (hlg : n < lg) (hla : n < la) (hlg2 : lg ≤ 65536) (_hla2 : la ≤ 65536) (hbg : bg < B) (hba : ba < B)
    (hg : ∀ q, q ≤ n → w.cell? ⟨bg, q, none⟩ = some (.int .i64 (got q))) (ha : ∀ q, q ≤ n → w.cell? ⟨ba, q, none⟩ = some (.int .i64 (at' q))) :
    Calls Try.prog 25 #[.pointer (some ⟨B, 0, none⟩), .int .i64 round, .int .i64 own, .bool false] w fun e w' =>
      ∃ (v : Int) (c : Nat) (a : Option Addr) (cap : Nat) (s : List Int), e = .returned (.tuple #[.int .i64 v, .int .i64 (c : Int)]) ∧ ModeOf (cl own false got at' round n) v c ∧ s.Perm (cl own false got at' round n) ∧
        PS w' B (pcells id n f x pr pp sp (.slice (some ⟨bg, 0, none⟩) lg cg) (.slice (some ⟨ba, 0, none⟩) la ca) (.slice a s.length cap) rd se vi vo) ∧ w'.ownsRow (B + 1) 2 1 (.slice a s.length cap) s.length (s.map (Value.int .i64)) ∧ Below B w w' := by
  obtain ⟨i0, hi, hz0, hz1, hz2⟩ := info_parts info2
  have HG : Hid (∀ q, q ≤ n → w.cell? ⟨bg, q, none⟩ = some (.int .i64 (got q))) := hg
  have HA : Hid (∀ q, q ≤ n → w.cell? ⟨ba, q, none⟩ = some (.int .i64 (at' q))) := ha
  have HP : Hid (PS w B (pcells id n f x pr pp sp (.slice (some ⟨bg, 0, none⟩) lg cg) (.slice (some ⟨ba, 0, none⟩) la ca) (.slice ar Lr capr) rd se vi vo)) := hP
  obtain ⟨c9, f9⟩ := hP 9 _ rfl
  have hBs : B < w.heap.size := World.block_lt_of_cell? w _ c9
  have hown : w.ownsRow (B + 1) 2 1 (.slice ar 0 capr) 0 [] := own_zero hroom
  have hbel : Below (B + 1) w w := Below.refl _ _
  clear hg ha hP hroom
  go_enter Try.func25, Try.ntmps25
  go_wp2
  go_loopw [10, 11] (fun v q wr => ∃ (k : Nat) (a : Option Addr) (cap : Nat), k ≤ n ∧ q = .int .i64 ((k : Int) + 1) ∧ v = .slice a (cl own false got at' round k).length cap ∧ wr.ownsRow (B + 1) 2 1 (.slice a (cl own false got at' round k).length cap) (cl own false got at' round k).length ((cl own false got at' round k).map (Value.int .i64)) ∧ Below (B + 1) w wr) (fun _ q _ => n + 1 - (intOf q).toNat)
  case atStart => exact ⟨0, _, _, by omega, by go_num, rfl, hown, hbel⟩
  case round =>
    obtain ⟨k, a, cap, hk, rfl, rfl, hown, hbel⟩ := hrel
    have hlen := cl_le own false got at' round k
    obtain ⟨L, hL⟩ : ∃ L, L = (cl own false got at' round k).length := ⟨_, rfl⟩
    rw [← hL] at hlen hown ⊢
    have HL : Hid (L = (cl own false got at' round k).length) := hL
    clear hL
    have hPr := PS_below HP.out hbel (by omega)
    obtain ⟨p1, _⟩ := hPr 1 _ rfl
    obtain ⟨p7, _⟩ := hPr 7 _ rfl
    obtain ⟨p8, _⟩ := hPr 8 _ rfl
    obtain ⟨p9, g9⟩ := hPr 9 _ rfl
    have HPr : Hid (PS wr B (pcells id n f x pr pp sp (.slice (some ⟨bg, 0, none⟩) lg cg) (.slice (some ⟨ba, 0, none⟩) la ca) (.slice ar Lr capr) rd se vi vo)) := hPr
    clear hPr
    by_cases hlt : k < n
    · have hca : wr.cell? ⟨ba, k + 1, none⟩ = some (.int .i64 (at' (k + 1))) := (hbel.cell (by show ba < B + 1; omega)).trans (HA.out (k + 1) (by omega))
      have hcg : wr.cell? ⟨bg, k + 1, none⟩ = some (.int .i64 (got (k + 1))) := (hbel.cell (by show bg < B + 1; omega)).trans (HG.out (k + 1) (by omega))
      by_cases he : at' (k + 1) = round
      · have hb' : (at' (k + 1) == round) = true := by simp [he]
        have Hr : Hid (cl own false got at' round (k + 1) = cl own false got at' round k ++ [got (k + 1)]) := by show cl own false got at' round (k + 1) = _; simp [cl, he]
        clear he
        have hsz : B + 1 ≤ wr.heap.size := by have := hbel.size; omega
        have hbgr : bg < wr.heap.size := World.block_lt_of_cell? wr _ hcg
        go_wp2_with (at_builtin; refine wpList_append_own _ rfl _ _ 37 rfl (B + 1) 2 i0 (.int .i64 0) 1 8 Try.underlying37 hi hz0 hz1 hz2 rfl (by decide) _ _ _ rfl (hown.alloc _) ⟨wr.heap.size, 0, none⟩ 1 1 [.int .i64 (got (k + 1))] rfl rfl ?c1 ?c2 ?c3 ?c4 ?c5 ?_)
        case c1 => exact cell_one_new _ _ _
        case c2 => intro u hu; simp at hu; subst hu; rfl
        case c3 => unfold maxLen; omega
        case c4 => omega
        case c5 => simp; omega
        intro v' w2 hown2 hgrow2 _
        rw [HL.out] at hown hown2 hgrow2
        have R := own_snoc hsz hown hown2 hgrow2 hbel Hr.out
        clear hown hown2 hgrow2 hbel hca hcg p1 p7 p8 p9 g9 HPr
        obtain ⟨a', cap', hv'⟩ := ownsRow_form R.1
        rw [hv'] at R
        have HR : Hid (w2.ownsRow (B + 1) 2 1 (.slice a' (cl own false got at' round (k + 1)).length cap') (cl own false got at' round (k + 1)).length ((cl own false got at' round (k + 1)).map (Value.int .i64))) := R.1
        have hR2 := R.2
        have Hv' : Hid (v' = .slice a' (cl own false got at' round (k + 1)).length cap') := hv'
        clear R hv'
        go_wp2
        go_roundw
        case rel => exact ⟨k + 1, a', cap', by omega, by go_num, Hv'.out, HR.out, hR2⟩
        case measure => simp [intOf]; omega
      · have hb' : (at' (k + 1) == round) = false := beq_no he
        have Hr : Hid (cl own false got at' round (k + 1) = cl own false got at' round k) := by show cl own false got at' round (k + 1) = _; simp [cl, he]
        clear he
        have HO : Hid (wr.ownsRow (B + 1) 2 1 (.slice a L cap) L ((cl own false got at' round k).map (Value.int .i64))) := hown
        clear hown
        go_wp2
        go_roundw
        case rel => exact ⟨k + 1, a, cap, by omega, by go_num, by rw [Hr.out, HL.out], by rw [Hr.out]; have := HO.out; rw [HL.out] at this; exact this, hbel⟩
        case measure => simp [intOf]; omega
    · obtain rfl : k = n := by omega
      have HO : Hid (wr.ownsRow (B + 1) 2 1 (.slice a L cap) L ((cl own false got at' round k).map (Value.int .i64))) := hown
      have hsz : B + 1 ≤ wr.heap.size := by have := hbel.size; omega
      clear hown p7 p8
      go_wp2_with fail
      refine (sort_own (B + 1) L cap a _ _ HL.out (by omega) HO.out hsz).mono ?_
      rintro e w3 ⟨rfl, s, hperm, hsort, hown3, hb3⟩
      have hLs : L = s.length := by rw [hperm.length_eq]; exact HL.out
      have hPs := PS_below HPr.out hb3 (by omega)
      obtain ⟨p9, g9⟩ := hPs 9 _ rfl
      have hB3 : Below (B + 1) w w3 := hbel.trans hb3
      obtain ⟨w4, hw4, hP4, hO4, hB4⟩ : ∃ w4 : World, w4 = w3.setCell ⟨B, 9, none⟩ (.slice a L cap) ∧ PS w4 B (pcells id k f x pr pp sp (.slice (some ⟨bg, 0, none⟩) lg cg) (.slice (some ⟨ba, 0, none⟩) la ca) (.slice a L cap) rd se vi vo) ∧
          w4.ownsRow (B + 1) 2 1 (.slice a L cap) L (s.map (Value.int .i64)) ∧ Below B w w4 := ⟨_, rfl, PS_set hPs 9 _, ownsRow_set_below hown3 (by omega), (hB3.mono (by omega)).setCell (by simp) _⟩
      have HP4 : Hid (PS w4 B (pcells id k f x pr pp sp (.slice (some ⟨bg, 0, none⟩) lg cg) (.slice (some ⟨ba, 0, none⟩) la ca) (.slice a L cap) rd se vi vo)) := hP4
      have HO4 : Hid (w4.ownsRow (B + 1) 2 1 (.slice a L cap) L (s.map (Value.int .i64))) := hO4
      have Hw4 : Hid (w4 = w3.setCell ⟨B, 9, none⟩ (.slice a L cap)) := hw4
      have Hperm : Hid (s.Perm (cl own false got at' round k)) := hperm
      have Hsort : Hid (Sorted s) := hsort
      have HLs : Hid (L = s.length) := hLs
      have hBs3 : B < w3.heap.size := World.block_lt_of_cell? w3 _ p9
      clear hPs hown3 hb3 hB3 hP4 hO4 hw4 hperm hsort hLs HO HPr hbel hsz HP HG HA
      go_wp2
      rw [← Hw4.out]
      clear p9 g9 p1 hBs3 Hw4
      go_loopw [8, 9, 12] (fun tv tc ti wr => ∃ (i : Nat) (v : Int) (c nd : Nat), ti = .int .i64 (i : Int) ∧ tv = .int .i64 v ∧ tc = .int .i64 (c : Int) ∧ Run s i v c ∧ wr = w4.drewN nd) (fun _ _ ti _ => L - (intOf ti).toNat)
      case atStart => exact ⟨0, 0, 0, 0, rfl, rfl, rfl, Run_zero s, rfl⟩
      case round =>
        obtain ⟨i, v, c, nd, rfl, rfl, rfl, hR, rfl⟩ := hrel
        have hiL : i ≤ L := by rw [HLs.out]; exact hR.1
        have hcb : c ≤ L := by have := ModeOf_le hR.2.2; simp at this; omega
        have HR : Hid (Run s i v c) := hR
        clear hR
        by_cases hlt2 : i < L
        · obtain ⟨g, rfl, _, _, hc⟩ := own_cell HO4.out (by omega)
          obtain ⟨u, hu⟩ : ∃ u, s[i]? = some u := ⟨_, List.getElem?_eq_getElem (by rw [← HLs.out]; exact hlt2)⟩
          have ci : w4.cell? ⟨g, i, none⟩ = some (.int .i64 u) := hc i _ (by simp [hu])
          have HCg : Hid (∀ (j : Nat) (q : Int), s[j]? = some q → w4.cell? ⟨g, j, none⟩ = some (.int .i64 q)) := fun j q hq => hc j _ (by simp [hq])
          have HU : Hid (s[i]? = some u) := hu
          clear hc hu
          go_wp2
          go_loopw [13] (fun tj wr => ∃ (j nd : Nat), i < j ∧ j ≤ L ∧ tj = .int .i64 (j : Int) ∧ Same s i j u ∧ wr = w4.drewN nd) (fun tj _ => L - (intOf tj).toNat)
          case atStart => exact ⟨i + 1, nd, by omega, by omega, by go_num, Same_one HU.out, rfl⟩
          case round =>
            obtain ⟨j, nd2, hij, hjL, rfl, hS, rfl⟩ := hrel
            have HS : Hid (Same s i j u) := hS
            clear hS
            by_cases hjlt : j < L
            · obtain ⟨q, hq⟩ : ∃ q, s[j]? = some q := ⟨_, List.getElem?_eq_getElem (by rw [← HLs.out]; exact hjlt)⟩
              have cj := HCg.out j q hq
              have HQ : Hid (s[j]? = some q) := hq
              have hg1 : (j : Int) < (L : Int) := by omega
              have hg2 : (i : Int) < (L : Int) := by omega
              clear hq
              by_cases hqu : q = u
              · have hqb : (q == u) = true := by simp [hqu]
                have HS2 : Hid (Same s i (j + 1) u) := Same_more HS.out (by rw [HQ.out, hqu])
                clear hqu
                go_wp2
                go_quiet (fail)
                go_wp2
                go_roundw
                case rel => exact ⟨j + 1, _, by omega, by omega, by go_num, HS2.out, rfl⟩
                case measure => simp [intOf]; omega
              · have hqb : (q == u) = false := beq_no hqu
                have HN : Hid (Run s j (if c < j - i then u else v) (if c < j - i then j - i else c)) := Run_step Hsort.out HR.out hij (by rw [← HLs.out]; exact hjL) HS.out (.inr ⟨q, HQ.out, hqu⟩)
                clear hqu
                go_wp2
                go_quiet (fail)
                by_cases hcj : c < j - i
                · have hcj' : (c : Int) < (j : Int) - (i : Int) := by omega
                  have HN2 : Hid (Run s j u (j - i)) := by have := HN.out; rw [if_pos hcj, if_pos hcj] at this; exact this
                  have hji : (((j - i : Nat)) : Int) = (j : Int) - (i : Int) := by omega
                  have Hji : Hid ((((j - i : Nat)) : Int) = (j : Int) - (i : Int)) := hji
                  clear hji HN hcj
                  go_wp2
                  go_roundw
                  case rel => exact ⟨j, u, j - i, _, rfl, rfl, by rw [Hji.out], HN2.out, rfl⟩
                  case measure => simp [intOf]; omega
                · have hcj' : ¬ (c : Int) < (j : Int) - (i : Int) := by omega
                  have HN2 : Hid (Run s j v c) := by have := HN.out; rw [if_neg hcj, if_neg hcj] at this; exact this
                  clear HN hcj
                  go_wp2
                  go_roundw
                  case rel => exact ⟨j, v, c, _, rfl, rfl, rfl, HN2.out, rfl⟩
                  case measure => simp [intOf]; omega
            · have hg1 : decide ((j : Int) < (L : Int)) = false := by simp; omega
              have hg2 : decide (j < L) = false := by simp; omega
              have HN : Hid (Run s j (if c < j - i then u else v) (if c < j - i then j - i else c)) := Run_step Hsort.out HR.out hij (by rw [← HLs.out]; exact hjL) HS.out (.inl (by rw [← HLs.out]; omega))
              go_wp2
              go_quiet (fail)
              by_cases hcj : c < j - i
              · have hcj' : (c : Int) < (j : Int) - (i : Int) := by omega
                have HN2 : Hid (Run s j u (j - i)) := by have := HN.out; rw [if_pos hcj, if_pos hcj] at this; exact this
                have hji : (((j - i : Nat)) : Int) = (j : Int) - (i : Int) := by omega
                have Hji : Hid ((((j - i : Nat)) : Int) = (j : Int) - (i : Int)) := hji
                clear hji HN hcj
                go_wp2
                go_roundw
                case rel => exact ⟨j, u, j - i, _, rfl, rfl, by rw [Hji.out], HN2.out, rfl⟩
                case measure => simp [intOf]; omega
              · have hcj' : ¬ (c : Int) < (j : Int) - (i : Int) := by omega
                have HN2 : Hid (Run s j v c) := by have := HN.out; rw [if_neg hcj, if_neg hcj] at this; exact this
                clear HN hcj
                go_wp2
                go_roundw
                case rel => exact ⟨j, v, c, _, rfl, rfl, rfl, HN2.out, rfl⟩
                case measure => simp [intOf]; omega
        · have HM : Hid (ModeOf s v c) := Run_end (by have h1 := HR.out; have h2 : i = s.length := by rw [← HLs.out]; omega
                                                      rwa [h2] at h1)
          go_wp2
          go_ret2
          exact ⟨v, c, a, cap, s, rfl, ModeOf_perm Hperm.out HM.out, Hperm.out, by have := HP4.out; rw [HLs.out] at this; exact this, by have := HO4.out; rw [HLs.out] at this; exact this, bel_drewN hB4 _⟩

set_option maxRecDepth 100000 in
set_option maxHeartbeats 1000000 in
theorem most_true (B n : Nat) (id f x pp sp rd se own round : Int) (pr : Bool) (bg lg cg ba la ca : Nat) (got at' : Nat → Int) (ar : Option Addr) (Lr capr : Nat) (xr : List Value) (vi vo : Value) (w : World)
    (hP : PS w B (pcells id n f x pr pp sp (.slice (some ⟨bg, 0, none⟩) lg cg) (.slice (some ⟨ba, 0, none⟩) la ca) (.slice ar Lr capr) rd se vi vo))
    (hroom : w.ownsRow (B + 1) 2 1 (.slice ar Lr capr) Lr xr) (hn2 : n ≤ 65536) (hlg : n < lg) (hla : n < la) (hlg2 : lg ≤ 65536) (_hla2 : la ≤ 65536) (hbg : bg < B) (hba : ba < B)
    (hg : ∀ q, q ≤ n → w.cell? ⟨bg, q, none⟩ = some (.int .i64 (got q))) (ha : ∀ q, q ≤ n → w.cell? ⟨ba, q, none⟩ = some (.int .i64 (at' q))) :
    Calls Try.prog 25 #[.pointer (some ⟨B, 0, none⟩), .int .i64 round, .int .i64 own, .bool true] w fun e w' =>
      ∃ (v : Int) (c : Nat) (a : Option Addr) (cap : Nat) (s : List Int), e = .returned (.tuple #[.int .i64 v, .int .i64 (c : Int)]) ∧ ModeOf (cl own true got at' round n) v c ∧ s.Perm (cl own true got at' round n) ∧
        PS w' B (pcells id n f x pr pp sp (.slice (some ⟨bg, 0, none⟩) lg cg) (.slice (some ⟨ba, 0, none⟩) la ca) (.slice a s.length cap) rd se vi vo) ∧ w'.ownsRow (B + 1) 2 1 (.slice a s.length cap) s.length (s.map (Value.int .i64)) ∧ Below B w w' := by
  obtain ⟨i0, hi, hz0, hz1, hz2⟩ := info_parts info2
  have HG : Hid (∀ q, q ≤ n → w.cell? ⟨bg, q, none⟩ = some (.int .i64 (got q))) := hg
  have HA : Hid (∀ q, q ≤ n → w.cell? ⟨ba, q, none⟩ = some (.int .i64 (at' q))) := ha
  have HP : Hid (PS w B (pcells id n f x pr pp sp (.slice (some ⟨bg, 0, none⟩) lg cg) (.slice (some ⟨ba, 0, none⟩) la ca) (.slice ar Lr capr) rd se vi vo)) := hP
  obtain ⟨c9, f9⟩ := hP 9 _ rfl
  have hBs : B < w.heap.size := World.block_lt_of_cell? w _ c9
  have hown : w.ownsRow (B + 1) 2 1 (.slice ar 0 capr) 0 [] := own_zero hroom
  have hbel : Below (B + 1) w w := Below.refl _ _
  clear hg ha hP hroom
  go_enter Try.func25, Try.ntmps25
  have hsz0 : B + 1 ≤ w.heap.size := hBs
  go_wp2_with (at_builtin; refine wpList_append_own _ rfl _ _ 37 rfl (B + 1) 2 i0 (.int .i64 0) 1 8 Try.underlying37 hi hz0 hz1 hz2 rfl (by decide) _ _ _ rfl (hown.alloc _) ⟨w.heap.size, 0, none⟩ 1 1 [.int .i64 own] rfl rfl ?c1 ?c2 ?c3 ?c4 ?c5 ?_)
  case c1 => exact cell_one_new _ _ _
  case c2 => intro u hu; simp at hu; subst hu; rfl
  case c3 => unfold maxLen; omega
  case c4 => omega
  case c5 => simp; omega
  intro v0 w2 hown0 hgrow0 _
  have R0 := own_snoc (l := []) (l' := [own]) hsz0 hown hown0 hgrow0 hbel rfl
  clear hown hown0 hgrow0 hbel hsz0
  obtain ⟨a0, cap0, hv0⟩ := ownsRow_form R0.1
  rw [hv0] at R0
  have HR0 : Hid (w2.ownsRow (B + 1) 2 1 (.slice a0 1 cap0) 1 [.int .i64 own]) := R0.1
  have hR0 := R0.2
  have Hv0 : Hid (v0 = .slice a0 1 cap0) := hv0
  clear R0 hv0
  go_wp2
  go_loopw [10, 11] (fun v q wr => ∃ (k : Nat) (a : Option Addr) (cap : Nat), k ≤ n ∧ q = .int .i64 ((k : Int) + 1) ∧ v = .slice a (cl own true got at' round k).length cap ∧ wr.ownsRow (B + 1) 2 1 (.slice a (cl own true got at' round k).length cap) (cl own true got at' round k).length ((cl own true got at' round k).map (Value.int .i64)) ∧ Below (B + 1) w wr) (fun _ q _ => n + 1 - (intOf q).toNat)
  case atStart => exact ⟨0, a0, cap0, by omega, by go_num, Hv0.out, HR0.out, hR0⟩
  case round =>
    obtain ⟨k, a, cap, hk, rfl, rfl, hown, hbel⟩ := hrel
    have hlen := cl_le own true got at' round k
    obtain ⟨L, hL⟩ : ∃ L, L = (cl own true got at' round k).length := ⟨_, rfl⟩
    rw [← hL] at hlen hown ⊢
    have HL : Hid (L = (cl own true got at' round k).length) := hL
    clear hL
    have hPr := PS_below HP.out hbel (by omega)
    obtain ⟨p1, _⟩ := hPr 1 _ rfl
    obtain ⟨p7, _⟩ := hPr 7 _ rfl
    obtain ⟨p8, _⟩ := hPr 8 _ rfl
    obtain ⟨p9, g9⟩ := hPr 9 _ rfl
    have HPr : Hid (PS wr B (pcells id n f x pr pp sp (.slice (some ⟨bg, 0, none⟩) lg cg) (.slice (some ⟨ba, 0, none⟩) la ca) (.slice ar Lr capr) rd se vi vo)) := hPr
    clear hPr
    by_cases hlt : k < n
    · have hca : wr.cell? ⟨ba, k + 1, none⟩ = some (.int .i64 (at' (k + 1))) := (hbel.cell (by show ba < B + 1; omega)).trans (HA.out (k + 1) (by omega))
      have hcg : wr.cell? ⟨bg, k + 1, none⟩ = some (.int .i64 (got (k + 1))) := (hbel.cell (by show bg < B + 1; omega)).trans (HG.out (k + 1) (by omega))
      by_cases he : at' (k + 1) = round
      · have hb' : (at' (k + 1) == round) = true := by simp [he]
        have Hr : Hid (cl own true got at' round (k + 1) = cl own true got at' round k ++ [got (k + 1)]) := by show cl own true got at' round (k + 1) = _; simp [cl, he]
        clear he
        have hsz : B + 1 ≤ wr.heap.size := by have := hbel.size; omega
        have hbgr : bg < wr.heap.size := World.block_lt_of_cell? wr _ hcg
        go_wp2_with (at_builtin; refine wpList_append_own _ rfl _ _ 37 rfl (B + 1) 2 i0 (.int .i64 0) 1 8 Try.underlying37 hi hz0 hz1 hz2 rfl (by decide) _ _ _ rfl (hown.alloc _) ⟨wr.heap.size, 0, none⟩ 1 1 [.int .i64 (got (k + 1))] rfl rfl ?c1 ?c2 ?c3 ?c4 ?c5 ?_)
        case c1 => exact cell_one_new _ _ _
        case c2 => intro u hu; simp at hu; subst hu; rfl
        case c3 => unfold maxLen; omega
        case c4 => omega
        case c5 => simp; omega
        intro v' w2 hown2 hgrow2 _
        rw [HL.out] at hown hown2 hgrow2
        have R := own_snoc hsz hown hown2 hgrow2 hbel Hr.out
        clear hown hown2 hgrow2 hbel hca hcg p1 p7 p8 p9 g9 HPr
        obtain ⟨a', cap', hv'⟩ := ownsRow_form R.1
        rw [hv'] at R
        have HR : Hid (w2.ownsRow (B + 1) 2 1 (.slice a' (cl own true got at' round (k + 1)).length cap') (cl own true got at' round (k + 1)).length ((cl own true got at' round (k + 1)).map (Value.int .i64))) := R.1
        have hR2 := R.2
        have Hv' : Hid (v' = .slice a' (cl own true got at' round (k + 1)).length cap') := hv'
        clear R hv'
        go_wp2
        go_roundw
        case rel => exact ⟨k + 1, a', cap', by omega, by go_num, Hv'.out, HR.out, hR2⟩
        case measure => simp [intOf]; omega
      · have hb' : (at' (k + 1) == round) = false := beq_no he
        have Hr : Hid (cl own true got at' round (k + 1) = cl own true got at' round k) := by show cl own true got at' round (k + 1) = _; simp [cl, he]
        clear he
        have HO : Hid (wr.ownsRow (B + 1) 2 1 (.slice a L cap) L ((cl own true got at' round k).map (Value.int .i64))) := hown
        clear hown
        go_wp2
        go_roundw
        case rel => exact ⟨k + 1, a, cap, by omega, by go_num, by rw [Hr.out, HL.out], by rw [Hr.out]; have := HO.out; rw [HL.out] at this; exact this, hbel⟩
        case measure => simp [intOf]; omega
    · obtain rfl : k = n := by omega
      have HO : Hid (wr.ownsRow (B + 1) 2 1 (.slice a L cap) L ((cl own true got at' round k).map (Value.int .i64))) := hown
      have hsz : B + 1 ≤ wr.heap.size := by have := hbel.size; omega
      clear hown p7 p8
      go_wp2_with fail
      refine (sort_own (B + 1) L cap a _ _ HL.out (by omega) HO.out hsz).mono ?_
      rintro e w3 ⟨rfl, s, hperm, hsort, hown3, hb3⟩
      have hLs : L = s.length := by rw [hperm.length_eq]; exact HL.out
      have hPs := PS_below HPr.out hb3 (by omega)
      obtain ⟨p9, g9⟩ := hPs 9 _ rfl
      have hB3 : Below (B + 1) w w3 := hbel.trans hb3
      obtain ⟨w4, hw4, hP4, hO4, hB4⟩ : ∃ w4 : World, w4 = w3.setCell ⟨B, 9, none⟩ (.slice a L cap) ∧ PS w4 B (pcells id k f x pr pp sp (.slice (some ⟨bg, 0, none⟩) lg cg) (.slice (some ⟨ba, 0, none⟩) la ca) (.slice a L cap) rd se vi vo) ∧
          w4.ownsRow (B + 1) 2 1 (.slice a L cap) L (s.map (Value.int .i64)) ∧ Below B w w4 := ⟨_, rfl, PS_set hPs 9 _, ownsRow_set_below hown3 (by omega), (hB3.mono (by omega)).setCell (by simp) _⟩
      have HP4 : Hid (PS w4 B (pcells id k f x pr pp sp (.slice (some ⟨bg, 0, none⟩) lg cg) (.slice (some ⟨ba, 0, none⟩) la ca) (.slice a L cap) rd se vi vo)) := hP4
      have HO4 : Hid (w4.ownsRow (B + 1) 2 1 (.slice a L cap) L (s.map (Value.int .i64))) := hO4
      have Hw4 : Hid (w4 = w3.setCell ⟨B, 9, none⟩ (.slice a L cap)) := hw4
      have Hperm : Hid (s.Perm (cl own true got at' round k)) := hperm
      have Hsort : Hid (Sorted s) := hsort
      have HLs : Hid (L = s.length) := hLs
      have hBs3 : B < w3.heap.size := World.block_lt_of_cell? w3 _ p9
      clear hPs hown3 hb3 hB3 hP4 hO4 hw4 hperm hsort hLs HO HPr hbel hsz HP HG HA
      go_wp2
      rw [← Hw4.out]
      clear p9 g9 p1 hBs3 Hw4
      go_loopw [8, 9, 12] (fun tv tc ti wr => ∃ (i : Nat) (v : Int) (c nd : Nat), ti = .int .i64 (i : Int) ∧ tv = .int .i64 v ∧ tc = .int .i64 (c : Int) ∧ Run s i v c ∧ wr = w4.drewN nd) (fun _ _ ti _ => L - (intOf ti).toNat)
      case atStart => exact ⟨0, 0, 0, 0, rfl, rfl, rfl, Run_zero s, rfl⟩
      case round =>
        obtain ⟨i, v, c, nd, rfl, rfl, rfl, hR, rfl⟩ := hrel
        have hiL : i ≤ L := by rw [HLs.out]; exact hR.1
        have hcb : c ≤ L := by have := ModeOf_le hR.2.2; simp at this; omega
        have HR : Hid (Run s i v c) := hR
        clear hR
        by_cases hlt2 : i < L
        · obtain ⟨g, rfl, _, _, hc⟩ := own_cell HO4.out (by omega)
          obtain ⟨u, hu⟩ : ∃ u, s[i]? = some u := ⟨_, List.getElem?_eq_getElem (by rw [← HLs.out]; exact hlt2)⟩
          have ci : w4.cell? ⟨g, i, none⟩ = some (.int .i64 u) := hc i _ (by simp [hu])
          have HCg : Hid (∀ (j : Nat) (q : Int), s[j]? = some q → w4.cell? ⟨g, j, none⟩ = some (.int .i64 q)) := fun j q hq => hc j _ (by simp [hq])
          have HU : Hid (s[i]? = some u) := hu
          clear hc hu
          go_wp2
          go_loopw [13] (fun tj wr => ∃ (j nd : Nat), i < j ∧ j ≤ L ∧ tj = .int .i64 (j : Int) ∧ Same s i j u ∧ wr = w4.drewN nd) (fun tj _ => L - (intOf tj).toNat)
          case atStart => exact ⟨i + 1, nd, by omega, by omega, by go_num, Same_one HU.out, rfl⟩
          case round =>
            obtain ⟨j, nd2, hij, hjL, rfl, hS, rfl⟩ := hrel
            have HS : Hid (Same s i j u) := hS
            clear hS
            by_cases hjlt : j < L
            · obtain ⟨q, hq⟩ : ∃ q, s[j]? = some q := ⟨_, List.getElem?_eq_getElem (by rw [← HLs.out]; exact hjlt)⟩
              have cj := HCg.out j q hq
              have HQ : Hid (s[j]? = some q) := hq
              have hg1 : (j : Int) < (L : Int) := by omega
              have hg2 : (i : Int) < (L : Int) := by omega
              clear hq
              by_cases hqu : q = u
              · have hqb : (q == u) = true := by simp [hqu]
                have HS2 : Hid (Same s i (j + 1) u) := Same_more HS.out (by rw [HQ.out, hqu])
                clear hqu
                go_wp2
                go_quiet (fail)
                go_wp2
                go_roundw
                case rel => exact ⟨j + 1, _, by omega, by omega, by go_num, HS2.out, rfl⟩
                case measure => simp [intOf]; omega
              · have hqb : (q == u) = false := beq_no hqu
                have HN : Hid (Run s j (if c < j - i then u else v) (if c < j - i then j - i else c)) := Run_step Hsort.out HR.out hij (by rw [← HLs.out]; exact hjL) HS.out (.inr ⟨q, HQ.out, hqu⟩)
                clear hqu
                go_wp2
                go_quiet (fail)
                by_cases hcj : c < j - i
                · have hcj' : (c : Int) < (j : Int) - (i : Int) := by omega
                  have HN2 : Hid (Run s j u (j - i)) := by have := HN.out; rw [if_pos hcj, if_pos hcj] at this; exact this
                  have hji : (((j - i : Nat)) : Int) = (j : Int) - (i : Int) := by omega
                  have Hji : Hid ((((j - i : Nat)) : Int) = (j : Int) - (i : Int)) := hji
                  clear hji HN hcj
                  go_wp2
                  go_roundw
                  case rel => exact ⟨j, u, j - i, _, rfl, rfl, by rw [Hji.out], HN2.out, rfl⟩
                  case measure => simp [intOf]; omega
                · have hcj' : ¬ (c : Int) < (j : Int) - (i : Int) := by omega
                  have HN2 : Hid (Run s j v c) := by have := HN.out; rw [if_neg hcj, if_neg hcj] at this; exact this
                  clear HN hcj
                  go_wp2
                  go_roundw
                  case rel => exact ⟨j, v, c, _, rfl, rfl, rfl, HN2.out, rfl⟩
                  case measure => simp [intOf]; omega
            · have hg1 : decide ((j : Int) < (L : Int)) = false := by simp; omega
              have hg2 : decide (j < L) = false := by simp; omega
              have HN : Hid (Run s j (if c < j - i then u else v) (if c < j - i then j - i else c)) := Run_step Hsort.out HR.out hij (by rw [← HLs.out]; exact hjL) HS.out (.inl (by rw [← HLs.out]; omega))
              go_wp2
              go_quiet (fail)
              by_cases hcj : c < j - i
              · have hcj' : (c : Int) < (j : Int) - (i : Int) := by omega
                have HN2 : Hid (Run s j u (j - i)) := by have := HN.out; rw [if_pos hcj, if_pos hcj] at this; exact this
                have hji : (((j - i : Nat)) : Int) = (j : Int) - (i : Int) := by omega
                have Hji : Hid ((((j - i : Nat)) : Int) = (j : Int) - (i : Int)) := hji
                clear hji HN hcj
                go_wp2
                go_roundw
                case rel => exact ⟨j, u, j - i, _, rfl, rfl, by rw [Hji.out], HN2.out, rfl⟩
                case measure => simp [intOf]; omega
              · have hcj' : ¬ (c : Int) < (j : Int) - (i : Int) := by omega
                have HN2 : Hid (Run s j v c) := by have := HN.out; rw [if_neg hcj, if_neg hcj] at this; exact this
                clear HN hcj
                go_wp2
                go_roundw
                case rel => exact ⟨j, v, c, _, rfl, rfl, rfl, HN2.out, rfl⟩
                case measure => simp [intOf]; omega
        · have HM : Hid (ModeOf s v c) := Run_end (by have h1 := HR.out; have h2 : i = s.length := by rw [← HLs.out]; omega
                                                      rwa [h2] at h1)
          go_wp2
          go_ret2
          exact ⟨v, c, a, cap, s, rfl, ModeOf_perm Hperm.out HM.out, Hperm.out, by have := HP4.out; rw [HLs.out] at this; exact this, by have := HO4.out; rw [HLs.out] at this; exact this, bel_drewN hB4 _⟩

end Go.Proofs.Qxb6619470a
