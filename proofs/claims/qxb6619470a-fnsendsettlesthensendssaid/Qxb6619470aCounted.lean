import Derived.Test.Qxb6619470aZzMode
import Derived.Test.Qxb6619470aTargets
namespace Go.Proofs.Qxb6619470a
open Go.RowKit
open Go.Proofs.Qxb6619470a.Mode

theorem info2 : (Try.prog.info? 2).map (fun i => (i.zero, i.size, i.bytes)) = some (some (.int .i64 0), 1, 8) := by kernel_rfl

theorem SI_own {w : World} {M n cap : Nat} {a : Option Addr} {e : TypeId} {l : List Int} (hn : n = l.length) (h : w.ownsRow M e 1 (.slice a n cap) n (l.map (Value.int .i64))) : SI w (.slice a n cap) l := by
  refine ⟨a, cap, by rw [hn], ?_⟩
  by_cases h0 : l = []
  · exact .inl h0
  · have hp : 0 < n := by rw [hn]; exact List.length_pos_iff.2 h0
    obtain ⟨g, hg, _, _, hc⟩ := own_cell h hp
    exact .inr ⟨g, 0, hg, fun i z hz => by rw [Nat.zero_add]; exact hc i _ (by simp [hz])⟩

theorem own_snoc {M : Nat} {w wr w2 : World} {l l' : List Int} {z : Int} {v v' : Value} {o : Obj} (hM : M ≤ wr.heap.size) (hown : wr.ownsRow M 2 1 v l.length (l.map (Value.int .i64)))
    (hown2 : w2.ownsRow M 2 1 v' (l.length + 1) (l.map (Value.int .i64) ++ [.int .i64 z])) (hg : (wr.alloc o).grownBy w2 v.ownBlock) (hb : Below M w wr) (hl : l' = l ++ [z]) :
    w2.ownsRow M 2 1 v' l'.length (l'.map (Value.int .i64)) ∧ Below M w w2 := by
  subst hl
  refine ⟨by simpa using hown2, ?_⟩
  exact (hb.alloc hM o).grown hg (by simp; omega) (fun j hj => (hown.lt j hj).1)

set_option maxHeartbeats 400000 in
theorem counted_false (own round : Int) (n bg lg cg ba la ca : Nat) (got at' : Nat → Int) (w : World) (hn2 : n ≤ 65536) (hlg : n < lg) (hla : n < la) (hlg2 : lg ≤ 65536) (_hla2 : la ≤ 65536)
    (hg : ∀ q, q ≤ n → w.cell? ⟨bg, q, none⟩ = some (.int .i64 (got q))) (ha : ∀ q, q ≤ n → w.cell? ⟨ba, q, none⟩ = some (.int .i64 (at' q))) :
    Calls Try.prog 24 #[.int .i64 own, .bool false, .int .i64 (n : Int), .slice (some ⟨bg, 0, none⟩) lg cg, .slice (some ⟨ba, 0, none⟩) la ca, .int .i64 round] w fun e w' =>
      ∃ (a : Option Addr) (cap : Nat), e = .returned (.slice a (cl own false got at' round n).length cap) ∧ w'.ownsRow w.heap.size 2 1 (.slice a (cl own false got at' round n).length cap) (cl own false got at' round n).length ((cl own false got at' round n).map (Value.int .i64)) ∧ Below w.heap.size w w' := by
  obtain ⟨i0, hi, hz0, hz1, hz2⟩ := info_parts info2
  have hbg := World.block_lt_of_cell? w _ (hg 0 (by omega))
  have hba := World.block_lt_of_cell? w _ (ha 0 (by omega))
  have HG : Hid (∀ q, q ≤ n → w.cell? ⟨bg, q, none⟩ = some (.int .i64 (got q))) := hg
  have HA : Hid (∀ q, q ≤ n → w.cell? ⟨ba, q, none⟩ = some (.int .i64 (at' q))) := ha
  clear hg ha
  obtain ⟨m, hm⟩ : ∃ m : Nat, (n : Int) + 1 = (m : Int) := ⟨n + 1, by omega⟩
  have hmb : m ≤ 65537 := by omega
  go_enter Try.func24, Try.ntmps24
  go_wp2_with (at_make; refine wpList_make_own _ rfl _ _ 37 rfl w.heap.size 2 i0 (.int .i64 0) 1 Try.underlying37 hi hz0 hz1 _ _ _ m rfl rfl (by omega) (by rw [hz2]; omega) (by unfold maxLen; omega) (Nat.le_refl _) ?_)
  intro w1 hown hgrow
  have hbel : Below w.heap.size w w1 := (Below.refl _ _).grown hgrow (Nat.le_refl _) (fun k hk => by cases hk)
  clear hgrow hm
  go_wp2
  go_loopw [13, 14] (fun v q wr => ∃ (k : Nat) (a : Option Addr) (cap : Nat), k ≤ n ∧ q = .int .i64 ((k : Int) + 1) ∧ v = .slice a (cl own false got at' round k).length cap ∧ wr.ownsRow w.heap.size 2 1 (.slice a (cl own false got at' round k).length cap) (cl own false got at' round k).length ((cl own false got at' round k).map (Value.int .i64)) ∧ Below w.heap.size w wr) (fun _ q _ => n + 1 - (intOf q).toNat)
  case atStart => exact ⟨0, _, m, by omega, by go_num, rfl, hown, hbel⟩
  case round =>
    obtain ⟨k, a, cap, hk, rfl, rfl, hown, hbel⟩ := hrel
    have hlen := cl_le own false got at' round k
    obtain ⟨L, hL⟩ : ∃ L, L = (cl own false got at' round k).length := ⟨_, rfl⟩
    rw [← hL] at hlen hown ⊢
    have HL : Hid (L = (cl own false got at' round k).length) := hL
    clear hL
    by_cases hlt : k < n
    · have hca : wr.cell? ⟨ba, k + 1, none⟩ = some (.int .i64 (at' (k + 1))) := (hbel.cell (by exact hba)).trans (HA.out (k + 1) (by omega))
      have hcg : wr.cell? ⟨bg, k + 1, none⟩ = some (.int .i64 (got (k + 1))) := (hbel.cell (by exact hbg)).trans (HG.out (k + 1) (by omega))
      by_cases he : at' (k + 1) = round
      · have hb' : (at' (k + 1) == round) = true := by simp [he]
        have Hr : Hid (cl own false got at' round (k + 1) = cl own false got at' round k ++ [got (k + 1)]) := by show cl own false got at' round (k + 1) = _; simp [cl, he]
        clear he
        have hsz := hbel.size
        have hbgr : bg < wr.heap.size := World.block_lt_of_cell? wr _ hcg
        go_wp2_with (at_builtin; refine wpList_append_own _ rfl _ _ 37 rfl w.heap.size 2 i0 (.int .i64 0) 1 8 Try.underlying37 hi hz0 hz1 hz2 rfl (by decide) _ _ _ rfl (hown.alloc _) ⟨wr.heap.size, 0, none⟩ 1 1 [.int .i64 (got (k + 1))] rfl rfl ?c1 ?c2 ?c3 ?c4 ?c5 ?_)
        case c1 => exact cell_one_new _ _ _
        case c2 => intro u hu; simp at hu; subst hu; rfl
        case c3 => unfold maxLen; omega
        case c4 => omega
        case c5 => simp; omega
        intro v' w2 hown2 hgrow2 _
        rw [HL.out] at hown hown2 hgrow2
        have R := own_snoc hsz hown hown2 hgrow2 hbel Hr.out
        clear hown hown2 hgrow2 hbel hca hcg
        obtain ⟨a', cap', hv'⟩ := ownsRow_form R.1
        rw [hv'] at R
        have HR : Hid (w2.ownsRow w.heap.size 2 1 (.slice a' (cl own false got at' round (k + 1)).length cap') (cl own false got at' round (k + 1)).length ((cl own false got at' round (k + 1)).map (Value.int .i64))) := R.1
        have hR2 := R.2
        have Hv' : Hid (v' = .slice a' (cl own false got at' round (k + 1)).length cap') := hv'
        clear R hv'
        go_wp2
        go_roundw
        case rel => exact ⟨k + 1, a', cap', by omega, by go_num, Hv'.out, HR.out, hR2⟩
        case measure => simp [intOf]; omega
      · have hb' : (at' (k + 1) == round) = false := beq_no he
        have Hr : Hid (cl own false got at' round (k + 1) = cl own false got at' round k) := by show cl own false got at' round (k + 1) = _; simp [cl, he]
        clear he
        have HO : Hid (wr.ownsRow w.heap.size 2 1 (.slice a L cap) L ((cl own false got at' round k).map (Value.int .i64))) := hown
        clear hown
        go_wp2
        go_roundw
        case rel => exact ⟨k + 1, a, cap, by omega, by go_num, by rw [Hr.out, HL.out], by rw [Hr.out]; have := HO.out; rw [HL.out] at this; exact this, hbel⟩
        case measure => simp [intOf]; omega
    · obtain rfl : k = n := by omega
      have HO : Hid (wr.ownsRow w.heap.size 2 1 (.slice a L cap) L ((cl own false got at' round k).map (Value.int .i64))) := hown
      clear hown
      go_wp2
      go_ret
      exact ⟨a, cap, by rw [HL.out]; rfl, by have := HO.out; rw [HL.out] at this; exact this, hbel⟩

set_option maxHeartbeats 400000 in
theorem counted_true (own round : Int) (n bg lg cg ba la ca : Nat) (got at' : Nat → Int) (w : World) (hn2 : n ≤ 65536) (hlg : n < lg) (hla : n < la) (hlg2 : lg ≤ 65536) (_hla2 : la ≤ 65536)
    (hg : ∀ q, q ≤ n → w.cell? ⟨bg, q, none⟩ = some (.int .i64 (got q))) (ha : ∀ q, q ≤ n → w.cell? ⟨ba, q, none⟩ = some (.int .i64 (at' q))) :
    Calls Try.prog 24 #[.int .i64 own, .bool true, .int .i64 (n : Int), .slice (some ⟨bg, 0, none⟩) lg cg, .slice (some ⟨ba, 0, none⟩) la ca, .int .i64 round] w fun e w' =>
      ∃ (a : Option Addr) (cap : Nat), e = .returned (.slice a (cl own true got at' round n).length cap) ∧ w'.ownsRow w.heap.size 2 1 (.slice a (cl own true got at' round n).length cap) (cl own true got at' round n).length ((cl own true got at' round n).map (Value.int .i64)) ∧ Below w.heap.size w w' := by
  obtain ⟨i0, hi, hz0, hz1, hz2⟩ := info_parts info2
  have hbg := World.block_lt_of_cell? w _ (hg 0 (by omega))
  have hba := World.block_lt_of_cell? w _ (ha 0 (by omega))
  have HG : Hid (∀ q, q ≤ n → w.cell? ⟨bg, q, none⟩ = some (.int .i64 (got q))) := hg
  have HA : Hid (∀ q, q ≤ n → w.cell? ⟨ba, q, none⟩ = some (.int .i64 (at' q))) := ha
  clear hg ha
  obtain ⟨m, hm⟩ : ∃ m : Nat, (n : Int) + 1 = (m : Int) := ⟨n + 1, by omega⟩
  have hmb : m ≤ 65537 := by omega
  go_enter Try.func24, Try.ntmps24
  go_wp2_with (at_make; refine wpList_make_own _ rfl _ _ 37 rfl w.heap.size 2 i0 (.int .i64 0) 1 Try.underlying37 hi hz0 hz1 _ _ _ m rfl rfl (by omega) (by rw [hz2]; omega) (by unfold maxLen; omega) (Nat.le_refl _) ?_)
  intro w1 hown hgrow
  have hbel : Below w.heap.size w w1 := (Below.refl _ _).grown hgrow (Nat.le_refl _) (fun k hk => by cases hk)
  clear hgrow hm
  have hsz0 := hbel.size
  go_wp2_with (at_builtin; refine wpList_append_own _ rfl _ _ 37 rfl w.heap.size 2 i0 (.int .i64 0) 1 8 Try.underlying37 hi hz0 hz1 hz2 rfl (by decide) _ _ _ rfl (hown.alloc _) ⟨w1.heap.size, 0, none⟩ 1 1 [.int .i64 own] rfl rfl ?c1 ?c2 ?c3 ?c4 ?c5 ?_)
  case c1 => exact cell_one_new _ _ _
  case c2 => intro u hu; simp at hu; subst hu; rfl
  case c3 => unfold maxLen; omega
  case c4 => omega
  case c5 => simp; omega
  intro v0 w2 hown0 hgrow0 _
  have R0 := own_snoc (l := []) (l' := [own]) hsz0 hown hown0 hgrow0 hbel rfl
  clear hown hown0 hgrow0 hbel hsz0
  obtain ⟨a0, cap0, hv0⟩ := ownsRow_form R0.1
  rw [hv0] at R0
  have HR0 : Hid (w2.ownsRow w.heap.size 2 1 (.slice a0 1 cap0) 1 [.int .i64 own]) := R0.1
  have hR0 := R0.2
  have Hv0 : Hid (v0 = .slice a0 1 cap0) := hv0
  clear R0 hv0
  go_wp2
  go_loopw [13, 14] (fun v q wr => ∃ (k : Nat) (a : Option Addr) (cap : Nat), k ≤ n ∧ q = .int .i64 ((k : Int) + 1) ∧ v = .slice a (cl own true got at' round k).length cap ∧ wr.ownsRow w.heap.size 2 1 (.slice a (cl own true got at' round k).length cap) (cl own true got at' round k).length ((cl own true got at' round k).map (Value.int .i64)) ∧ Below w.heap.size w wr) (fun _ q _ => n + 1 - (intOf q).toNat)
  case atStart => exact ⟨0, a0, cap0, by omega, by go_num, Hv0.out, HR0.out, hR0⟩
  case round =>
    obtain ⟨k, a, cap, hk, rfl, rfl, hown, hbel⟩ := hrel
    have hlen := cl_le own true got at' round k
    obtain ⟨L, hL⟩ : ∃ L, L = (cl own true got at' round k).length := ⟨_, rfl⟩
    rw [← hL] at hlen hown ⊢
    have HL : Hid (L = (cl own true got at' round k).length) := hL
    clear hL
    by_cases hlt : k < n
    · have hca : wr.cell? ⟨ba, k + 1, none⟩ = some (.int .i64 (at' (k + 1))) := (hbel.cell (by exact hba)).trans (HA.out (k + 1) (by omega))
      have hcg : wr.cell? ⟨bg, k + 1, none⟩ = some (.int .i64 (got (k + 1))) := (hbel.cell (by exact hbg)).trans (HG.out (k + 1) (by omega))
      by_cases he : at' (k + 1) = round
      · have hb' : (at' (k + 1) == round) = true := by simp [he]
        have Hr : Hid (cl own true got at' round (k + 1) = cl own true got at' round k ++ [got (k + 1)]) := by show cl own true got at' round (k + 1) = _; simp [cl, he]
        clear he
        have hsz := hbel.size
        have hbgr : bg < wr.heap.size := World.block_lt_of_cell? wr _ hcg
        go_wp2_with (at_builtin; refine wpList_append_own _ rfl _ _ 37 rfl w.heap.size 2 i0 (.int .i64 0) 1 8 Try.underlying37 hi hz0 hz1 hz2 rfl (by decide) _ _ _ rfl (hown.alloc _) ⟨wr.heap.size, 0, none⟩ 1 1 [.int .i64 (got (k + 1))] rfl rfl ?c1 ?c2 ?c3 ?c4 ?c5 ?_)
        case c1 => exact cell_one_new _ _ _
        case c2 => intro u hu; simp at hu; subst hu; rfl
        case c3 => unfold maxLen; omega
        case c4 => omega
        case c5 => simp; omega
        intro v' w2 hown2 hgrow2 _
        rw [HL.out] at hown hown2 hgrow2
        have R := own_snoc hsz hown hown2 hgrow2 hbel Hr.out
        clear hown hown2 hgrow2 hbel hca hcg
        obtain ⟨a', cap', hv'⟩ := ownsRow_form R.1
        rw [hv'] at R
        have HR : Hid (w2.ownsRow w.heap.size 2 1 (.slice a' (cl own true got at' round (k + 1)).length cap') (cl own true got at' round (k + 1)).length ((cl own true got at' round (k + 1)).map (Value.int .i64))) := R.1
        have hR2 := R.2
        have Hv' : Hid (v' = .slice a' (cl own true got at' round (k + 1)).length cap') := hv'
        clear R hv'
        go_wp2
        go_roundw
        case rel => exact ⟨k + 1, a', cap', by omega, by go_num, Hv'.out, HR.out, hR2⟩
        case measure => simp [intOf]; omega
      · have hb' : (at' (k + 1) == round) = false := beq_no he
        have Hr : Hid (cl own true got at' round (k + 1) = cl own true got at' round k) := by show cl own true got at' round (k + 1) = _; simp [cl, he]
        clear he
        have HO : Hid (wr.ownsRow w.heap.size 2 1 (.slice a L cap) L ((cl own true got at' round k).map (Value.int .i64))) := hown
        clear hown
        go_wp2
        go_roundw
        case rel => exact ⟨k + 1, a, cap, by omega, by go_num, by rw [Hr.out, HL.out], by rw [Hr.out]; have := HO.out; rw [HL.out] at this; exact this, hbel⟩
        case measure => simp [intOf]; omega
    · obtain rfl : k = n := by omega
      have HO : Hid (wr.ownsRow w.heap.size 2 1 (.slice a L cap) L ((cl own true got at' round k).map (Value.int .i64))) := hown
      clear hown
      go_wp2
      go_ret
      exact ⟨a, cap, by rw [HL.out]; rfl, by have := HO.out; rw [HL.out] at this; exact this, hbel⟩

theorem counted_any (own round : Int) (has : Bool) (n bg lg cg ba la ca : Nat) (got at' : Nat → Int) (w : World) (hn2 : n ≤ 65536) (hlg : n < lg) (hla : n < la) (hlg2 : lg ≤ 65536) (hla2 : la ≤ 65536)
    (hg : ∀ q, q ≤ n → w.cell? ⟨bg, q, none⟩ = some (.int .i64 (got q))) (ha : ∀ q, q ≤ n → w.cell? ⟨ba, q, none⟩ = some (.int .i64 (at' q))) :
    Calls Try.prog 24 #[.int .i64 own, .bool has, .int .i64 (n : Int), .slice (some ⟨bg, 0, none⟩) lg cg, .slice (some ⟨ba, 0, none⟩) la ca, .int .i64 round] w fun e w' =>
      ∃ (a : Option Addr) (cap : Nat), e = .returned (.slice a (cl own has got at' round n).length cap) ∧ w'.ownsRow w.heap.size 2 1 (.slice a (cl own has got at' round n).length cap) (cl own has got at' round n).length ((cl own has got at' round n).map (Value.int .i64)) ∧ Below w.heap.size w w' := by
  cases has
  · exact counted_false own round n bg lg cg ba la ca got at' w hn2 hlg hla hlg2 hla2 hg ha
  · exact counted_true own round n bg lg cg ba la ca got at' w hn2 hlg hla hlg2 hla2 hg ha

end Go.Proofs.Qxb6619470a
