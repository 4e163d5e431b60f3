import Derived.Test.Qxb6619470aGrow
import Derived.Laws.Pointers
import Derived.BigQuiet
import Derived.Deep.RegionHeld3
import Derived.Deep.AppendLies
namespace Go.Proofs.Qxb6619470a
open Go.RowKit

/-- Block 'B' begins with the cells 'c', and none of them is frozen. -/
def PS (w : World) (B : Nat) (c : List Value) : Prop := ∀ k v, c[k]? = some v → w.cell? ⟨B, k, none⟩ = some v ∧ w.frozen? ⟨B, k, none⟩ = false

theorem PS_set {w : World} {B : Nat} {c : List Value} (h : PS w B c) (k : Nat) (v : Value) : PS (w.setCell ⟨B, k, none⟩ v) B (c.set k v) := by
  intro j u hj
  rw [List.getElem?_set] at hj
  by_cases e : k = j
  · subst e
    rw [if_pos rfl] at hj
    by_cases hk : k < c.length
    · rw [if_pos hk] at hj
      obtain ⟨h1, h2⟩ := h k c[k] (List.getElem?_eq_getElem hk)
      simp only [Option.some.injEq] at hj
      subst hj
      exact ⟨World.cell?_setCell_same _ _ _ h1, by rw [World.frozen?_setCell]; exact h2⟩
    · rw [if_neg hk] at hj; cases hj
  · rw [if_neg e] at hj
    obtain ⟨h1, h2⟩ := h j u hj
    exact ⟨by rw [World.cell?_setCell_other _ _ _ _ (by simp only [ne_eq, Addr.mk.injEq]; exact fun h => e h.2.1)]; exact h1, by rw [World.frozen?_setCell]; exact h2⟩

theorem PS_set_other {w : World} {B D : Nat} {c : List Value} (h : PS w B c) (hne : ¬ D = B) (k : Nat) (v : Value) : PS (w.setCell ⟨D, k, none⟩ v) B c := by
  intro j u hj
  obtain ⟨h1, h2⟩ := h j u hj
  exact ⟨by rw [World.cell?_setCell_other _ _ _ _ (by simp only [ne_eq, Addr.mk.injEq]; exact fun h => hne h.1)]; exact h1, by rw [World.frozen?_setCell]; exact h2⟩

theorem PS_below {w w' : World} {B M : Nat} {c : List Value} (h : PS w B c) (hb : Below M w w') (hM : B < M) : PS w' B c :=
  fun k v hk => ⟨(hb.cell (by exact hM)).trans (h k v hk).1, (hb.frozen (by exact hM)).trans (h k v hk).2⟩

theorem PS_alloc {w : World} {B : Nat} {c : List Value} (h : PS w B c) (hB : B < w.heap.size) (o : Obj) : PS (w.alloc o) B c :=
  PS_below h ((Below.refl w.heap.size w).alloc (Nat.le_refl _) o) hB

theorem PS_new (w : World) (c : List Value) (t : TypeId) (b : Nat) (hb : b = w.heap.size) : PS (w.alloc (.cells c.toArray t)) b c := by
  intro k v hk
  refine ⟨by rw [World.cell?_alloc_at _ _ _ _ hb]; simpa using hk, World.frozen?_alloc_at _ _ _ _ hb⟩

theorem bel_drewN {B : Nat} {a w : World} (h : Below B a w) (n : Nat) : Below B a (w.drewN n) := ⟨h.os, h.tape, h.output, h.size, h.block⟩

/-- A process's block. -/
def pcells (id : Int) (n : Nat) (f x : Int) (pr : Bool) (pp sp : Int) (vg va vr : Value) (rd se : Int) (vi vo : Value) : List Value :=
  [.int .i64 id, .int .i64 (n : Int), .int .i64 f, .int .i64 x, .bool pr, .int .i64 pp, .int .i64 sp, vg, va, vr, .int .i64 rd, .int .i64 se, vi, vo]

/-- An item's block. -/
def icells (x : Int) : List Value := [.int .i64 x, .int .i64 0, .pointer none]

/-- The cells of a list of messages. -/
def ml (iv : Value) : List Int → List Value
  | [] => []
  | q :: l => .int .i64 q :: iv :: ml iv l
theorem ml_append (iv : Value) : ∀ (l m : List Int), ml iv (l ++ m) = ml iv l ++ ml iv m
  | [], m => rfl
  | q :: l, m => by simp [ml, ml_append iv l m]

/-- What Send leaves behind when it sends 'x' to all the others. -/
def Sent (w : World) (B n : Nat) (id f : Int) (pr : Bool) (px pp sp se round : Int) (vg va : Value) (x : Int) (e : Ending) (w' : World) : Prop :=
  ∃ (a : Option Addr) (cap I : Nat) (vr : Value), e = .returned (.slice a (rl id n).length cap) ∧ B < I ∧
    w'.ownsRow (B + 1) 31 2 (.slice a (rl id n).length cap) (rl id n).length (ml (.slice (some ⟨I, 0, none⟩) 1 1) (rl id n)) ∧ PS w' I (icells x) ∧
    PS w' B (pcells id n f px pr pp sp vg va vr round se (.slice (some ⟨I, 0, none⟩) 1 1) (.slice a (rl id n).length cap)) ∧ Below B w w'

theorem own_more31 {M : Nat} {w wr w2 : World} {id : Int} {k : Nat} {v v' iv : Value} {o : Obj} (hM : M ≤ wr.heap.size) (hown : wr.ownsRow M 31 2 v (rl id k).length (ml iv (rl id k)))
    (hown2 : w2.ownsRow M 31 2 v' ((rl id k).length + 1) (ml iv (rl id k) ++ [.int .i64 ((k : Int) + 1), iv])) (hg : (wr.alloc o).grownBy w2 v.ownBlock) (hb : Below M w wr)
    (hr : rl id (k + 1) = rl id k ++ [(k : Int) + 1]) :
    w2.ownsRow M 31 2 v' (rl id (k + 1)).length (ml iv (rl id (k + 1))) ∧ Below M w w2 := by
  refine ⟨by rw [hr, ml_append]; simpa [ml] using hown2, ?_⟩
  refine (hb.alloc hM o).grown hg (by simp; omega) (fun j hj => ?_)
  exact (hown.lt j hj).1

theorem ownsRow_base {w : World} {M M' : Nat} {e : TypeId} {size n : Nat} {v : Value} {xs : List Value} (h : w.ownsRow M e size v n xs) (hM : M' ≤ M) : w.ownsRow M' e size v n xs := by
  obtain ⟨h1, h2⟩ := h
  refine ⟨h1, ?_⟩
  rcases h2 with h2 | ⟨g, cap, cur, hv, hg, r⟩
  · exact .inl h2
  · exact .inr ⟨g, cap, cur, hv, by omega, r⟩

theorem ownsRow_form {w : World} {M : Nat} {e : TypeId} {size n : Nat} {v : Value} {xs : List Value} (h : w.ownsRow M e size v n xs) : ∃ a cap, v = .slice a n cap := by
  obtain ⟨_, ⟨rfl, rfl⟩ | ⟨g, cap, cur, rfl, _⟩⟩ := h
  · exact ⟨none, 0, rfl⟩
  · exact ⟨some ⟨g, 0, none⟩, cap, rfl⟩

theorem ownsRow_set_below {w : World} {M D k : Nat} {e : TypeId} {size n : Nat} {v u : Value} {xs : List Value} (h : w.ownsRow M e size v n xs) (hD : D < M) : (w.setCell ⟨D, k, none⟩ u).ownsRow M e size v n xs :=
  ownsRow_setCell_below h hD u

set_option maxHeartbeats 400000 in
theorem send_one (B n : Nat) (id f x pp sp rd se round : Int) (pr : Bool) (vg va : Value) (w : World)
    (hset : Calls Try.prog 19 #[.pointer (some ⟨B, 0, none⟩), .int .i64 (round - 1)] w fun e w1 => e = .returned (.tuple #[]) ∧ ∃ vr, PS w1 B (pcells id n f x pr pp sp vg va vr rd se (.slice none 0 0) (.slice none 0 0)) ∧ Below B w w1)
    (h1 : 1 ≤ round) (h2 : round ≤ 9223372036854775807) (hn : 1 ≤ n) (hn2 : n ≤ 65536) (hs : stp round = 1) :
    Calls Try.prog 8 #[.pointer (some ⟨B, 0, none⟩), .int .i64 round] w fun e w' => Sent w B n id f pr x pp sp se round vg va x e w' := by
  have q29 : ∀ (w : World) (a : Option Addr) (n c n' c' : Nat), (binOp .eql 29 (.slice a n c) (.slice none n' c')).run Try.prog w = .ok (.bool a.isNone) w := fun w a n c n' c' => Lib.run_eql_slice_nil w _ _ a n c n' c' Try.underlying29
  have Hset : Hid (Calls Try.prog 19 #[.pointer (some ⟨B, 0, none⟩), .int .i64 (round - 1)] w fun e w1 => e = .returned (.tuple #[]) ∧ ∃ vr, PS w1 B (pcells id n f x pr pp sp vg va vr rd se (.slice none 0 0) (.slice none 0 0)) ∧ Below B w w1) := hset
  clear hset
  have e2 : (stp round == 2) = false := by rw [hs]; rfl
  have e3 : (stp round == 3) = false := by rw [hs]; rfl
  clear hs
  go_enter Try.func8, Try.ntmps8
  go_wp2_with fail
  refine Hset.out.mono ?_
  rintro e w1 ⟨rfl, vr, hP, hb⟩
  clear Hset
  obtain ⟨c0, f0⟩ := hP 0 _ rfl
  obtain ⟨c1, f1⟩ := hP 1 _ rfl
  obtain ⟨c3, f3⟩ := hP 3 _ rfl
  obtain ⟨c4, f4⟩ := hP 4 _ rfl
  obtain ⟨c5, f5⟩ := hP 5 _ rfl
  obtain ⟨c10, f10⟩ := hP 10 _ rfl
  obtain ⟨c12, f12⟩ := hP 12 _ rfl
  obtain ⟨c13, f13⟩ := hP 13 _ rfl
  have hBs : B < w1.heap.size := World.block_lt_of_cell? w1 _ c0
  have HP : Hid (PS w1 B (pcells id n f x pr pp sp vg va vr rd se (.slice none 0 0) (.slice none 0 0))) := hP
  clear hP
  go_wp2_with fail
  refine (step_pos round _ h1 h2).mono ?_
  rintro e w' ⟨rfl, rfl⟩
  obtain ⟨wa, hwa, hP, hba⟩ : ∃ wa : World, wa = w1.setCell ⟨B, 10, none⟩ (.int .i64 round) ∧ PS wa B (pcells id n f x pr pp sp vg va vr round se (.slice none 0 0) (.slice none 0 0)) ∧ Below B w wa := ⟨_, rfl, PS_set HP.out 10 _, hb.setCell (by simp) _⟩
  rw [← hwa]
  clear hwa HP hBs hb c0 f0 c1 f1 c3 f3 c4 f4 c5 f5 c10 f10 c12 f12 c13 f13
  obtain ⟨c0, f0⟩ := hP 0 _ rfl
  obtain ⟨c1, f1⟩ := hP 1 _ rfl
  obtain ⟨c4, f4⟩ := hP 4 _ rfl
  obtain ⟨c5, f5⟩ := hP 5 _ rfl
  obtain ⟨c12, f12⟩ := hP 12 _ rfl
  obtain ⟨c13, f13⟩ := hP 13 _ rfl
  have hBs : B < wa.heap.size := World.block_lt_of_cell? wa _ c0
  have HP : Hid (PS wa B (pcells id n f x pr pp sp vg va vr round se (.slice none 0 0) (.slice none 0 0))) := hP
  clear hP
  go_wp2
  obtain ⟨w2, hw2, hP2, hI, hb2, hI2⟩ : ∃ w2 : World, w2 = (wa.setCell ⟨B, 12, none⟩ (.slice (some ⟨wa.heap.size, 0, none⟩) 1 1)).alloc (.cells #[.int .i64 x, .int .i64 0, .pointer none] 34) ∧
      PS w2 B (pcells id n f x pr pp sp vg va vr round se (.slice (some ⟨wa.heap.size, 0, none⟩) 1 1) (.slice none 0 0)) ∧ PS w2 wa.heap.size (icells x) ∧ Below B w w2 ∧ wa.heap.size < w2.heap.size :=
    ⟨_, rfl, PS_alloc (PS_set HP.out 12 _) (by simpa [World.setCell] using hBs) _, PS_new _ (icells x) 34 _ (by simp [World.setCell]),
      (hba.setCell (by simp) _).alloc (by simp [World.setCell]; omega) _, by simp [World.setCell]⟩
  rw [← hw2]
  clear hw2 c0 f0 c1 f1 c4 f4 c5 f5 c12 f12 c13 f13
  obtain ⟨I, HI⟩ : ∃ I, Hid (I = wa.heap.size) := ⟨_, rfl⟩
  rw [← HI.out] at hP2 hI hI2 ⊢
  have hBI : B < I := by rw [HI.out]; exact hBs
  clear HI HP hBs hba
  obtain ⟨c1, f1⟩ := hP2 1 _ rfl
  obtain ⟨c13, f13⟩ := hP2 13 _ rfl
  have HP2 : Hid (PS w2 B (pcells id n f x pr pp sp vg va vr round se (.slice (some ⟨I, 0, none⟩) 1 1) (.slice none 0 0))) := hP2
  have HI2 : Hid (PS w2 I (icells x)) := hI
  clear hP2 hI
  obtain ⟨m, hm⟩ : ∃ m : Nat, n = m + 1 := ⟨n - 1, by omega⟩
  have hwr : IntKind.i64.wrap ((n : Int) - 1) = (m : Int) := by rw [IntKind.wrap_i64]; omega
  have hm2 : m ≤ 65536 := by omega
  clear hm
  go_region_held3 (fun w' => w'.cell? ⟨B, 13, none⟩ = some (.slice none 0 0) ∧ w'.cell? ⟨B, 1, none⟩ = some (.int .i64 (n : Int))) (first | go_keep | (exact ⟨k13, k1⟩))
    ((go_at_call 22; refine (grow_any m _ hm2).mono ?_; rintro e w3 ⟨a0, cap0, rfl, hown, hbel⟩; have k13 : w3.cell? ⟨B, 13, none⟩ = some (.slice none 0 0) := (hbel.cell (by simp; omega)).trans c13; have k1 : w3.cell? ⟨B, 1, none⟩ = some (.int .i64 (n : Int)) := (hbel.cell (by simp; omega)).trans c1))
  have hb3 : Below w2.heap.size w2 w3 := ⟨hbel.os, hbel.tape, hbel.output, hbel.size, hbel.block⟩
  have hown3 : w3.ownsRow w2.heap.size 31 2 (.slice a0 0 cap0) 0 [] := hown
  clear hown hbel k13 k1 c1 f1 c13 f13 hwr
  obtain ⟨i0, hi, hz0, hz1, hz2⟩ := info_parts info31
  have hBw : B < w2.heap.size := by omega
  go_wp2
  go_loopw [6, 7] (fun v q wr => ∃ (k : Nat) (a : Option Addr) (cap : Nat), k ≤ n ∧ q = .int .i64 ((k : Int) + 1) ∧ v = .slice a (rl id k).length cap ∧ wr.ownsRow w2.heap.size 31 2 (.slice a (rl id k).length cap) (rl id k).length (ml (.slice (some ⟨I, 0, none⟩) 1 1) (rl id k)) ∧ Below w2.heap.size w2 wr) (fun _ q _ => n + 1 - (intOf q).toNat)
  case atStart => exact ⟨0, a0, cap0, by omega, by go_num, rfl, hown3, hb3⟩
  case round =>
    obtain ⟨k, a, cap, hk, rfl, rfl, hown, hbel⟩ := hrel
    clear hown3 hb3
    have hPr := PS_below HP2.out hbel hBw
    obtain ⟨c0, f0⟩ := hPr 0 _ rfl
    obtain ⟨c1, f1⟩ := hPr 1 _ rfl
    obtain ⟨c12, f12⟩ := hPr 12 _ rfl
    obtain ⟨c13, f13⟩ := hPr 13 _ rfl
    have HPr : Hid (PS wr B (pcells id n f x pr pp sp vg va vr round se (.slice (some ⟨I, 0, none⟩) 1 1) (.slice none 0 0))) := hPr
    have hBr : B < wr.heap.size := World.block_lt_of_cell? wr _ c0
    clear hPr
    have hlen := rl_le id k
    by_cases hlt : k < n
    · by_cases hid : (k : Int) + 1 = id
      · have hb' : ((k : Int) + 1 != id) = false := by simp [hid]
        have Hr : Hid (rl id (k + 1) = rl id k) := by show rl id (k + 1) = _; simp [rl, hid]
        clear hid
        go_wp2
        go_roundw
        case rel => exact ⟨k + 1, a, cap, by omega, by go_num, by rw [Hr.out], by rw [Hr.out]; exact hown, hbel⟩
        case measure => simp [intOf]; omega
      · have hb' := bne_yes hid
        have Hr : Hid (rl id (k + 1) = rl id k ++ [(k : Int) + 1]) := by show rl id (k + 1) = _; simp [rl, hid]
        clear hid
        have hsz := hbel.size
        go_wp2_with (at_builtin; refine wpList_append_own _ rfl _ _ 24 rfl w2.heap.size 31 i0 _ 2 32 Try.underlying24 hi hz0 hz1 hz2 rfl (by decide) _ _ _ rfl (hown.alloc _) ⟨wr.heap.size, 0, none⟩ 1 1 [.int .i64 ((k : Int) + 1), .slice (some ⟨I, 0, none⟩) 1 1] rfl rfl ?c1 ?c2 ?c3 ?c4 ?c5 ?_)
        case c1 => exact World.news_of_block (heap_alloc_new wr _)
        case c2 => intro u hu; simp at hu; rcases hu with rfl | rfl <;> rfl
        case c3 => unfold maxLen; omega
        case c4 => omega
        case c5 => simp; omega
        intro v' w4 hown2 hgrow2 _
        have R := own_more31 hsz hown hown2 hgrow2 hbel Hr.out
        clear hown hown2 hgrow2 hbel c0 f0 c1 f1 c12 f12 c13 f13 HPr
        obtain ⟨a', cap', hv'⟩ := ownsRow_form R.1
        rw [hv'] at R
        have HR : Hid (w4.ownsRow w2.heap.size 31 2 (.slice a' (rl id (k + 1)).length cap') (rl id (k + 1)).length (ml (.slice (some ⟨I, 0, none⟩) 1 1) (rl id (k + 1)))) := R.1
        have hR2 := R.2
        have Hv' : Hid (v' = .slice a' (rl id (k + 1)).length cap') := hv'
        clear R hv'
        go_wp2
        go_roundw
        case rel => exact ⟨k + 1, a', cap', by omega, by go_num, Hv'.out, HR.out, hR2⟩
        case measure => simp [intOf]; omega
    · obtain rfl : k = n := by omega
      have H : Hid (wr.ownsRow w2.heap.size 31 2 (.slice a (rl id k).length cap) (rl id k).length (ml (.slice (some ⟨I, 0, none⟩) 1 1) (rl id k))) := hown
      have HIr : Hid (PS wr I (icells x)) := PS_below HI2.out hbel hI2
      clear hown
      go_wp2
      go_ret
      exact ⟨a, cap, I, vr, rfl, hBI, ownsRow_base (ownsRow_set_below H.out hBw) (by omega), PS_set_other HIr.out (by omega) _ _, PS_set HPr.out 13 _, (hb2.trans (hbel.mono (by omega))).setCell (by simp) _⟩

set_option maxHeartbeats 400000 in
theorem send_two (B n : Nat) (id f x pp sp rd se round : Int) (vg va : Value) (w : World)
    (hset : Calls Try.prog 19 #[.pointer (some ⟨B, 0, none⟩), .int .i64 (round - 1)] w fun e w1 => e = .returned (.tuple #[]) ∧ ∃ vr, PS w1 B (pcells id n f x true pp sp vg va vr rd se (.slice none 0 0) (.slice none 0 0)) ∧ Below B w w1)
    (h1 : 1 ≤ round) (h2 : round ≤ 9223372036854775807) (hn : 1 ≤ n) (hn2 : n ≤ 65536) (hs : stp round = 2) :
    Calls Try.prog 8 #[.pointer (some ⟨B, 0, none⟩), .int .i64 round] w fun e w' => Sent w B n id f true x pp sp se round vg va pp e w' := by
  have q29 : ∀ (w : World) (a : Option Addr) (n c n' c' : Nat), (binOp .eql 29 (.slice a n c) (.slice none n' c')).run Try.prog w = .ok (.bool a.isNone) w := fun w a n c n' c' => Lib.run_eql_slice_nil w _ _ a n c n' c' Try.underlying29
  have Hset : Hid (Calls Try.prog 19 #[.pointer (some ⟨B, 0, none⟩), .int .i64 (round - 1)] w fun e w1 => e = .returned (.tuple #[]) ∧ ∃ vr, PS w1 B (pcells id n f x true pp sp vg va vr rd se (.slice none 0 0) (.slice none 0 0)) ∧ Below B w w1) := hset
  clear hset
  have e2 : (stp round == 2) = true := by rw [hs]; rfl
  clear hs
  go_enter Try.func8, Try.ntmps8
  go_wp2_with fail
  refine Hset.out.mono ?_
  rintro e w1 ⟨rfl, vr, hP, hb⟩
  clear Hset
  obtain ⟨c0, f0⟩ := hP 0 _ rfl
  obtain ⟨c1, f1⟩ := hP 1 _ rfl
  obtain ⟨c3, f3⟩ := hP 3 _ rfl
  obtain ⟨c4, f4⟩ := hP 4 _ rfl
  obtain ⟨c5, f5⟩ := hP 5 _ rfl
  obtain ⟨c10, f10⟩ := hP 10 _ rfl
  obtain ⟨c12, f12⟩ := hP 12 _ rfl
  obtain ⟨c13, f13⟩ := hP 13 _ rfl
  have hBs : B < w1.heap.size := World.block_lt_of_cell? w1 _ c0
  have HP : Hid (PS w1 B (pcells id n f x true pp sp vg va vr rd se (.slice none 0 0) (.slice none 0 0))) := hP
  clear hP
  go_wp2_with fail
  refine (step_pos round _ h1 h2).mono ?_
  rintro e w' ⟨rfl, rfl⟩
  obtain ⟨wa, hwa, hP, hba⟩ : ∃ wa : World, wa = w1.setCell ⟨B, 10, none⟩ (.int .i64 round) ∧ PS wa B (pcells id n f x true pp sp vg va vr round se (.slice none 0 0) (.slice none 0 0)) ∧ Below B w wa := ⟨_, rfl, PS_set HP.out 10 _, hb.setCell (by simp) _⟩
  rw [← hwa]
  clear hwa HP hBs hb c0 f0 c1 f1 c3 f3 c4 f4 c5 f5 c10 f10 c12 f12 c13 f13
  obtain ⟨c0, f0⟩ := hP 0 _ rfl
  obtain ⟨c1, f1⟩ := hP 1 _ rfl
  obtain ⟨c4, f4⟩ := hP 4 _ rfl
  obtain ⟨c5, f5⟩ := hP 5 _ rfl
  obtain ⟨c12, f12⟩ := hP 12 _ rfl
  obtain ⟨c13, f13⟩ := hP 13 _ rfl
  have hBs : B < wa.heap.size := World.block_lt_of_cell? wa _ c0
  have HP : Hid (PS wa B (pcells id n f x true pp sp vg va vr round se (.slice none 0 0) (.slice none 0 0))) := hP
  clear hP
  go_wp2
  obtain ⟨w2, hw2, hP2, hI, hb2, hI2⟩ : ∃ w2 : World, w2 = (wa.setCell ⟨B, 12, none⟩ (.slice (some ⟨wa.heap.size, 0, none⟩) 1 1)).alloc (.cells #[.int .i64 pp, .int .i64 0, .pointer none] 34) ∧
      PS w2 B (pcells id n f x true pp sp vg va vr round se (.slice (some ⟨wa.heap.size, 0, none⟩) 1 1) (.slice none 0 0)) ∧ PS w2 wa.heap.size (icells pp) ∧ Below B w w2 ∧ wa.heap.size < w2.heap.size :=
    ⟨_, rfl, PS_alloc (PS_set HP.out 12 _) (by simpa [World.setCell] using hBs) _, PS_new _ (icells pp) 34 _ (by simp [World.setCell]),
      (hba.setCell (by simp) _).alloc (by simp [World.setCell]; omega) _, by simp [World.setCell]⟩
  rw [← hw2]
  clear hw2 c0 f0 c1 f1 c4 f4 c5 f5 c12 f12 c13 f13
  obtain ⟨I, HI⟩ : ∃ I, Hid (I = wa.heap.size) := ⟨_, rfl⟩
  rw [← HI.out] at hP2 hI hI2 ⊢
  have hBI : B < I := by rw [HI.out]; exact hBs
  clear HI HP hBs hba
  obtain ⟨c1, f1⟩ := hP2 1 _ rfl
  obtain ⟨c13, f13⟩ := hP2 13 _ rfl
  have HP2 : Hid (PS w2 B (pcells id n f x true pp sp vg va vr round se (.slice (some ⟨I, 0, none⟩) 1 1) (.slice none 0 0))) := hP2
  have HI2 : Hid (PS w2 I (icells pp)) := hI
  clear hP2 hI
  obtain ⟨m, hm⟩ : ∃ m : Nat, n = m + 1 := ⟨n - 1, by omega⟩
  have hwr : IntKind.i64.wrap ((n : Int) - 1) = (m : Int) := by rw [IntKind.wrap_i64]; omega
  have hm2 : m ≤ 65536 := by omega
  clear hm
  go_region_held3 (fun w' => w'.cell? ⟨B, 13, none⟩ = some (.slice none 0 0) ∧ w'.cell? ⟨B, 1, none⟩ = some (.int .i64 (n : Int))) (first | go_keep | (exact ⟨k13, k1⟩))
    ((go_at_call 22; refine (grow_any m _ hm2).mono ?_; rintro e w3 ⟨a0, cap0, rfl, hown, hbel⟩; have k13 : w3.cell? ⟨B, 13, none⟩ = some (.slice none 0 0) := (hbel.cell (by simp; omega)).trans c13; have k1 : w3.cell? ⟨B, 1, none⟩ = some (.int .i64 (n : Int)) := (hbel.cell (by simp; omega)).trans c1))
  have hb3 : Below w2.heap.size w2 w3 := ⟨hbel.os, hbel.tape, hbel.output, hbel.size, hbel.block⟩
  have hown3 : w3.ownsRow w2.heap.size 31 2 (.slice a0 0 cap0) 0 [] := hown
  clear hown hbel k13 k1 c1 f1 c13 f13 hwr
  obtain ⟨i0, hi, hz0, hz1, hz2⟩ := info_parts info31
  have hBw : B < w2.heap.size := by omega
  go_wp2
  go_loopw [6, 7] (fun v q wr => ∃ (k : Nat) (a : Option Addr) (cap : Nat), k ≤ n ∧ q = .int .i64 ((k : Int) + 1) ∧ v = .slice a (rl id k).length cap ∧ wr.ownsRow w2.heap.size 31 2 (.slice a (rl id k).length cap) (rl id k).length (ml (.slice (some ⟨I, 0, none⟩) 1 1) (rl id k)) ∧ Below w2.heap.size w2 wr) (fun _ q _ => n + 1 - (intOf q).toNat)
  case atStart => exact ⟨0, a0, cap0, by omega, by go_num, rfl, hown3, hb3⟩
  case round =>
    obtain ⟨k, a, cap, hk, rfl, rfl, hown, hbel⟩ := hrel
    clear hown3 hb3
    have hPr := PS_below HP2.out hbel hBw
    obtain ⟨c0, f0⟩ := hPr 0 _ rfl
    obtain ⟨c1, f1⟩ := hPr 1 _ rfl
    obtain ⟨c12, f12⟩ := hPr 12 _ rfl
    obtain ⟨c13, f13⟩ := hPr 13 _ rfl
    have HPr : Hid (PS wr B (pcells id n f x true pp sp vg va vr round se (.slice (some ⟨I, 0, none⟩) 1 1) (.slice none 0 0))) := hPr
    have hBr : B < wr.heap.size := World.block_lt_of_cell? wr _ c0
    clear hPr
    have hlen := rl_le id k
    by_cases hlt : k < n
    · by_cases hid : (k : Int) + 1 = id
      · have hb' : ((k : Int) + 1 != id) = false := by simp [hid]
        have Hr : Hid (rl id (k + 1) = rl id k) := by show rl id (k + 1) = _; simp [rl, hid]
        clear hid
        go_wp2
        go_roundw
        case rel => exact ⟨k + 1, a, cap, by omega, by go_num, by rw [Hr.out], by rw [Hr.out]; exact hown, hbel⟩
        case measure => simp [intOf]; omega
      · have hb' := bne_yes hid
        have Hr : Hid (rl id (k + 1) = rl id k ++ [(k : Int) + 1]) := by show rl id (k + 1) = _; simp [rl, hid]
        clear hid
        have hsz := hbel.size
        go_wp2_with (at_builtin; refine wpList_append_own _ rfl _ _ 24 rfl w2.heap.size 31 i0 _ 2 32 Try.underlying24 hi hz0 hz1 hz2 rfl (by decide) _ _ _ rfl (hown.alloc _) ⟨wr.heap.size, 0, none⟩ 1 1 [.int .i64 ((k : Int) + 1), .slice (some ⟨I, 0, none⟩) 1 1] rfl rfl ?c1 ?c2 ?c3 ?c4 ?c5 ?_)
        case c1 => exact World.news_of_block (heap_alloc_new wr _)
        case c2 => intro u hu; simp at hu; rcases hu with rfl | rfl <;> rfl
        case c3 => unfold maxLen; omega
        case c4 => omega
        case c5 => simp; omega
        intro v' w4 hown2 hgrow2 _
        have R := own_more31 hsz hown hown2 hgrow2 hbel Hr.out
        clear hown hown2 hgrow2 hbel c0 f0 c1 f1 c12 f12 c13 f13 HPr
        obtain ⟨a', cap', hv'⟩ := ownsRow_form R.1
        rw [hv'] at R
        have HR : Hid (w4.ownsRow w2.heap.size 31 2 (.slice a' (rl id (k + 1)).length cap') (rl id (k + 1)).length (ml (.slice (some ⟨I, 0, none⟩) 1 1) (rl id (k + 1)))) := R.1
        have hR2 := R.2
        have Hv' : Hid (v' = .slice a' (rl id (k + 1)).length cap') := hv'
        clear R hv'
        go_wp2
        go_roundw
        case rel => exact ⟨k + 1, a', cap', by omega, by go_num, Hv'.out, HR.out, hR2⟩
        case measure => simp [intOf]; omega
    · obtain rfl : k = n := by omega
      have H : Hid (wr.ownsRow w2.heap.size 31 2 (.slice a (rl id k).length cap) (rl id k).length (ml (.slice (some ⟨I, 0, none⟩) 1 1) (rl id k))) := hown
      have HIr : Hid (PS wr I (icells pp)) := PS_below HI2.out hbel hI2
      clear hown
      go_wp2
      go_ret
      exact ⟨a, cap, I, vr, rfl, hBI, ownsRow_base (ownsRow_set_below H.out hBw) (by omega), PS_set_other HIr.out (by omega) _ _, PS_set HPr.out 13 _, (hb2.trans (hbel.mono (by omega))).setCell (by simp) _⟩

set_option maxHeartbeats 400000 in
theorem send_two_no (B n : Nat) (id f x pp sp rd se round : Int) (vg va : Value) (w : World)
    (hset : Calls Try.prog 19 #[.pointer (some ⟨B, 0, none⟩), .int .i64 (round - 1)] w fun e w1 => e = .returned (.tuple #[]) ∧ ∃ vr, PS w1 B (pcells id n f x false pp sp vg va vr rd se (.slice none 0 0) (.slice none 0 0)) ∧ Below B w w1)
    (h1 : 1 ≤ round) (h2 : round ≤ 9223372036854775807) (_hn : 1 ≤ n) (_hn2 : n ≤ 65536) (hs : stp round = 2) :
    Calls Try.prog 8 #[.pointer (some ⟨B, 0, none⟩), .int .i64 round] w fun e w' => e = .returned (.slice none 0 0) ∧ (∃ vr, PS w' B (pcells id n f x false pp sp vg va vr round se (.slice none 0 0) (.slice none 0 0))) ∧ Below B w w' := by
  have q29 : ∀ (w : World) (a : Option Addr) (n c n' c' : Nat), (binOp .eql 29 (.slice a n c) (.slice none n' c')).run Try.prog w = .ok (.bool a.isNone) w := fun w a n c n' c' => Lib.run_eql_slice_nil w _ _ a n c n' c' Try.underlying29
  have Hset : Hid (Calls Try.prog 19 #[.pointer (some ⟨B, 0, none⟩), .int .i64 (round - 1)] w fun e w1 => e = .returned (.tuple #[]) ∧ ∃ vr, PS w1 B (pcells id n f x false pp sp vg va vr rd se (.slice none 0 0) (.slice none 0 0)) ∧ Below B w w1) := hset
  clear hset
  have e2 : (stp round == 2) = true := by rw [hs]; rfl
  clear hs
  go_enter Try.func8, Try.ntmps8
  go_wp2_with fail
  refine Hset.out.mono ?_
  rintro e w1 ⟨rfl, vr, hP, hb⟩
  clear Hset
  obtain ⟨c0, f0⟩ := hP 0 _ rfl
  obtain ⟨c1, f1⟩ := hP 1 _ rfl
  obtain ⟨c3, f3⟩ := hP 3 _ rfl
  obtain ⟨c4, f4⟩ := hP 4 _ rfl
  obtain ⟨c5, f5⟩ := hP 5 _ rfl
  obtain ⟨c10, f10⟩ := hP 10 _ rfl
  obtain ⟨c12, f12⟩ := hP 12 _ rfl
  obtain ⟨c13, f13⟩ := hP 13 _ rfl
  have hBs : B < w1.heap.size := World.block_lt_of_cell? w1 _ c0
  have HP : Hid (PS w1 B (pcells id n f x false pp sp vg va vr rd se (.slice none 0 0) (.slice none 0 0))) := hP
  clear hP
  go_wp2_with fail
  refine (step_pos round _ h1 h2).mono ?_
  rintro e w' ⟨rfl, rfl⟩
  obtain ⟨wa, hwa, hP, hba⟩ : ∃ wa : World, wa = w1.setCell ⟨B, 10, none⟩ (.int .i64 round) ∧ PS wa B (pcells id n f x false pp sp vg va vr round se (.slice none 0 0) (.slice none 0 0)) ∧ Below B w wa := ⟨_, rfl, PS_set HP.out 10 _, hb.setCell (by simp) _⟩
  rw [← hwa]
  clear hwa HP hBs hb c0 f0 c1 f1 c3 f3 c4 f4 c5 f5 c10 f10 c12 f12 c13 f13
  obtain ⟨c0, f0⟩ := hP 0 _ rfl
  obtain ⟨c1, f1⟩ := hP 1 _ rfl
  obtain ⟨c4, f4⟩ := hP 4 _ rfl
  obtain ⟨c5, f5⟩ := hP 5 _ rfl
  obtain ⟨c12, f12⟩ := hP 12 _ rfl
  obtain ⟨c13, f13⟩ := hP 13 _ rfl
  have hBs : B < wa.heap.size := World.block_lt_of_cell? wa _ c0
  have HP : Hid (PS wa B (pcells id n f x false pp sp vg va vr round se (.slice none 0 0) (.slice none 0 0))) := hP
  clear hP
  go_wp2
  go_ret
  exact ⟨rfl, ⟨vr, HP.out⟩, hba⟩

set_option maxHeartbeats 400000 in
theorem send_three (B n : Nat) (id f x pp sp rd se round : Int) (pr : Bool) (vg va : Value) (w : World)
    (hset : Calls Try.prog 19 #[.pointer (some ⟨B, 0, none⟩), .int .i64 (round - 1)] w fun e w1 => e = .returned (.tuple #[]) ∧ ∃ vr, PS w1 B (pcells id n f x pr pp sp vg va vr rd se (.slice none 0 0) (.slice none 0 0)) ∧ Below B w w1)
    (h1 : 1 ≤ round) (h2 : round ≤ 9223372036854775807) (hn : 1 ≤ n) (hn2 : n ≤ 65536) (hs : stp round = 3) (hk : id = kg round n) :
    Calls Try.prog 8 #[.pointer (some ⟨B, 0, none⟩), .int .i64 round] w fun e w' => Sent w B n id f pr x pp sp se round vg va x e w' := by
  have q29 : ∀ (w : World) (a : Option Addr) (n c n' c' : Nat), (binOp .eql 29 (.slice a n c) (.slice none n' c')).run Try.prog w = .ok (.bool a.isNone) w := fun w a n c n' c' => Lib.run_eql_slice_nil w _ _ a n c n' c' Try.underlying29
  have Hset : Hid (Calls Try.prog 19 #[.pointer (some ⟨B, 0, none⟩), .int .i64 (round - 1)] w fun e w1 => e = .returned (.tuple #[]) ∧ ∃ vr, PS w1 B (pcells id n f x pr pp sp vg va vr rd se (.slice none 0 0) (.slice none 0 0)) ∧ Below B w w1) := hset
  clear hset
  have e2 : (stp round == 2) = false := by rw [hs]; rfl
  have e3 : (stp round == 3) = true := by rw [hs]; rfl
  clear hs
  have ek : (id != kg round n) = false := by simp [hk]
  clear hk
  go_enter Try.func8, Try.ntmps8
  go_wp2_with fail
  refine Hset.out.mono ?_
  rintro e w1 ⟨rfl, vr, hP, hb⟩
  clear Hset
  obtain ⟨c0, f0⟩ := hP 0 _ rfl
  obtain ⟨c1, f1⟩ := hP 1 _ rfl
  obtain ⟨c3, f3⟩ := hP 3 _ rfl
  obtain ⟨c4, f4⟩ := hP 4 _ rfl
  obtain ⟨c5, f5⟩ := hP 5 _ rfl
  obtain ⟨c10, f10⟩ := hP 10 _ rfl
  obtain ⟨c12, f12⟩ := hP 12 _ rfl
  obtain ⟨c13, f13⟩ := hP 13 _ rfl
  have hBs : B < w1.heap.size := World.block_lt_of_cell? w1 _ c0
  have HP : Hid (PS w1 B (pcells id n f x pr pp sp vg va vr rd se (.slice none 0 0) (.slice none 0 0))) := hP
  clear hP
  go_wp2_with fail
  refine (step_pos round _ h1 h2).mono ?_
  rintro e w' ⟨rfl, rfl⟩
  obtain ⟨wa, hwa, hP, hba⟩ : ∃ wa : World, wa = w1.setCell ⟨B, 10, none⟩ (.int .i64 round) ∧ PS wa B (pcells id n f x pr pp sp vg va vr round se (.slice none 0 0) (.slice none 0 0)) ∧ Below B w wa := ⟨_, rfl, PS_set HP.out 10 _, hb.setCell (by simp) _⟩
  rw [← hwa]
  clear hwa HP hBs hb c0 f0 c1 f1 c3 f3 c4 f4 c5 f5 c10 f10 c12 f12 c13 f13
  obtain ⟨c0, f0⟩ := hP 0 _ rfl
  obtain ⟨c1, f1⟩ := hP 1 _ rfl
  obtain ⟨c4, f4⟩ := hP 4 _ rfl
  obtain ⟨c5, f5⟩ := hP 5 _ rfl
  obtain ⟨c12, f12⟩ := hP 12 _ rfl
  obtain ⟨c13, f13⟩ := hP 13 _ rfl
  have hBs : B < wa.heap.size := World.block_lt_of_cell? wa _ c0
  have HP : Hid (PS wa B (pcells id n f x pr pp sp vg va vr round se (.slice none 0 0) (.slice none 0 0))) := hP
  clear hP
  go_wp2_with fail
  go_quiet ((go_at_call 21; exact Calls.quiet_of_same (kingOf_any round n _ h1 h2 (by omega) (by omega))))
  obtain ⟨wb, hwb, hP, hbb⟩ : ∃ wb : World, wb = wa.drewN nq ∧ PS wb B (pcells id n f x pr pp sp vg va vr round se (.slice none 0 0) (.slice none 0 0)) ∧ Below B w wb := ⟨_, rfl, HP.out, bel_drewN hba _⟩
  rw [← hwb]
  clear hwb HP hba hBs c0 f0 c1 f1 c4 f4 c5 f5 c12 f12 c13 f13
  obtain ⟨c0, f0⟩ := hP 0 _ rfl
  obtain ⟨c1, f1⟩ := hP 1 _ rfl
  obtain ⟨c4, f4⟩ := hP 4 _ rfl
  obtain ⟨c5, f5⟩ := hP 5 _ rfl
  obtain ⟨c12, f12⟩ := hP 12 _ rfl
  obtain ⟨c13, f13⟩ := hP 13 _ rfl
  have hBs : B < wb.heap.size := World.block_lt_of_cell? wb _ c0
  have HP : Hid (PS wb B (pcells id n f x pr pp sp vg va vr round se (.slice none 0 0) (.slice none 0 0))) := hP
  have hba := hbb
  clear hP
  go_wp2
  obtain ⟨w2, hw2, hP2, hI, hb2, hI2⟩ : ∃ w2 : World, w2 = (wb.setCell ⟨B, 12, none⟩ (.slice (some ⟨wb.heap.size, 0, none⟩) 1 1)).alloc (.cells #[.int .i64 x, .int .i64 0, .pointer none] 34) ∧
      PS w2 B (pcells id n f x pr pp sp vg va vr round se (.slice (some ⟨wb.heap.size, 0, none⟩) 1 1) (.slice none 0 0)) ∧ PS w2 wb.heap.size (icells x) ∧ Below B w w2 ∧ wb.heap.size < w2.heap.size :=
    ⟨_, rfl, PS_alloc (PS_set HP.out 12 _) (by simpa [World.setCell] using hBs) _, PS_new _ (icells x) 34 _ (by simp [World.setCell]),
      (hba.setCell (by simp) _).alloc (by simp [World.setCell]; omega) _, by simp [World.setCell]⟩
  rw [← hw2]
  clear hw2 c0 f0 c1 f1 c4 f4 c5 f5 c12 f12 c13 f13
  obtain ⟨I, HI⟩ : ∃ I, Hid (I = wb.heap.size) := ⟨_, rfl⟩
  rw [← HI.out] at hP2 hI hI2 ⊢
  have hBI : B < I := by rw [HI.out]; exact hBs
  clear HI HP hBs hba
  obtain ⟨c1, f1⟩ := hP2 1 _ rfl
  obtain ⟨c13, f13⟩ := hP2 13 _ rfl
  have HP2 : Hid (PS w2 B (pcells id n f x pr pp sp vg va vr round se (.slice (some ⟨I, 0, none⟩) 1 1) (.slice none 0 0))) := hP2
  have HI2 : Hid (PS w2 I (icells x)) := hI
  clear hP2 hI
  obtain ⟨m, hm⟩ : ∃ m : Nat, n = m + 1 := ⟨n - 1, by omega⟩
  have hwr : IntKind.i64.wrap ((n : Int) - 1) = (m : Int) := by rw [IntKind.wrap_i64]; omega
  have hm2 : m ≤ 65536 := by omega
  clear hm
  go_region_held3 (fun w' => w'.cell? ⟨B, 13, none⟩ = some (.slice none 0 0) ∧ w'.cell? ⟨B, 1, none⟩ = some (.int .i64 (n : Int))) (first | go_keep | (exact ⟨k13, k1⟩))
    ((go_at_call 22; refine (grow_any m _ hm2).mono ?_; rintro e w3 ⟨a0, cap0, rfl, hown, hbel⟩; have k13 : w3.cell? ⟨B, 13, none⟩ = some (.slice none 0 0) := (hbel.cell (by simp; omega)).trans c13; have k1 : w3.cell? ⟨B, 1, none⟩ = some (.int .i64 (n : Int)) := (hbel.cell (by simp; omega)).trans c1))
  have hb3 : Below w2.heap.size w2 w3 := ⟨hbel.os, hbel.tape, hbel.output, hbel.size, hbel.block⟩
  have hown3 : w3.ownsRow w2.heap.size 31 2 (.slice a0 0 cap0) 0 [] := hown
  clear hown hbel k13 k1 c1 f1 c13 f13 hwr
  obtain ⟨i0, hi, hz0, hz1, hz2⟩ := info_parts info31
  have hBw : B < w2.heap.size := by omega
  go_wp2
  go_loopw [6, 7] (fun v q wr => ∃ (k : Nat) (a : Option Addr) (cap : Nat), k ≤ n ∧ q = .int .i64 ((k : Int) + 1) ∧ v = .slice a (rl id k).length cap ∧ wr.ownsRow w2.heap.size 31 2 (.slice a (rl id k).length cap) (rl id k).length (ml (.slice (some ⟨I, 0, none⟩) 1 1) (rl id k)) ∧ Below w2.heap.size w2 wr) (fun _ q _ => n + 1 - (intOf q).toNat)
  case atStart => exact ⟨0, a0, cap0, by omega, by go_num, rfl, hown3, hb3⟩
  case round =>
    obtain ⟨k, a, cap, hk, rfl, rfl, hown, hbel⟩ := hrel
    clear hown3 hb3
    have hPr := PS_below HP2.out hbel hBw
    obtain ⟨c0, f0⟩ := hPr 0 _ rfl
    obtain ⟨c1, f1⟩ := hPr 1 _ rfl
    obtain ⟨c12, f12⟩ := hPr 12 _ rfl
    obtain ⟨c13, f13⟩ := hPr 13 _ rfl
    have HPr : Hid (PS wr B (pcells id n f x pr pp sp vg va vr round se (.slice (some ⟨I, 0, none⟩) 1 1) (.slice none 0 0))) := hPr
    have hBr : B < wr.heap.size := World.block_lt_of_cell? wr _ c0
    clear hPr
    have hlen := rl_le id k
    by_cases hlt : k < n
    · by_cases hid : (k : Int) + 1 = id
      · have hb' : ((k : Int) + 1 != id) = false := by simp [hid]
        have Hr : Hid (rl id (k + 1) = rl id k) := by show rl id (k + 1) = _; simp [rl, hid]
        clear hid
        go_wp2
        go_roundw
        case rel => exact ⟨k + 1, a, cap, by omega, by go_num, by rw [Hr.out], by rw [Hr.out]; exact hown, hbel⟩
        case measure => simp [intOf]; omega
      · have hb' := bne_yes hid
        have Hr : Hid (rl id (k + 1) = rl id k ++ [(k : Int) + 1]) := by show rl id (k + 1) = _; simp [rl, hid]
        clear hid
        have hsz := hbel.size
        go_wp2_with (at_builtin; refine wpList_append_own _ rfl _ _ 24 rfl w2.heap.size 31 i0 _ 2 32 Try.underlying24 hi hz0 hz1 hz2 rfl (by decide) _ _ _ rfl (hown.alloc _) ⟨wr.heap.size, 0, none⟩ 1 1 [.int .i64 ((k : Int) + 1), .slice (some ⟨I, 0, none⟩) 1 1] rfl rfl ?c1 ?c2 ?c3 ?c4 ?c5 ?_)
        case c1 => exact World.news_of_block (heap_alloc_new wr _)
        case c2 => intro u hu; simp at hu; rcases hu with rfl | rfl <;> rfl
        case c3 => unfold maxLen; omega
        case c4 => omega
        case c5 => simp; omega
        intro v' w4 hown2 hgrow2 _
        have R := own_more31 hsz hown hown2 hgrow2 hbel Hr.out
        clear hown hown2 hgrow2 hbel c0 f0 c1 f1 c12 f12 c13 f13 HPr
        obtain ⟨a', cap', hv'⟩ := ownsRow_form R.1
        rw [hv'] at R
        have HR : Hid (w4.ownsRow w2.heap.size 31 2 (.slice a' (rl id (k + 1)).length cap') (rl id (k + 1)).length (ml (.slice (some ⟨I, 0, none⟩) 1 1) (rl id (k + 1)))) := R.1
        have hR2 := R.2
        have Hv' : Hid (v' = .slice a' (rl id (k + 1)).length cap') := hv'
        clear R hv'
        go_wp2
        go_roundw
        case rel => exact ⟨k + 1, a', cap', by omega, by go_num, Hv'.out, HR.out, hR2⟩
        case measure => simp [intOf]; omega
    · obtain rfl : k = n := by omega
      have H : Hid (wr.ownsRow w2.heap.size 31 2 (.slice a (rl id k).length cap) (rl id k).length (ml (.slice (some ⟨I, 0, none⟩) 1 1) (rl id k))) := hown
      have HIr : Hid (PS wr I (icells x)) := PS_below HI2.out hbel hI2
      clear hown
      go_wp2
      go_ret
      exact ⟨a, cap, I, vr, rfl, hBI, ownsRow_base (ownsRow_set_below H.out hBw) (by omega), PS_set_other HIr.out (by omega) _ _, PS_set HPr.out 13 _, (hb2.trans (hbel.mono (by omega))).setCell (by simp) _⟩

set_option maxHeartbeats 400000 in
theorem send_three_no (B n : Nat) (id f x pp sp rd se round : Int) (pr : Bool) (vg va : Value) (w : World)
    (hset : Calls Try.prog 19 #[.pointer (some ⟨B, 0, none⟩), .int .i64 (round - 1)] w fun e w1 => e = .returned (.tuple #[]) ∧ ∃ vr, PS w1 B (pcells id n f x pr pp sp vg va vr rd se (.slice none 0 0) (.slice none 0 0)) ∧ Below B w w1)
    (h1 : 1 ≤ round) (h2 : round ≤ 9223372036854775807) (hn : 1 ≤ n) (hn2 : n ≤ 65536) (hs : stp round = 3) (hk : ¬ id = kg round n) :
    Calls Try.prog 8 #[.pointer (some ⟨B, 0, none⟩), .int .i64 round] w fun e w' => e = .returned (.slice none 0 0) ∧ (∃ vr, PS w' B (pcells id n f x pr pp sp vg va vr round se (.slice none 0 0) (.slice none 0 0))) ∧ Below B w w' := by
  have q29 : ∀ (w : World) (a : Option Addr) (n c n' c' : Nat), (binOp .eql 29 (.slice a n c) (.slice none n' c')).run Try.prog w = .ok (.bool a.isNone) w := fun w a n c n' c' => Lib.run_eql_slice_nil w _ _ a n c n' c' Try.underlying29
  have Hset : Hid (Calls Try.prog 19 #[.pointer (some ⟨B, 0, none⟩), .int .i64 (round - 1)] w fun e w1 => e = .returned (.tuple #[]) ∧ ∃ vr, PS w1 B (pcells id n f x pr pp sp vg va vr rd se (.slice none 0 0) (.slice none 0 0)) ∧ Below B w w1) := hset
  clear hset
  have e2 : (stp round == 2) = false := by rw [hs]; rfl
  have e3 : (stp round == 3) = true := by rw [hs]; rfl
  clear hs
  have ek : (id != kg round n) = true := bne_yes hk
  clear hk
  go_enter Try.func8, Try.ntmps8
  go_wp2_with fail
  refine Hset.out.mono ?_
  rintro e w1 ⟨rfl, vr, hP, hb⟩
  clear Hset
  obtain ⟨c0, f0⟩ := hP 0 _ rfl
  obtain ⟨c1, f1⟩ := hP 1 _ rfl
  obtain ⟨c3, f3⟩ := hP 3 _ rfl
  obtain ⟨c4, f4⟩ := hP 4 _ rfl
  obtain ⟨c5, f5⟩ := hP 5 _ rfl
  obtain ⟨c10, f10⟩ := hP 10 _ rfl
  obtain ⟨c12, f12⟩ := hP 12 _ rfl
  obtain ⟨c13, f13⟩ := hP 13 _ rfl
  have hBs : B < w1.heap.size := World.block_lt_of_cell? w1 _ c0
  have HP : Hid (PS w1 B (pcells id n f x pr pp sp vg va vr rd se (.slice none 0 0) (.slice none 0 0))) := hP
  clear hP
  go_wp2_with fail
  refine (step_pos round _ h1 h2).mono ?_
  rintro e w' ⟨rfl, rfl⟩
  obtain ⟨wa, hwa, hP, hba⟩ : ∃ wa : World, wa = w1.setCell ⟨B, 10, none⟩ (.int .i64 round) ∧ PS wa B (pcells id n f x pr pp sp vg va vr round se (.slice none 0 0) (.slice none 0 0)) ∧ Below B w wa := ⟨_, rfl, PS_set HP.out 10 _, hb.setCell (by simp) _⟩
  rw [← hwa]
  clear hwa HP hBs hb c0 f0 c1 f1 c3 f3 c4 f4 c5 f5 c10 f10 c12 f12 c13 f13
  obtain ⟨c0, f0⟩ := hP 0 _ rfl
  obtain ⟨c1, f1⟩ := hP 1 _ rfl
  obtain ⟨c4, f4⟩ := hP 4 _ rfl
  obtain ⟨c5, f5⟩ := hP 5 _ rfl
  obtain ⟨c12, f12⟩ := hP 12 _ rfl
  obtain ⟨c13, f13⟩ := hP 13 _ rfl
  have hBs : B < wa.heap.size := World.block_lt_of_cell? wa _ c0
  have HP : Hid (PS wa B (pcells id n f x pr pp sp vg va vr round se (.slice none 0 0) (.slice none 0 0))) := hP
  clear hP
  go_wp2_with fail
  go_quiet ((go_at_call 21; exact Calls.quiet_of_same (kingOf_any round n _ h1 h2 (by omega) (by omega))))
  obtain ⟨wb, hwb, hP, hbb⟩ : ∃ wb : World, wb = wa.drewN nq ∧ PS wb B (pcells id n f x pr pp sp vg va vr round se (.slice none 0 0) (.slice none 0 0)) ∧ Below B w wb := ⟨_, rfl, HP.out, bel_drewN hba _⟩
  rw [← hwb]
  clear hwb HP hba hBs c0 f0 c1 f1 c4 f4 c5 f5 c12 f12 c13 f13
  obtain ⟨c0, f0⟩ := hP 0 _ rfl
  obtain ⟨c1, f1⟩ := hP 1 _ rfl
  obtain ⟨c4, f4⟩ := hP 4 _ rfl
  obtain ⟨c5, f5⟩ := hP 5 _ rfl
  obtain ⟨c12, f12⟩ := hP 12 _ rfl
  obtain ⟨c13, f13⟩ := hP 13 _ rfl
  have hBs : B < wb.heap.size := World.block_lt_of_cell? wb _ c0
  have HP : Hid (PS wb B (pcells id n f x pr pp sp vg va vr round se (.slice none 0 0) (.slice none 0 0))) := hP
  have hba := hbb
  clear hP
  go_wp2
  go_ret
  exact ⟨rfl, ⟨vr, HP.out⟩, hbb⟩

end Go.Proofs.Qxb6619470a
