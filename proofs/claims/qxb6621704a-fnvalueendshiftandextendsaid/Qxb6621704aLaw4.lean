import Derived.Test.Qxb6621704aJoin
import Derived.Test.Qxb6621704aValModel
namespace Go.Proofs.Qxb6621704a
open Go.RowKit
open Go.Proofs.Qxb6621704a.Plain

/-- Too long, or out of range: the law says nothing. -/
theorem law4_long (ap ab ac : Option Addr) (lp lb lc cp cb cc : Nat) (i : Int) (w : World) (h : 262144 < lp ∨ 262144 < lb ∨ 262144 < lc) (hp : lp ≤ maxLen) (hb : lb ≤ maxLen) (hc : lc ≤ maxLen) :
    Calls Try.prog 6 #[.slice ap lp cp, .slice ab lb cb, .slice ac lc cc, .int .i64 i] w fun e w' => e = .returned (.bool true) ∧ w' = w := by
  unfold maxLen at hp hb hc
  by_cases h1 : 262144 < lp
  · clear h
    go_enter Try.func6, Try.ntmps6
    go_wp2
    all_goals (go_ret; exact ⟨rfl, rfl⟩)
  · by_cases h2 : 262144 < lb
    · clear h
      go_enter Try.func6, Try.ntmps6
      go_wp2
      all_goals (go_ret; exact ⟨rfl, rfl⟩)
    · have h3 : 262144 < lc := by omega
      clear h
      go_enter Try.func6, Try.ntmps6
      go_wp2
      all_goals (go_ret; exact ⟨rfl, rfl⟩)

theorem law4_low (ap ab ac : Option Addr) (lp lb lc cp cb cc : Nat) (i : Int) (w : World) (hp : lp ≤ 262144) (hb : lb ≤ 262144) (hc : lc ≤ 262144) (hi : i < 0) :
    Calls Try.prog 6 #[.slice ap lp cp, .slice ab lb cb, .slice ac lc cc, .int .i64 i] w fun e w' => e = .returned (.bool true) ∧ w' = w := by
  go_enter Try.func6, Try.ntmps6
  go_wp2
  go_ret
  exact ⟨rfl, rfl⟩
theorem law4_high (ap ab ac : Option Addr) (lp lb lc cp cb cc : Nat) (i : Int) (w : World) (hp : lp ≤ 262144) (hb : lb ≤ 262144) (hc : lc ≤ 262144) (hi : (lb : Int) < i) :
    Calls Try.prog 6 #[.slice ap lp cp, .slice ab lb cb, .slice ac lc cc, .int .i64 i] w fun e w' => e = .returned (.bool true) ∧ w' = w := by
  go_enter Try.func6, Try.ntmps6
  go_wp2
  go_ret
  exact ⟨rfl, rfl⟩

set_option maxHeartbeats 800000 in
theorem law4_some (ap ac : Option Addr) (x : Addr) (lp n lc cp cap cc i : Nat) (gp g gc : Nat → Int) (w : World) (hp : lp ≤ 262144) (hb : n ≤ 262144) (hc : lc ≤ 262144) (hi : i ≤ n)
    (hP : Sl w (.slice ap lp cp) lp gp) (hB : Sl w (.slice (some x) n cap) n g) (hC : Sl w (.slice ac lc cc) lc gc) :
    Calls Try.prog 6 #[.slice ap lp cp, .slice (some x) n cap, .slice ac lc cc, .int .i64 (i : Int)] w fun e w' => e = .returned (.bool true) ∧ Below w.heap.size w w' := by
  have q22 : ∀ (w : World) (a : Option Addr) (n c n' c' : Nat), (binOp .neq 22 (.slice a n c) (.slice none n' c')).run Try.prog w = .ok (.bool (!a.isNone)) w := fun w a n c n' c' => run_neq_slice_nil_any w 22 5 a n c n' c' Try.underlying22
  have hmk := fun (w : World) => run_mk w n (by omega)
  have hcp := fun ty => run_cp w ty x n cap g hB
  clear hB
  have HB : Hid (Sl (w.alloc (.cells (Cs g n) 5)) (.slice (some ⟨w.heap.size, 0, none⟩) n n) n g) := Sl_alloc w g n
  have HP : Hid (Sl (w.alloc (.cells (Cs g n) 5)) (.slice ap lp cp) lp gp) := Sl_grow _ hP
  have HC : Hid (Sl (w.alloc (.cells (Cs g n) 5)) (.slice ac lc cc) lc gc) := Sl_grow _ hC
  clear hP hC
  go_enter Try.func6, Try.ntmps6
  go_wp2_with (first | (go_at_call 16; go_in) | fail)
  clear hmk hcp
  refine (zzValueEnd_any _ n i g _ (by omega) hi HB.out).mono ?_
  rintro e w' ⟨r, rfl, hr, rfl⟩
  have Hr : Hid (VE g n i r) := hr
  have hr1 := VE_le hr
  clear hr
  go_wp2_with fail
  refine (vmodel_any _ n i g _ (by omega) hi HB.out).mono ?_
  rintro e w' ⟨r', rfl, hr', rfl⟩
  obtain rfl : r = r' := VE_unique Hr.out hr'
  clear hr'
  go_wp2_with fail
  refine (join2_any _ _ lp n gp g _ (by omega) HP.out HB.out).mono ?_
  rintro e w' ⟨rfl, rfl⟩
  go_wp2_with fail
  rw [show ((lp : Int) + (i : Int)) = ((lp + i : Nat) : Int) by omega]
  refine (zzValueEnd_any _ (lp + n) (lp + i) (jn gp g (fun _ => 0) lp n) _ (by omega) (by omega) (Sl_alloc_at _ _ _ _ (by simp))).mono ?_
  rintro e w' ⟨r2, rfl, hr2, rfl⟩
  obtain rfl : lp + r = r2 := VE_unique (VE_shift (fun k hk => jn_b gp g _ lp n k hk) Hr.out) hr2
  clear hr2
  have hne : (((lp + r : Nat) : Int) != (lp : Int) + (r : Int)) = false := by simp
  by_cases hrn : r < n
  · go_wp2_with fail
    refine (join_any _ _ _ lp n lc gp g gc _ (by omega) (Sl_grow _ HP.out) (Sl_grow _ HB.out) (Sl_grow _ HC.out)).mono ?_
    rintro e w' ⟨rfl, rfl⟩
    go_wp2_with fail
    rw [show ((lp : Int) + (i : Int)) = ((lp + i : Nat) : Int) by omega]
    refine (zzValueEnd_any _ (lp + n + lc) (lp + i) (jn gp g gc lp n) _ (by omega) (by omega) (Sl_alloc_at _ _ _ _ (by simp))).mono ?_
    rintro e w' ⟨r3, rfl, hr3, rfl⟩
    obtain rfl : lp + r = r3 := VE_unique (VE_extend (fun k hk => jn_b gp g gc lp n k hk) hrn (by omega) Hr.out) hr3
    clear hr3
    go_wp2
    go_ret
    exact ⟨rfl, (((Below.refl _ _).alloc (Nat.le_refl _) _).alloc (by simp) _).alloc (by simp; omega) _⟩
  · go_wp2
    go_ret
    exact ⟨rfl, ((Below.refl _ _).alloc (Nat.le_refl _) _).alloc (by simp) _⟩

set_option maxHeartbeats 800000 in
theorem law4_nil (ap ac : Option Addr) (lp lc cp cc : Nat) (gp gc : Nat → Int) (w : World) (hp : lp ≤ 262144) (hc : lc ≤ 262144)
    (hP : Sl w (.slice ap lp cp) lp gp) (hC : Sl w (.slice ac lc cc) lc gc) :
    Calls Try.prog 6 #[.slice ap lp cp, .slice none 0 0, .slice ac lc cc, .int .i64 0] w fun e w' => e = .returned (.bool true) ∧ Below w.heap.size w w' := by
  have q22 : ∀ (w : World) (a : Option Addr) (n c n' c' : Nat), (binOp .neq 22 (.slice a n c) (.slice none n' c')).run Try.prog w = .ok (.bool (!a.isNone)) w := fun w a n c n' c' => run_neq_slice_nil_any w 22 5 a n c n' c' Try.underlying22
  have HB : Hid (Sl w (.slice none 0 0) 0 (fun _ => 0)) := ⟨none, 0, rfl, .inl rfl⟩
  have HP : Hid (Sl w (.slice ap lp cp) lp gp) := hP
  have HC : Hid (Sl w (.slice ac lc cc) lc gc) := hC
  clear hP hC
  go_enter Try.func6, Try.ntmps6
  go_wp2_with (first | (go_at_call 16; go_in) | fail)
  refine (zzValueEnd_any _ 0 0 (fun _ => 0) _ (by omega) (by omega) HB.out).mono ?_
  rintro e w' ⟨r, rfl, hr, rfl⟩
  obtain rfl : r = 0 := by have h1 := VE_le hr; omega
  have Hr : Hid (VE (fun _ => 0) 0 0 0) := hr
  clear hr
  go_wp2_with fail
  refine (vmodel_any _ 0 0 (fun _ => 0) _ (by omega) (by omega) HB.out).mono ?_
  rintro e w' ⟨r', rfl, hr', rfl⟩
  obtain rfl : r' = 0 := (VE_unique Hr.out hr').symm
  clear hr'
  go_wp2_with fail
  refine (join2_any _ _ lp 0 gp (fun _ => 0) _ (by omega) HP.out HB.out).mono ?_
  rintro e w' ⟨rfl, rfl⟩
  go_wp2_with fail
  refine (zzValueEnd_any _ lp lp (jn gp (fun _ => 0) (fun _ => 0) lp 0) _ (by omega) (by omega) (Sl_alloc_at _ _ _ _ (by simp))).mono ?_
  rintro e w' ⟨r2, rfl, hr2, rfl⟩
  obtain rfl : lp = r2 := VE_unique (VE_shift (P := lp) (fun k hk => jn_b gp (fun _ => 0) (fun _ => 0) lp 0 k hk) Hr.out) hr2
  clear hr2
  go_wp2
  go_ret
  exact ⟨rfl, (Below.refl _ _).alloc (Nat.le_refl _) _⟩

end Go.Proofs.Qxb6621704a
