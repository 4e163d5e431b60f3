import Derived.Test.Qxb6621704aCopy
import Derived.Test.Qxb6621704aValModel
namespace Go.Proofs.Qxb6621704a
open Go.RowKit
open Go.Proofs.Qxb6621704a.Plain

/-- Too long, or out of range: the law says nothing. -/
theorem law3_long (a : Option Addr) (len cap : Nat) (i : Int) (w : World) (h : 1048576 < len) (hm : len ≤ maxLen) :
    Calls Try.prog 5 #[.slice a len cap, .int .i64 i] w fun e w' => e = .returned (.bool true) ∧ w' = w := by
  unfold maxLen at hm
  go_enter Try.func5, Try.ntmps5
  go_wp2
  go_ret
  exact ⟨rfl, rfl⟩
theorem law3_low (a : Option Addr) (len cap : Nat) (i : Int) (w : World) (h : len ≤ 1048576) (hi : i < 0) :
    Calls Try.prog 5 #[.slice a len cap, .int .i64 i] w fun e w' => e = .returned (.bool true) ∧ w' = w := by
  go_enter Try.func5, Try.ntmps5
  go_wp2
  go_ret
  exact ⟨rfl, rfl⟩
theorem law3_high (a : Option Addr) (len cap : Nat) (i : Int) (w : World) (h : len ≤ 1048576) (hi : (len : Int) < i) :
    Calls Try.prog 5 #[.slice a len cap, .int .i64 i] w fun e w' => e = .returned (.bool true) ∧ w' = w := by
  go_enter Try.func5, Try.ntmps5
  go_wp2
  go_ret
  exact ⟨rfl, rfl⟩

theorem law3_nil (w : World) :
    Calls Try.prog 5 #[.slice none 0 0, .int .i64 0] w fun e w' => e = .returned (.bool true) ∧ w' = w := by
  have q22 : ∀ (w : World) (a : Option Addr) (n c n' c' : Nat), (binOp .neq 22 (.slice a n c) (.slice none n' c')).run Try.prog w = .ok (.bool (!a.isNone)) w := fun w a n c n' c' => run_neq_slice_nil_any w 22 5 a n c n' c' Try.underlying22
  have hs : ∀ w, Sl w (.slice none 0 0) 0 (fun _ => 0) := fun w => ⟨none, 0, rfl, .inl rfl⟩
  go_enter Try.func5, Try.ntmps5
  go_wp2_with (first | (go_at_call 13; go_in) | fail)
  refine (zzValueEnd_any _ 0 0 (fun _ => 0) _ (by omega) (by omega) (hs _)).mono ?_
  rintro e w' ⟨r, rfl, hr, rfl⟩
  have Hr : Hid (VE (fun _ => 0) 0 0 r) := hr
  clear hr
  go_wp2_with fail
  refine (vmodel_any _ 0 0 (fun _ => 0) _ (by omega) (by omega) (hs _)).mono ?_
  rintro e w' ⟨r', rfl, hr', rfl⟩
  obtain rfl : r = r' := VE_unique Hr.out hr'
  go_wp2
  go_ret
  exact ⟨by simp, rfl⟩

theorem law3_some (x : Addr) (n cap i : Nat) (g : Nat → Int) (w : World) (h : n ≤ 1048576) (hi : i ≤ n) (hs : Sl w (.slice (some x) n cap) n g) :
    Calls Try.prog 5 #[.slice (some x) n cap, .int .i64 (i : Int)] w fun e w' => e = .returned (.bool true) ∧ Below w.heap.size w w' := by
  have q22 : ∀ (w : World) (a : Option Addr) (n c n' c' : Nat), (binOp .neq 22 (.slice a n c) (.slice none n' c')).run Try.prog w = .ok (.bool (!a.isNone)) w := fun w a n c n' c' => run_neq_slice_nil_any w 22 5 a n c n' c' Try.underlying22
  have hmk := fun (w : World) => run_mk w n (by omega)
  have hcp := fun ty => run_cp w ty x n cap g hs
  clear hs
  have hs := Sl_alloc w g n
  have Hs : Hid (Sl (w.alloc (.cells (Cs g n) 5)) (.slice (some ⟨w.heap.size, 0, none⟩) n n) n g) := hs
  clear hs
  go_enter Try.func5, Try.ntmps5
  go_wp2_with (first | (go_at_call 13; go_in) | fail)
  refine (zzValueEnd_any _ n i g _ (by omega) hi Hs.out).mono ?_
  rintro e w' ⟨r, rfl, hr, rfl⟩
  have Hr : Hid (VE g n i r) := hr
  clear hr
  go_wp2_with fail
  refine (vmodel_any _ n i g _ (by omega) hi Hs.out).mono ?_
  rintro e w' ⟨r', rfl, hr', rfl⟩
  obtain rfl : r = r' := VE_unique Hr.out hr'
  go_wp2
  go_ret
  exact ⟨by simp, (Below.refl _ _).alloc (Nat.le_refl _) _⟩

end Go.Proofs.Qxb6621704a
