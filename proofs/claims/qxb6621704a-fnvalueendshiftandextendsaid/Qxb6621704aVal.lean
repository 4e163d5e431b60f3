import Derived.Test.Qxb6621704aStr
namespace Go.Proofs.Qxb6621704a
open Go.RowKit
open Go.Proofs.Qxb6621704a.Plain

theorem beq_no {a b : Int} (h : ¬ a = b) : (a == b) = false := by simpa using h

theorem valueEnd_str (b off n cap i : Nat) (g : Nat → Int) (w : World) (hn : n ≤ 4194304) (hi : i < n) (h34 : g i = 34)
    (hc : ∀ k, k < n → w.cell? ⟨b, off + k, none⟩ = some (.int .u8 (g k))) :
    Calls Try.prog 21 #[.slice (some ⟨b, off, none⟩) n cap, .int .i64 (i : Int)] w fun e w' => ∃ r : Nat, e = .returned (.int .i64 (r : Int)) ∧ VE g n i r ∧ w' = w := by
  have hcx := hc i hi
  rw [h34] at hcx
  have H34 : Hid (g i = 34) := h34
  have Hc : Hid (∀ k, k < n → w.cell? ⟨b, off + k, none⟩ = some (.int .u8 (g k))) := hc
  clear h34 hc
  have hne : ((i : Int) == (n : Int)) = false := beq_no (by omega)
  go_enter Try.func21, Try.ntmps21
  go_wp2_with fail
  refine (stringEnd_core b off n cap i g _ hn (by omega) Hc.out).mono ?_
  rintro e w' ⟨r, rfl, hr, rfl⟩
  have Hr : Hid (VE g n i (min r n)) := VE_string hi H34.out hr
  clear hr
  by_cases hrn : n < r
  · go_wp2
    go_ret
    exact ⟨n, rfl, by have := Hr.out; rwa [Nat.min_eq_right (by omega)] at this, rfl⟩
  · go_wp2
    go_ret
    exact ⟨r, rfl, by have := Hr.out; rwa [Nat.min_eq_left (by omega)] at this, rfl⟩

theorem valueEnd_end (a : Option Addr) (n cap : Nat) (g : Nat → Int) (w : World) :
    Calls Try.prog 21 #[.slice a n cap, .int .i64 (n : Int)] w fun e w' => ∃ r : Nat, e = .returned (.int .i64 (r : Int)) ∧ VE g n n r ∧ w' = w := by
  go_enter Try.func21, Try.ntmps21
  go_wp2
  go_ret
  exact ⟨n, rfl, .inl ⟨rfl, rfl⟩, rfl⟩

set_option maxHeartbeats 800000 in
theorem valueEnd_scalar (b off n cap i : Nat) (g : Nat → Int) (w : World) (hn : n ≤ 4194304) (hi : i < n) (h1 : ¬ g i = 34) (h2 : ¬ g i = 123) (h3 : ¬ g i = 91)
    (hc : ∀ k, k < n → w.cell? ⟨b, off + k, none⟩ = some (.int .u8 (g k))) :
    Calls Try.prog 21 #[.slice (some ⟨b, off, none⟩) n cap, .int .i64 (i : Int)] w fun e w' => ∃ r : Nat, e = .returned (.int .i64 (r : Int)) ∧ VE g n i r ∧ w' = w := by
  have hcx := hc i hi
  have hne : ((i : Int) == (n : Int)) = false := beq_no (by omega)
  have e1 := beq_no h1
  have e2 := beq_no h2
  have e3 := beq_no h3
  have hop : Hid (¬ opens (g i)) := by rintro (h | h | h) <;> contradiction
  clear h1 h2 h3
  go_enter Try.func21, Try.ntmps21
  go_wp2
  go_loop [1] (fun t => ∃ d : Nat, i + d ≤ n ∧ t = .int .i64 ((i + d : Nat) : Int) ∧ ∀ c, c < d → ¬ stops (g (i + c))) (fun t => n - (intOf t).toNat)
  case atStart => exact ⟨0, by omega, by go_num, fun c hc => by omega⟩
  case round =>
    obtain ⟨d, hd, rfl, hq⟩ := hrel
    have Hq : Hid (∀ c, c < d → ¬ stops (g (i + c))) := hq
    clear hq hcx
    by_cases hlt : i + d < n
    · have hcx := hc (i + d) hlt
      by_cases hst : stops (g (i + d))
      · have Hs : Hid (stops (g (i + d))) := hst
        have Hend : Hid (VE g n i (i + d)) := .inr (.inr ⟨hi, hop.out, .inl ⟨d, hlt, hst, Hq.out, rfl⟩⟩)
        clear hc
        rcases hst with h | h | h | h | h | h | h | h <;>
        · rw [h] at hcx
          clear h
          go_wp2
          go_ret
          exact ⟨i + d, by go_num, Hend.out, rfl⟩
      · have k1 := beq_no (fun h => hst (.inl h))
        have k2 := beq_no (fun h => hst (.inr (.inl h)))
        have k3 := beq_no (fun h => hst (.inr (.inr (.inl h))))
        have k4 := beq_no (fun h => hst (.inr (.inr (.inr (.inl h)))))
        have k5 := beq_no (fun h => hst (.inr (.inr (.inr (.inr (.inl h))))))
        have k6 := beq_no (fun h => hst (.inr (.inr (.inr (.inr (.inr (.inl h)))))))
        have k7 := beq_no (fun h => hst (.inr (.inr (.inr (.inr (.inr (.inr (.inl h))))))))
        have k8 := beq_no (fun h => hst (.inr (.inr (.inr (.inr (.inr (.inr (.inr h))))))))
        have Hs : Hid (¬ stops (g (i + d))) := hst
        clear hst
        go_wp2
        go_round
        case rel => exact ⟨d + 1, by omega, by go_num, fun c hc hh => (by rcases lt_succ_cases hc with e | rfl; exact Hq.out c e hh; exact Hs.out hh)⟩
        case measure => simp [intOf]; omega
    · obtain rfl : n = i + d := by omega
      go_wp2
      go_ret
      exact ⟨i + d, by go_num, .inr (.inr ⟨hi, hop.out, .inr ⟨fun c hc => Hq.out c (by omega), rfl⟩⟩), rfl⟩

set_option maxHeartbeats 800000 in
theorem valueEnd_cont (b off n cap i : Nat) (g : Nat → Int) (w : World) (hn : n ≤ 4194304) (hi : i < n) (ho : g i = 123 ∨ g i = 91)
    (hc : ∀ k, k < n → w.cell? ⟨b, off + k, none⟩ = some (.int .u8 (g k))) :
    Calls Try.prog 21 #[.slice (some ⟨b, off, none⟩) n cap, .int .i64 (i : Int)] w fun e w' => ∃ r : Nat, e = .returned (.int .i64 (r : Int)) ∧ VE g n i r ∧ w' = w := by
  have hcx := hc i hi
  have hne : ((i : Int) == (n : Int)) = false := beq_no (by omega)
  have hfin : Hid (∀ r, CE g n i r → VE g n i r) := fun r h => .inr (.inl ⟨hi, .inr ho, h⟩)
  have Ho : Hid (g i = 123 ∨ g i = 91) := ho
  have Hc : Hid (∀ k, k < n → w.cell? ⟨b, off + k, none⟩ = some (.int .u8 (g k))) := hc
  clear hc
  rcases ho with h | h <;>
  · rw [h] at hcx
    clear h
    go_enter Try.func21, Try.ntmps21
    go_wp2
    go_loop [1, 5] (fun t u => ∃ (p : Nat) (D : Int), t = .int .i64 (p : Int) ∧ u = .int .i64 D ∧ CI g n i p D) (fun t _ => n + 1 - (intOf t).toNat)
    case atStart => exact ⟨i, 0, rfl, rfl, CI_start g n i (by omega)⟩
    case round =>
      obtain ⟨p, D, rfl, rfl, hci⟩ := hrel
      obtain ⟨d0, d1, d2⟩ := CI_bounds hci
      have HCI : Hid (CI g n i p D) := hci
      clear hci hcx hne
      by_cases hlt : p < n
      · have hcx := Hc.out p hlt
        by_cases h34 : g p = 34
        · have H34 : Hid (g p = 34) := h34
          rw [h34] at hcx
          clear h34
          go_wp2_with fail
          refine (stringEnd_core b off n cap p g _ hn (by omega) Hc.out).mono ?_
          rintro e w' ⟨r, rfl, hr, rfl⟩
          have hn2 := CI_string HCI.out hlt H34.out (by have := Ho.out; omega) hr
          have hlo := SE_lo (by omega) hr
          have hle := SE_le hr
          have HN : Hid (CI g n i r D) := hn2
          clear hn2 hr
          go_wp2
          go_round
          case rel => exact ⟨r, D, rfl, rfl, HN.out⟩
          case measure => simp [intOf]; omega
        by_cases hop : g p = 123 ∨ g p = 91
        · have HN : Hid (CI g n i (p + 1) (D + 1)) := CI_open HCI.out hlt hop
          clear h34
          rcases hop with h | h <;>
          · rw [h] at hcx
            clear h
            go_wp2
            go_round
            case rel => exact ⟨p + 1, D + 1, by go_num, rfl, HN.out⟩
            case measure => simp [intOf]; omega
        by_cases hcl : g p = 125 ∨ g p = 93
        · by_cases hD : D - 1 = 0
          · have HE : Hid (CE g n i (p + 1)) := CI_end HCI.out hlt hcl hD
            obtain rfl : D = 1 := by omega
            clear h34 hop hD
            rcases hcl with h | h <;>
            · rw [h] at hcx
              clear h
              go_wp2
              go_ret
              exact ⟨p + 1, by go_num, hfin.out _ HE.out, rfl⟩
          · have HN : Hid (CI g n i (p + 1) (D - 1)) := CI_close HCI.out hlt hcl hD (by rintro rfl; have := Ho.out; omega)
            have hDb : (D - 1 == 0) = false := beq_no hD
            clear h34 hop
            rcases hcl with h | h <;>
            · rw [h] at hcx
              clear h
              go_wp2
              go_round
              case rel => exact ⟨p + 1, D - 1, by go_num, rfl, HN.out⟩
              case measure => simp [intOf]; omega
        · have HN : Hid (CI g n i (p + 1) D) := CI_other HCI.out hlt (by rintro rfl; have := Ho.out; omega) h34 (by omega) (by omega) (by omega) (by omega)
          have k1 := beq_no h34
          have k2 : (g p == 123) = false := beq_no (by omega)
          have k3 : (g p == 91) = false := beq_no (by omega)
          have k4 : (g p == 125) = false := beq_no (by omega)
          have k5 : (g p == 93) = false := beq_no (by omega)
          clear h34 hop hcl
          go_wp2
          go_round
          case rel => exact ⟨p + 1, D, by go_num, rfl, HN.out⟩
          case measure => simp [intOf]; omega
      · go_wp2
        go_ret
        exact ⟨n, rfl, hfin.out _ (CI_out HCI.out (by omega)), rfl⟩

theorem valueEnd_any (v : Value) (n i : Nat) (g : Nat → Int) (w : World) (hn : n ≤ 4194304) (hi : i ≤ n) (hs : Sl w v n g) :
    Calls Try.prog 21 #[v, .int .i64 (i : Int)] w fun e w' => ∃ r : Nat, e = .returned (.int .i64 (r : Int)) ∧ VE g n i r ∧ w' = w := by
  obtain ⟨a, cap, rfl, h⟩ := hs
  by_cases he : i = n
  · subst he; exact valueEnd_end a i cap g w
  · rcases h with h | ⟨b, off, rfl, hc⟩
    · omega
    · by_cases h34 : g i = 34
      · exact valueEnd_str b off n cap i g w hn (by omega) h34 hc
      · by_cases ho : g i = 123 ∨ g i = 91
        · exact valueEnd_cont b off n cap i g w hn (by omega) ho hc
        · exact valueEnd_scalar b off n cap i g w hn (by omega) h34 (by omega) (by omega) hc

theorem zzValueEnd_any (v : Value) (n i : Nat) (g : Nat → Int) (w : World) (hn : n ≤ 4194304) (hi : i ≤ n) (hs : Sl w v n g) :
    Calls Try.prog 14 #[v, .int .i64 (i : Int)] w fun e w' => ∃ r : Nat, e = .returned (.int .i64 (r : Int)) ∧ VE g n i r ∧ w' = w := by
  have H : Hid (Sl w v n g) := hs
  clear hs
  go_enter Try.func14, Try.ntmps14
  go_wp2_with fail
  refine (valueEnd_any v n i g _ hn hi H.out).mono ?_
  rintro e w' ⟨r, rfl, hr, rfl⟩
  go_wp2
  go_ret
  exact ⟨r, rfl, hr, rfl⟩

end Go.Proofs.Qxb6621704a
