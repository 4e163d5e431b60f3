import Derived.Test.Qxb6621704aVal
namespace Go.Proofs.Qxb6621704a
open Go.RowKit
open Go.Proofs.Qxb6621704a.Plain

/-- What the model's loop knows behind 'd' bytes. -/
def MI (g : Nat → Int) (i d : Nat) (s e : Bool) (D : Int) : Prop := ms g i d = ⟨s, e, D⟩ ∧ (∀ c, c < d → ¬ clo g i c) ∧ -(d : Int) ≤ D ∧ D ≤ d

theorem MI_zero (g : Nat → Int) (i : Nat) : MI g i 0 false false 0 := ⟨rfl, fun c hc => by omega, by omega, by omega⟩

theorem MI_next {g : Nat → Int} {i d : Nat} {s e s' e' : Bool} {D D' : Int} (h : MI g i d s e D) (hc : ¬ Mach.ends (g (i + d)) ⟨s, e, D⟩) (hs : Mach.step (g (i + d)) ⟨s, e, D⟩ = ⟨s', e', D'⟩) (hD : D' = D ∨ D' = D + 1 ∨ D' = D - 1) : MI g i (d + 1) s' e' D' := by
  obtain ⟨h1, h2, h3, h4⟩ := h
  refine ⟨?_, ?_, by omega, by omega⟩
  · show (ms g i d).step _ = _
    rw [h1, hs]
  · intro c hlt
    rcases lt_succ_cases hlt with h | rfl
    · exact h2 c h
    · unfold clo; rw [h1]; exact hc

theorem MI_end {g : Nat → Int} {i n d : Nat} {s e : Bool} {D : Int} (h : MI g i d s e D) (hn : i + d < n) (hc : Mach.ends (g (i + d)) ⟨s, e, D⟩) : CE g n i (i + d + 1) :=
  .inl ⟨d, hn, by unfold clo; rw [h.1]; exact hc, h.2.1, rfl⟩

theorem MI_out {g : Nat → Int} {i n d : Nat} {s e : Bool} {D : Int} (h : MI g i d s e D) (hn : n = i + d) : CE g n i n :=
  .inr ⟨fun c hc => h.2.1 c (by omega), rfl⟩

set_option maxHeartbeats 2000000 in
theorem vmodel_open (b off n cap i : Nat) (g : Nat → Int) (w : World) (hn : n ≤ 4194304) (hi : i < n) (ho : opens (g i))
    (hc : ∀ k, k < n → w.cell? ⟨b, off + k, none⟩ = some (.int .u8 (g k))) :
    Calls Try.prog 15 #[.slice (some ⟨b, off, none⟩) n cap, .int .i64 (i : Int)] w fun e w' => ∃ r : Nat, e = .returned (.int .i64 (r : Int)) ∧ VE g n i r ∧ w' = w := by
  have hcx := hc i hi
  have hne : ((i : Int) == (n : Int)) = false := beq_no (by omega)
  have hfin : Hid (∀ r, CE g n i r → VE g n i r) := fun r h => .inr (.inl ⟨hi, ho, h⟩)
  have Hc : Hid (∀ k, k < n → w.cell? ⟨b, off + k, none⟩ = some (.int .u8 (g k))) := hc
  clear hc
  rcases ho with h | h | h <;>
  · rw [h] at hcx
    clear h
    go_enter Try.func15, Try.ntmps15
    go_wp2
    go_loop [6, 7, 8, 9, 10] (fun tD ts te tj _ => ∃ (d : Nat) (s e : Bool) (D : Int), i + d ≤ n ∧ tj = .int .i64 ((i + d : Nat) : Int) ∧ ts = .bool s ∧ te = .bool e ∧ tD = .int .i64 D ∧ MI g i d s e D) (fun _ _ _ tj _ => n - (intOf tj).toNat)
    case atStart => exact ⟨0, false, false, 0, by omega, by go_num, rfl, rfl, rfl, MI_zero g i⟩
    case round =>
      obtain ⟨d, s, e, D, hd, rfl, rfl, rfl, rfl, hm⟩ := hrel
      have hD1 : -(d : Int) ≤ D := hm.2.2.1
      have hD2 : D ≤ d := hm.2.2.2
      have HM : Hid (MI g i d s e D) := hm
      clear hm hcx hne
      by_cases hlt : i + d < n
      · have hcx := Hc.out (i + d) hlt
        cases s
        · -- outside strings
          by_cases h34 : g (i + d) = 34
          · have HN : Hid (MI g i (d + 1) true e D) := MI_next HM.out (by rw [h34]; simp [Mach.ends]) (by rw [h34]; simp [Mach.step]) (.inl rfl)
            rw [h34] at hcx
            clear h34
            go_wp2
            go_round
            case rel => exact ⟨d + 1, true, e, D, by omega, by go_num, rfl, rfl, rfl, HN.out⟩
            case measure => simp [intOf]; omega
          by_cases hop : g (i + d) = 123 ∨ g (i + d) = 91
          · have HN : Hid (MI g i (d + 1) false e (D + 1)) := MI_next HM.out (by rcases hop with h | h <;> rw [h] <;> simp [Mach.ends]) (by rcases hop with h | h <;> rw [h] <;> simp [Mach.step]) (.inr (.inl rfl))
            clear h34
            rcases hop with h | h <;>
            · rw [h] at hcx
              clear h
              go_wp2
              go_round
              case rel => exact ⟨d + 1, false, e, (D + 1), by omega, by go_num, rfl, rfl, rfl, HN.out⟩
              case measure => simp [intOf]; omega
          by_cases hcl : g (i + d) = 125 ∨ g (i + d) = 93
          · by_cases hD : D - 1 = 0
            · have HE : Hid (CE g n i (i + d + 1)) := MI_end HM.out hlt (by simp only [Mach.ends]; exact ⟨hcl, hD⟩)
              obtain rfl : D = 1 := by omega
              clear h34 hop hD
              rcases hcl with h | h <;>
              · rw [h] at hcx
                clear h
                go_wp2
                go_ret
                exact ⟨i + d + 1, by go_num, hfin.out _ HE.out, rfl⟩
            · have HN : Hid (MI g i (d + 1) false e (D - 1)) := MI_next HM.out (by simp only [Mach.ends]; exact fun h => hD h.2) (by rcases hcl with h | h <;> rw [h] <;> simp [Mach.step]) (.inr (.inr rfl))
              have hDb : (D - 1 == 0) = false := beq_no hD
              clear h34 hop
              rcases hcl with h | h <;>
              · rw [h] at hcx
                clear h
                go_wp2
                go_round
                case rel => exact ⟨d + 1, false, e, (D - 1), by omega, by go_num, rfl, rfl, rfl, HN.out⟩
                case measure => simp [intOf]; omega
          · have k1 := beq_no h34
            have k2 : (g (i + d) == 123) = false := beq_no (by omega)
            have k3 : (g (i + d) == 91) = false := beq_no (by omega)
            have k4 : (g (i + d) == 125) = false := beq_no (by omega)
            have k5 : (g (i + d) == 93) = false := beq_no (by omega)
            have HN : Hid (MI g i (d + 1) false e D) := MI_next HM.out (by simp only [Mach.ends]; exact fun h => hcl h.1) (by simp only [Mach.step]; simp [h34, hop, hcl]) (.inl rfl)
            clear h34 hop hcl
            go_wp2
            go_round
            case rel => exact ⟨d + 1, false, e, D, by omega, by go_num, rfl, rfl, rfl, HN.out⟩
            case measure => simp [intOf]; omega
        · cases e
          · by_cases h92 : g (i + d) = 92
            · have HN : Hid (MI g i (d + 1) true true D) := MI_next HM.out (by rw [h92]; simp [Mach.ends]) (by rw [h92]; simp [Mach.step]) (.inl rfl)
              rw [h92] at hcx
              clear h92
              go_wp2
              go_round
              case rel => exact ⟨d + 1, true, true, D, by omega, by go_num, rfl, rfl, rfl, HN.out⟩
              case measure => simp [intOf]; omega
            by_cases h34 : g (i + d) = 34
            · by_cases hD : D = 0
              · have HE : Hid (CE g n i (i + d + 1)) := MI_end HM.out hlt (by simp [Mach.ends, h34, hD])
                subst hD
                rw [h34] at hcx
                clear h34 h92
                go_wp2
                go_ret
                exact ⟨i + d + 1, by go_num, hfin.out _ HE.out, rfl⟩
              · have HN : Hid (MI g i (d + 1) false false D) := MI_next HM.out (by simp [Mach.ends, hD]) (by rw [h34]; simp [Mach.step]) (.inl rfl)
                have hDb : (D == 0) = false := beq_no hD
                rw [h34] at hcx
                clear h34 h92
                go_wp2
                go_round
                case rel => exact ⟨d + 1, false, false, D, by omega, by go_num, rfl, rfl, rfl, HN.out⟩
                case measure => simp [intOf]; omega
            · have HN : Hid (MI g i (d + 1) true false D) := MI_next HM.out (by simp [Mach.ends, h34]) (by simp [Mach.step, h34, h92]) (.inl rfl)
              have k1 := beq_no h34
              have k2 := beq_no h92
              clear h34 h92
              go_wp2
              go_round
              case rel => exact ⟨d + 1, true, false, D, by omega, by go_num, rfl, rfl, rfl, HN.out⟩
              case measure => simp [intOf]; omega
          · have HN : Hid (MI g i (d + 1) true false D) := MI_next HM.out (by simp [Mach.ends]) (by simp [Mach.step]) (.inl rfl)
            go_wp2
            go_round
            case rel => exact ⟨d + 1, true, false, D, by omega, by go_num, rfl, rfl, rfl, HN.out⟩
            case measure => simp [intOf]; omega
      · have HE : Hid (CE g n i n) := MI_out HM.out (by omega)
        go_wp2
        go_ret
        exact ⟨n, rfl, hfin.out _ HE.out, rfl⟩

theorem ends_yes (x : Int) (w : World) (h : stops x) : Calls Try.prog 22 #[.int .u8 x] w fun e w' => e = .returned (.bool true) ∧ w' = w := by
  rcases h with rfl | rfl | rfl | rfl | rfl | rfl | rfl | rfl <;>
  · go_enter Try.func22, Try.ntmps22
    go_wp2
    go_ret
    exact ⟨rfl, rfl⟩

theorem ends_no (x : Int) (w : World) (h : ¬ stops x) : Calls Try.prog 22 #[.int .u8 x] w fun e w' => e = .returned (.bool false) ∧ w' = w := by
  have k1 := beq_no (fun e => h (.inl e))
  have k2 := beq_no (fun e => h (.inr (.inl e)))
  have k3 := beq_no (fun e => h (.inr (.inr (.inl e))))
  have k4 := beq_no (fun e => h (.inr (.inr (.inr (.inl e)))))
  have k5 := beq_no (fun e => h (.inr (.inr (.inr (.inr (.inl e))))))
  have k6 := beq_no (fun e => h (.inr (.inr (.inr (.inr (.inr (.inl e)))))))
  have k7 := beq_no (fun e => h (.inr (.inr (.inr (.inr (.inr (.inr (.inl e))))))))
  have k8 := beq_no (fun e => h (.inr (.inr (.inr (.inr (.inr (.inr (.inr e))))))))
  clear h
  go_enter Try.func22, Try.ntmps22
  go_wp2
  go_ret
  exact ⟨rfl, rfl⟩

theorem vmodel_end (a : Option Addr) (n cap : Nat) (g : Nat → Int) (w : World) :
    Calls Try.prog 15 #[.slice a n cap, .int .i64 (n : Int)] w fun e w' => ∃ r : Nat, e = .returned (.int .i64 (r : Int)) ∧ VE g n n r ∧ w' = w := by
  go_enter Try.func15, Try.ntmps15
  go_wp2
  go_ret
  exact ⟨n, rfl, .inl ⟨rfl, rfl⟩, rfl⟩

set_option maxHeartbeats 800000 in
theorem vmodel_scalar (b off n cap i : Nat) (g : Nat → Int) (w : World) (hn : n ≤ 4194304) (hi : i < n) (h1 : ¬ g i = 34) (h2 : ¬ g i = 123) (h3 : ¬ g i = 91)
    (hc : ∀ k, k < n → w.cell? ⟨b, off + k, none⟩ = some (.int .u8 (g k))) :
    Calls Try.prog 15 #[.slice (some ⟨b, off, none⟩) n cap, .int .i64 (i : Int)] w fun e w' => ∃ r : Nat, e = .returned (.int .i64 (r : Int)) ∧ VE g n i r ∧ w' = w := by
  have hcx := hc i hi
  have hne : ((i : Int) == (n : Int)) = false := beq_no (by omega)
  have e1 := beq_no h1
  have e2 := beq_no h2
  have e3 := beq_no h3
  have hop : Hid (¬ opens (g i)) := by rintro (h | h | h) <;> contradiction
  clear h1 h2 h3
  go_enter Try.func15, Try.ntmps15
  go_wp2
  go_loop [11] (fun t => ∃ d : Nat, i + d ≤ n ∧ t = .int .i64 ((i + d : Nat) : Int) ∧ ∀ c, c < d → ¬ stops (g (i + c))) (fun t => n - (intOf t).toNat)
  case atStart => exact ⟨0, by omega, by go_num, fun c hc => by omega⟩
  case round =>
    obtain ⟨d, hd, rfl, hq⟩ := hrel
    have Hq : Hid (∀ c, c < d → ¬ stops (g (i + c))) := hq
    clear hq hcx
    by_cases hlt : i + d < n
    · have hcx := hc (i + d) hlt
      by_cases hst : stops (g (i + d))
      · have Hs : Hid (stops (g (i + d))) := hst
        have Hend : Hid (VE g n i (i + d)) := .inr (.inr ⟨hi, hop.out, .inl ⟨d, hlt, hst, Hq.out, rfl⟩⟩)
        clear hst
        go_wp2_with fail
        refine (ends_yes _ _ Hs.out).mono ?_
        rintro e w' ⟨rfl, rfl⟩
        go_wp2
        go_ret
        exact ⟨i + d, by go_num, Hend.out, rfl⟩
      · have Hs : Hid (¬ stops (g (i + d))) := hst
        clear hst
        go_wp2_with fail
        refine (ends_no _ _ Hs.out).mono ?_
        rintro e w' ⟨rfl, rfl⟩
        go_wp2
        go_round
        case rel => exact ⟨d + 1, by omega, by go_num, fun c hc hh => (by rcases lt_succ_cases hc with e | rfl; exact Hq.out c e hh; exact Hs.out hh)⟩
        case measure => simp [intOf]; omega
    · obtain rfl : n = i + d := by omega
      go_wp2
      go_ret
      exact ⟨i + d, by go_num, .inr (.inr ⟨hi, hop.out, .inr ⟨fun c hc => Hq.out c (by omega), rfl⟩⟩), rfl⟩

theorem vmodel_any (v : Value) (n i : Nat) (g : Nat → Int) (w : World) (hn : n ≤ 4194304) (hi : i ≤ n) (hs : Sl w v n g) :
    Calls Try.prog 15 #[v, .int .i64 (i : Int)] w fun e w' => ∃ r : Nat, e = .returned (.int .i64 (r : Int)) ∧ VE g n i r ∧ w' = w := by
  obtain ⟨a, cap, rfl, h⟩ := hs
  by_cases he : i = n
  · subst he; exact vmodel_end a i cap g w
  · rcases h with h | ⟨b, off, rfl, hc⟩
    · omega
    · by_cases ho : g i = 34 ∨ g i = 123 ∨ g i = 91
      · exact vmodel_open b off n cap i g w hn (by omega) ho hc
      · exact vmodel_scalar b off n cap i g w hn (by omega) (by omega) (by omega) (by omega) hc

end Go.Proofs.Qxb6621704a
