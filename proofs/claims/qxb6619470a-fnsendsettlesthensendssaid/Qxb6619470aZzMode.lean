import Derived.Test.Qxb6619470aProg
import Derived.Test.Qxb6619470aMode
import Derived.WalkKit
import Derived.WalkSpells
import Derived.BigQuiet
import Derived.Deep.RegionHeld3
import Derived.Maps.Own
import Derived.Maps.OwnOps
import Derived.Maps.Views
namespace Go.Proofs.Qxb6619470a
open Go.RowKit Go.Maps
open Go.Proofs.Qxb6619470a.Mode

/-- The slice value 'v' holds the numbers 'l'. -/
def SI (w : World) (v : Value) (l : List Int) : Prop :=
  ∃ a cap, v = .slice a l.length cap ∧ (l = [] ∨ ∃ b off, a = some ⟨b, off, none⟩ ∧ ∀ i z, l[i]? = some z → w.cell? ⟨b, off + i, none⟩ = some (.int .i64 z))

theorem law2 : Keyed Try.prog 2 := int_keyed Try.underlying2
theorem zero3 (w : World) : (zeroValue 3).run Try.prog w = .ok (.int .i64 0) w := by kernel_rfl
theorem run_mkmap (w : World) (n : Int) : (Instr.makeMap 57 (some (.int .i64 n))).run Try.prog w = .ok (.map (some w.heap.size)) (w.alloc (.map #[] 0)) := by
  simp [Instr.makeMap, run_underlying Try.underlying57, asInt, asIntOf, newObj]
  rfl

/-- The map 'D' holds the counts of 'l'. -/
def Cnt (D : DataW Unit) (l : List Int) : Prop := IsMap D ∧ ∀ z : Int, D.atKey (.int .i64 z) (.lit (.int .i64 0)) = .lit (.int .i64 (l.count z : Int))

theorem Cnt_nil : Cnt (.map []) [] := ⟨isMap_empty, fun z => by simp [DataW.atKey]⟩

theorem Cnt_put {D : DataW Unit} {l : List Int} {z : Int} (h : Cnt D l) : Cnt (D.put (.int .i64 z) (.lit (.int .i64 ((l.count z : Int) + 1)))) (l ++ [z]) := by
  refine ⟨h.1.put _ _, fun y => ?_⟩
  by_cases e : y = z
  · subst e
    rw [atKey_put_same h.1 (show WideAt.IsKeyLit (.int .i64 y) from trivial)]
    simp
  · rw [atKey_put_other (by simpa using e), h.2 y, List.count_append]
    have : List.count y [z] = 0 := by rw [List.count_eq_zero]; simpa using e
    rw [this]; rfl

theorem take_snoc' {l : List Int} {i : Nat} {z : Int} (h : l[i]? = some z) : l.take (i + 1) = l.take i ++ [z] := by
  obtain ⟨h1, h2⟩ := List.getElem?_eq_some_iff.1 h
  rw [List.take_succ_eq_append_getElem h1, h2]

theorem mode_nil (a : Option Addr) (cap : Nat) (w : World) : Calls Try.prog 23 #[.slice a 0 cap] w fun e w' => e = .returned (.tuple #[.int .i64 0, .int .i64 0]) ∧ Below w.heap.size w w' := by
  have hmm := fun (w : World) (n : Int) => run_mkmap w n
  go_enter Try.func23, Try.ntmps23
  go_wp2
  refine wp_loop_rounds 1 ?_
  rw [rounds_succ]
  go_wp2
  refine wp_loop_rounds 1 ?_
  rw [rounds_succ]
  go_wp2
  go_ret2
  exact ⟨rfl, (Below.refl _ _).alloc (Nat.le_refl _) _⟩

set_option maxHeartbeats 400000 in
theorem mode_core (b off n cap : Nat) (l : List Int) (w : World) (hn : n = l.length) (hl : n ≤ 1048576) (hwf : ∀ z ∈ l, (Lit.int .i64 z).wf = true)
    (hc : ∀ i z, l[i]? = some z → w.cell? ⟨b, off + i, none⟩ = some (.int .i64 z)) :
    Calls Try.prog 23 #[.slice (some ⟨b, off, none⟩) n cap] w fun e w' => ∃ (m : Int) (c : Nat), e = .returned (.tuple #[.int .i64 m, .int .i64 (c : Int)]) ∧ ModeOf l m c ∧ Below w.heap.size w w' := by
  have hmm := fun (w : World) (n : Int) => run_mkmap w n
  have HN : Hid (n = l.length) := hn
  have HC : Hid (∀ (i : Nat) (z : Int), l[i]? = some z → w.cell? ⟨b, off + i, none⟩ = some (.int .i64 z)) := hc
  have HW : Hid (∀ z ∈ l, (Lit.int .i64 z).wf = true) := hwf
  clear hn hc hwf
  go_enter Try.func23, Try.ntmps23
  go_wp2
  clear hmm
  go_loopw [5] (fun t wr => ∃ (k : Nat) (D : DataW Unit), k ≤ n ∧ t = .int .i64 (k : Int) ∧ wr.ownsMap Try.prog 2 (plainElem Try.prog 3) w.heap.size k D ∧ Cnt D (l.take k) ∧ Below w.heap.size w wr) (fun t _ => n - (intOf t).toNat)
  case atStart => exact ⟨0, .map [], Nat.zero_le _, by go_num, World.ownsMap_made _ _ _ _, Cnt_nil, (Below.refl _ _).alloc (Nat.le_refl _) _⟩
  case round =>
    obtain ⟨k, D, hk, rfl, hown, hD, hbel⟩ := hrel
    have HD : Hid (Cnt D (l.take k)) := hD
    clear hD
    by_cases hlt : k < n
    · obtain ⟨z, hz⟩ : ∃ z, l[k]? = some z := ⟨_, List.getElem?_eq_getElem (by rw [← HN.out]; exact hlt)⟩
      have hcw := HC.out k z hz
      have hbw := World.block_lt_of_cell? w _ hcw
      have hcx : wr.cell? ⟨b, off + k, none⟩ = some (.int .i64 z) := (hbel.cell (by exact hbw)).trans hcw
      have hzw := HW.out z (List.mem_of_getElem? hz)
      have hkey : keyOf Try.prog 2 (.int .i64 z) = some (.int .i64 z) := keyOf_int_mk Try.underlying2 hzw
      obtain ⟨c, hlk, hat, hcw2⟩ := hown.drew.lookup_int law2 Try.underlying57 Try.underlying3 (zero3 _) hkey
      have hcc : c = ((l.take k).count z : Int) := by
        have h1 := HD.out.2 z
        rw [hat] at h1
        simpa using h1
      have hcl : (l.take k).count z ≤ k := Nat.le_trans List.count_le_length (by simp; omega)
      obtain ⟨cn, hcn⟩ : ∃ cn : Nat, cn = (l.take k).count z := ⟨_, rfl⟩
      rw [← hcn] at hcc hcl
      subst hcc
      have hwf1 : (Lit.int .i64 ((cn : Int) + 1)).wf = true := WalkArith.wf_i64 (by omega)
      obtain ⟨w1, hup, hown1, hgrow1⟩ := hown.drew.update law2 Try.underlying57 (by unfold maxLen; omega) hkey (plainElem_int (H := Unit) Try.underlying3 hwf1)
      have HR : Hid (w1.ownsMap Try.prog 2 (plainElem Try.prog 3) w.heap.size (k + 1) (D.put (.int .i64 z) (.lit (.int .i64 ((cn : Int) + 1))))) := hown1
      have HD1 : Hid (Cnt (D.put (.int .i64 z) (.lit (.int .i64 ((cn : Int) + 1)))) (l.take (k + 1))) := by
        have h1 := Cnt_put (z := z) HD.out
        rw [← hcn, ← take_snoc' hz] at h1
        exact h1
      have hb1 : Below w.heap.size w w1 := (hbel.drew).grown hgrow1 hbel.size (fun j hj => by cases hj; exact Nat.le_refl _)
      have hc1 : w1.cell? ⟨b, off + k, none⟩ = some (.int .i64 z) := (hb1.cell (by exact hbw)).trans hcw
      have hwr : IntKind.i64.wrap ((cn : Int) + 1) = (cn : Int) + 1 := by rw [IntKind.wrap_i64]; omega
      have hk0 : (0 : Int) ≤ (k : Int) := by omega
      have hk1 : (k : Int) < (n : Int) := by omega
      clear hcn hown hown1 hgrow1 hkey hat hcw2 hzw hcw HD hz hwf1
      go_wp2
      go_region_held3 (fun w' => w'.cell? ⟨b, off + k, none⟩ = some (.int .i64 z)) (go_keep) (fail)
      go_wp2
      go_roundw
      case rel => exact ⟨k + 1, _, by omega, by go_num, HR.out, HD1.out, hb1⟩
      case measure => simp [intOf]; omega
    · obtain rfl : k = n := by omega
      have HD2 : Hid (Cnt D l) := by
        have := HD.out
        rw [HN.out, List.take_length] at this
        exact this
      have HO : Hid (wr.ownsMap Try.prog 2 (plainElem Try.prog 3) w.heap.size k D) := hown
      clear hown HD
      go_wp2
      go_loop [6, 7, 8] (fun tb tc ti => ∃ (i : Nat) (m : Int) (c : Nat), i ≤ k ∧ ti = .int .i64 (i : Int) ∧ tb = .int .i64 m ∧ tc = .int .i64 (c : Int) ∧ Best l i m c) (fun _ _ ti => k - (intOf ti).toNat)
      case atStart => exact ⟨0, 0, 0, Nat.zero_le _, by go_num, rfl, rfl, .inl ⟨rfl, rfl, rfl⟩⟩
      case round =>
        obtain ⟨i, m, c, hi, rfl, rfl, rfl, hB⟩ := hrel
        have HB : Hid (Best l i m c) := hB
        have hcb : c ≤ 1048576 := by have := Best_le hB; have := HN.out; omega
        clear hB
        by_cases hik : i < k
        · obtain ⟨z, hz⟩ : ∃ z, l[i]? = some z := ⟨_, List.getElem?_eq_getElem (by rw [← HN.out]; exact hik)⟩
          have hcw := HC.out i z hz
          have hbw := World.block_lt_of_cell? w _ hcw
          have hcx : wr.cell? ⟨b, off + i, none⟩ = some (.int .i64 z) := (hbel.cell (by exact hbw)).trans hcw
          have hzw := HW.out z (List.mem_of_getElem? hz)
          have hkey : keyOf Try.prog 2 (.int .i64 z) = some (.int .i64 z) := keyOf_int_mk Try.underlying2 hzw
          obtain ⟨d, hlk, hat, hcw2⟩ := HO.out.lookup_int law2 Try.underlying57 Try.underlying3 (zero3 _) hkey
          have hdd : d = (l.count z : Int) := by
            have h1 := HD2.out.2 z
            rw [hat] at h1
            simpa using h1
          have hdl : l.count z ≤ k := Nat.le_trans List.count_le_length (by rw [← HN.out]; exact Nat.le_refl _)
          obtain ⟨dn, hdn⟩ : ∃ dn : Nat, dn = l.count z := ⟨_, rfl⟩
          rw [← hdn] at hdd hdl
          subst hdd
          have HZ : Hid (l[i]? = some z) := hz
          have HDN : Hid (dn = l.count z) := hdn
          clear hz hdn hkey hat hcw2 hzw hcw
          by_cases h1 : c < dn
          · have HN1 : Hid (Best l (i + 1) z dn) := by have := Best_take HB.out HZ.out (.inl (by rw [← HDN.out]; exact h1)); rw [← HDN.out] at this; exact this
            go_wp2
            go_round
            case rel => exact ⟨i + 1, z, dn, by omega, by go_num, rfl, rfl, HN1.out⟩
            case measure => simp [intOf]; omega
          · by_cases h2 : dn = c
            · by_cases h3 : z < m
              · have HN1 : Hid (Best l (i + 1) z dn) := by have := Best_take HB.out HZ.out (.inr ⟨by rw [← HDN.out]; exact h2, h3⟩); rw [← HDN.out] at this; exact this
                subst h2
                go_wp2
                go_round
                case rel => exact ⟨i + 1, z, dn, by omega, by go_num, rfl, rfl, HN1.out⟩
                case measure => simp [intOf]; omega
              · have HN1 : Hid (Best l (i + 1) m c) := Best_keep HB.out HZ.out (by rw [← HDN.out]; exact h1) (fun h => h3 h.2)
                subst h2
                go_wp2
                go_round
                case rel => exact ⟨i + 1, m, dn, by omega, by go_num, rfl, rfl, HN1.out⟩
                case measure => simp [intOf]; omega
            · have HN1 : Hid (Best l (i + 1) m c) := Best_keep HB.out HZ.out (by rw [← HDN.out]; exact h1) (fun h => h2 (by rw [HDN.out]; exact h.1))
              have h2' : ((dn : Int) == (c : Int)) = false := by simp; omega
              clear h2
              go_wp2
              go_round
              case rel => exact ⟨i + 1, m, c, by omega, by go_num, rfl, rfl, HN1.out⟩
              case measure => simp [intOf]; omega
        · obtain rfl : i = k := by omega
          have HM : Hid (ModeOf l m c) := by
            have := HB.out
            rw [HN.out] at this
            exact Best_end this
          go_wp2
          go_ret2
          exact ⟨m, c, rfl, HM.out, hbel⟩

/-- zzMode: the value counted most often, the smallest of those, with its count. -/
theorem mode_any (v : Value) (l : List Int) (w : World) (hl : l.length ≤ 1048576) (hwf : ∀ z ∈ l, (Lit.int .i64 z).wf = true) (hs : SI w v l) :
    Calls Try.prog 23 #[v] w fun e w' => ∃ (m : Int) (c : Nat), e = .returned (.tuple #[.int .i64 m, .int .i64 (c : Int)]) ∧ ModeOf l m c ∧ Below w.heap.size w w' := by
  obtain ⟨a, cap, rfl, h | ⟨b, off, rfl, hc⟩⟩ := hs
  · subst h
    exact (mode_nil a cap w).mono fun e w' ⟨he, hb⟩ => ⟨0, 0, he, .inl ⟨rfl, rfl, rfl⟩, hb⟩
  · exact mode_core b off l.length cap l w rfl hl hwf hc

end Go.Proofs.Qxb6619470a
