import Derived.Test.Qxb6621704aCopy
namespace Go.Proofs.Qxb6621704a
open Go.RowKit
open Go.Proofs.Qxb6621704a.Plain

/-- 'N' cells of which the first 'j' hold g's bytes and the others are zero. -/
def Jc (g : Nat → Int) (N j : Nat) : Array Value := ((List.range N).map fun k => if k < j then Value.int .u8 (g k) else .int .u8 0).toArray
theorem Jc_size (g : Nat → Int) (N j : Nat) : (Jc g N j).size = N := by simp [Jc]
theorem Jc_get (g : Nat → Int) (N j k : Nat) (h : k < N) : (Jc g N j)[k]? = some (if k < j then Value.int .u8 (g k) else .int .u8 0) := by simp [Jc, h]
theorem Jc_full (g : Nat → Int) (N : Nat) : Jc g N N = Cs g N := by
  apply Array.ext_getElem?
  intro k
  by_cases h : k < N
  · rw [Jc_get g N N k h, Cs_get g N k h, if_pos h]
  · rw [Array.getElem?_eq_none (by rw [Jc_size]; omega), Array.getElem?_eq_none (by rw [Cs_size]; omega)]
theorem Jc_set (g : Nat → Int) (N j : Nat) (h : j < N) : (Jc g N j).setIfInBounds j (.int .u8 (g j)) = Jc g N (j + 1) := by
  apply Array.ext_getElem?
  intro k
  rw [Array.getElem?_setIfInBounds]
  by_cases hk : j = k
  · subst hk
    rw [if_pos rfl, Jc_size, if_pos h, Jc_get g N _ j h, if_pos (by omega)]
  · rw [if_neg hk]
    by_cases hN : k < N
    · rw [Jc_get g N _ k hN, Jc_get g N _ k hN]
      by_cases h1 : k < j
      · rw [if_pos h1, if_pos (by omega)]
      · rw [if_neg h1, if_neg (by omega)]
    · rw [Array.getElem?_eq_none (by rw [Jc_size]; omega), Array.getElem?_eq_none (by rw [Jc_size]; omega)]
theorem Zs_get (n k : Nat) (h : k < n) : (Zs n)[k]? = some (.int .u8 0) := by
  have e : k % 1 = 0 := Nat.mod_one k
  simp [Zs, madeCells, h, Value.cells, e]
theorem Jc_zero (g : Nat → Int) (N : Nat) : Zs N = Jc g N 0 := by
  apply Array.ext_getElem?
  intro k
  by_cases h : k < N
  · rw [Jc_get g N 0 k h, if_neg (by omega), Zs_get N k h]
  · rw [Array.getElem?_eq_none (by rw [Zs_size]; omega), Array.getElem?_eq_none (by rw [Jc_size]; omega)]

/-- The bytes of three texts behind one another. -/
def jn (ga gb gc : Nat → Int) (na nb : Nat) (k : Nat) : Int := if k < na then ga k else if k < na + nb then gb (k - na) else gc (k - na - nb)
theorem jn_a (ga gb gc : Nat → Int) (na nb k : Nat) (h : k < na) : jn ga gb gc na nb k = ga k := by simp [jn, h]
theorem jn_b (ga gb gc : Nat → Int) (na nb k : Nat) (h : k < nb) : jn ga gb gc na nb (na + k) = gb k := by
  unfold jn; rw [if_neg (by omega), if_pos (by omega)]; congr 1; omega
theorem jn_c (ga gb gc : Nat → Int) (na nb k : Nat) : jn ga gb gc na nb (na + nb + k) = gc k := by
  unfold jn; rw [if_neg (by omega), if_neg (by omega)]; congr 1; omega

set_option maxHeartbeats 800000 in
theorem join_any (va vb vc : Value) (na nb nc : Nat) (ga gb gc : Nat → Int) (w : World) (hn : na + nb + nc ≤ 4194304) (ha : Sl w va na ga) (hb : Sl w vb nb gb) (hc : Sl w vc nc gc) :
    Calls Try.prog 12 #[va, vb, vc] w fun e w' => e = .returned (.slice (some ⟨w.heap.size, 0, none⟩) (na + nb + nc) (na + nb + nc)) ∧ w' = w.alloc (.cells (Cs (jn ga gb gc na nb) (na + nb + nc)) 5) := by
  obtain ⟨aa, ca, rfl, ha⟩ := ha
  obtain ⟨ab, cb, rfl, hb⟩ := hb
  obtain ⟨ac, cc, rfl, hc⟩ := hc
  obtain ⟨N, hN⟩ : ∃ N, N = na + nb + nc := ⟨_, rfl⟩
  obtain ⟨J, hJ⟩ : ∃ J, J = jn ga gb gc na nb := ⟨_, rfl⟩
  have hja : ∀ k, k < na → J k = ga k := fun k hk => by rw [hJ]; exact jn_a _ _ _ _ _ _ hk
  have hjb : ∀ k, k < nb → J (na + k) = gb k := fun k hk => by rw [hJ]; exact jn_b _ _ _ _ _ _ hk
  have hjc : ∀ k, J (na + nb + k) = gc k := fun k => by rw [hJ]; exact jn_c _ _ _ _ _ _
  rw [← hJ, ← hN]
  have hmk := fun (w : World) => run_mk w N (by omega)
  rw [Jc_zero J N] at hmk
  have eN : ((na : Int) + nb + nc) = (N : Int) := by omega
  have HN : Hid (N = na + nb + nc) := hN
  have HA : Hid (∀ k, k < na → J k = ga k) := hja
  have HB : Hid (∀ k, k < nb → J (na + k) = gb k) := hjb
  have HC : Hid (∀ k, J (na + nb + k) = gc k) := hjc
  have Ha : Hid (na = 0 ∨ ∃ b off, aa = some ⟨b, off, none⟩ ∧ ∀ k, k < na → w.cell? ⟨b, off + k, none⟩ = some (.int .u8 (ga k))) := ha
  have Hb : Hid (nb = 0 ∨ ∃ b off, ab = some ⟨b, off, none⟩ ∧ ∀ k, k < nb → w.cell? ⟨b, off + k, none⟩ = some (.int .u8 (gb k))) := hb
  have Hc : Hid (nc = 0 ∨ ∃ b off, ac = some ⟨b, off, none⟩ ∧ ∀ k, k < nc → w.cell? ⟨b, off + k, none⟩ = some (.int .u8 (gc k))) := hc
  clear hN hja hjb hjc ha hb hc hJ
  go_enter Try.func12, Try.ntmps12
  go_wp2
  clear eN hmk
  go_loopw [8, 9] (fun n k wr => ∃ j : Nat, j ≤ na ∧ n = .int .i64 ((j : Nat) : Int) ∧ k = .int .i64 (j : Int) ∧ wr = w.alloc (.cells (Jc J N (j)) 5)) (fun _ k _ => na - (intOf k).toNat)
  case atStart => exact ⟨0, Nat.zero_le _, by go_num, rfl, by simp⟩
  case round =>
    obtain ⟨j, hj, rfl, rfl, rfl⟩ := hrel
    by_cases hlt : j < na
    · rcases Ha.out with h0 | ⟨b, off, rfl, hcell⟩
      · omega
      have hcx := hcell j hlt
      rw [← HA.out j hlt] at hcx
      have hbl : b < w.heap.size := World.block_lt_of_cell? w _ hcx
      have hjN : j < N := by have := HN.out; omega
      have hJs := Jc_size J N (j)
      have hset := Jc_set J N (j) hjN
      clear hcell
      go_wp2
      go_roundw
      case rel => exact ⟨j + 1, by omega, by go_num, by go_num, rfl⟩
      case measure => simp [intOf]; omega
    · obtain rfl : na = j := by omega
      go_wp2
      go_loopw [8, 10] (fun n k wr => ∃ j : Nat, j ≤ nb ∧ n = .int .i64 ((na + j : Nat) : Int) ∧ k = .int .i64 (j : Int) ∧ wr = w.alloc (.cells (Jc J N (na + j)) 5)) (fun _ k _ => nb - (intOf k).toNat)
      case atStart => exact ⟨0, Nat.zero_le _, by go_num, rfl, by simp⟩
      case round =>
        obtain ⟨j, hj, rfl, rfl, rfl⟩ := hrel
        by_cases hlt : j < nb
        · rcases Hb.out with h0 | ⟨b, off, rfl, hcell⟩
          · omega
          have hcx := hcell j hlt
          rw [← HB.out j hlt] at hcx
          have hbl : b < w.heap.size := World.block_lt_of_cell? w _ hcx
          have hjN : na + j < N := by have := HN.out; omega
          have hJs := Jc_size J N (na + j)
          have hset := Jc_set J N (na + j) hjN
          clear hcell
          go_wp2
          go_roundw
          case rel => exact ⟨j + 1, by omega, by go_num, by go_num, rfl⟩
          case measure => simp [intOf]; omega
        · obtain rfl : nb = j := by omega
          go_wp2
          go_loopw [8, 11] (fun n k wr => ∃ j : Nat, j ≤ nc ∧ n = .int .i64 ((na + nb + j : Nat) : Int) ∧ k = .int .i64 (j : Int) ∧ wr = w.alloc (.cells (Jc J N (na + nb + j)) 5)) (fun _ k _ => nc - (intOf k).toNat)
          case atStart => exact ⟨0, Nat.zero_le _, by go_num, rfl, by simp⟩
          case round =>
            obtain ⟨j, hj, rfl, rfl, rfl⟩ := hrel
            by_cases hlt : j < nc
            · rcases Hc.out with h0 | ⟨b, off, rfl, hcell⟩
              · omega
              have hcx := hcell j hlt
              rw [← HC.out j] at hcx
              have hbl : b < w.heap.size := World.block_lt_of_cell? w _ hcx
              have hjN : na + nb + j < N := by have := HN.out; omega
              have hJs := Jc_size J N (na + nb + j)
              have hset := Jc_set J N (na + nb + j) hjN
              clear hcell
              go_wp2
              go_roundw
              case rel => exact ⟨j + 1, by omega, by go_num, by go_num, rfl⟩
              case measure => simp [intOf]; omega
            · obtain rfl : nc = j := by omega
              go_wp2
              have e := Jc_full J N
              go_ret
              exact ⟨rfl, by rw [← e, HN.out]⟩

theorem join2_any (va vb : Value) (na nb : Nat) (ga gb : Nat → Int) (w : World) (hn : na + nb ≤ 4194304) (ha : Sl w va na ga) (hb : Sl w vb nb gb) :
    Calls Try.prog 12 #[va, vb, .slice none 0 0] w fun e w' => e = .returned (.slice (some ⟨w.heap.size, 0, none⟩) (na + nb) (na + nb)) ∧ w' = w.alloc (.cells (Cs (jn ga gb (fun _ => 0) na nb) (na + nb)) 5) :=
  join_any va vb (.slice none 0 0) na nb 0 ga gb (fun _ => 0) w hn ha hb ⟨none, 0, rfl, .inl rfl⟩

theorem Sl_alloc_at (w : World) (g : Nat → Int) (n b : Nat) (hb : b = w.heap.size) : Sl (w.alloc (.cells (Cs g n) 5)) (.slice (some ⟨b, 0, none⟩) n n) n g := by
  subst hb; exact Sl_alloc w g n

theorem Sl_grow {w : World} {v : Value} {n : Nat} {g : Nat → Int} (o : Obj) (h : Sl w v n g) : Sl (w.alloc o) v n g :=
  Sl_below ((Below.refl w.heap.size w).alloc (Nat.le_refl _) o) (Nat.le_refl _) h

end Go.Proofs.Qxb6621704a
