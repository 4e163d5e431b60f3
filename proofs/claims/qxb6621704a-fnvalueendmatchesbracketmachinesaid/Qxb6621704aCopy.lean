import Derived.Test.Qxb6621704aStrModel
import Derived.WalkSpells
import Derived.Laws.CopyRow
import Derived.Laws.IdiomCopy
import Derived.Laws.NewBlocks
namespace Go.Proofs.Qxb6621704a
open Go.RowKit
open Go.Proofs.Qxb6621704a.Plain

theorem add_pl (b off k : Nat) : (⟨b, off, none⟩ : Addr).add k = ⟨b, off + k, none⟩ := by
  unfold Addr.add; split <;> simp_all

/-- 'n' zero bytes, as 'make' lays them. -/
def Zs (n : Nat) : Array Value := madeCells (Value.int .u8 0).cells (n * 1)
theorem Zs_size (n : Nat) : (Zs n).size = n := by simp [Zs, size_madeCells]

theorem info5 : (Try.prog.info? 5).map (fun i => (i.zero, i.size, i.bytes)) = some (some (.int .u8 0), 1, 1) := by kernel_rfl
theorem size5 : (Try.prog.info? 5).map (·.size) = some 1 := by kernel_rfl

theorem run_mk (w : World) (n : Nat) (hn : n ≤ 4194304) :
    (Instr.makeSlice 22 (.int .i64 (n : Int)) (.int .i64 (n : Int))).run Try.prog w = .ok (.slice (some ⟨w.heap.size, 0, none⟩) n n) (w.alloc (.cells (Zs n) 5)) := by
  obtain ⟨i, hi, hz0, hz1, hz2⟩ := info_parts info5
  have h := run_make (P := Try.prog) w 22 5 i (.int .u8 0) Try.underlying22 hi hz0 .i64 .i64 (n : Int) (n : Int) (by omega) (by omega) (by rw [hz2]; omega) (by omega)
  rw [hz1] at h
  simpa [Zs] using h

theorem Sl_below {w w' : World} {v : Value} {n : Nat} {g : Nat → Int} {B : Nat} (hb : Below B w w') (hB : w.heap.size ≤ B) (h : Sl w v n g) : Sl w' v n g := by
  obtain ⟨a, cap, rfl, h | ⟨b, off, rfl, hc⟩⟩ := h
  · exact ⟨a, cap, rfl, .inl h⟩
  · refine ⟨_, cap, rfl, .inr ⟨b, off, rfl, fun k hk => ?_⟩⟩
    have h1 := hc k hk
    have h2 := World.block_lt_of_cell? w _ h1
    rw [hb.cell (by exact Nat.lt_of_lt_of_le h2 hB)]
    exact h1

theorem Sl_own {w : World} {g n : Nat} {cs : List Value} {gg : Nat → Int} {t : TypeId} (h : w.heap[g]? = some (.cells cs.toArray t (0, 0))) (hcs : ∀ k, k < n → cs[k]? = some (.int .u8 (gg k))) :
    Sl w (.slice (some ⟨g, 0, none⟩) n n) n gg := by
  refine ⟨_, n, rfl, .inr ⟨g, 0, rfl, fun k hk => ?_⟩⟩
  simp [World.cell?, h, hcs k hk]

/-- The bytes of 'g', as cells. -/
def Cs (g : Nat → Int) (n : Nat) : Array Value := ((List.range n).map fun k => Value.int .u8 (g k)).toArray
theorem Cs_get (g : Nat → Int) (n k : Nat) (h : k < n) : (Cs g n)[k]? = some (.int .u8 (g k)) := by simp [Cs, h]
theorem Cs_size (g : Nat → Int) (n : Nat) : (Cs g n).size = n := by simp [Cs]

theorem setRow_alloc (w : World) (c d : Array Value) (t : TypeId) : (w.alloc (.cells c t)).setRow w.heap.size d = w.alloc (.cells d t) := by
  unfold World.setRow World.alloc
  congr 1
  apply Array.ext_getElem?
  intro k
  simp only [Array.getElem?_modify, Array.getElem?_push]
  by_cases hk : k = w.heap.size
  · subst hk; simp
  · rw [if_neg (fun h => hk h.symm), if_neg hk, if_neg hk]

theorem Sl_alloc (w : World) (g : Nat → Int) (n : Nat) : Sl (w.alloc (.cells (Cs g n) 5)) (.slice (some ⟨w.heap.size, 0, none⟩) n n) n g :=
  ⟨_, n, rfl, .inr ⟨w.heap.size, 0, rfl, fun k hk => by rw [World.cell?_alloc_at _ _ _ _ rfl]; simpa using Cs_get g n k hk⟩⟩

/-- 'zzc := make([]byte, len(b)); copy(zzc, b)': the new block holds b's bytes. -/
theorem run_cp (w : World) (ty : TypeId) (x : Addr) (n cap : Nat) (g : Nat → Int) (h : Sl w (.slice (some x) n cap) n g) :
    (Builtin.copy_ #[22, 22] ty #[.slice (some ⟨w.heap.size, 0, none⟩) n n, .slice (some x) n cap]).run Try.prog (w.alloc (.cells (Zs n) 5)) = .ok (goInt n) (w.alloc (.cells (Cs g n) 5)) := by
  obtain ⟨ao, cap', he, hcase⟩ := h
  simp only [Value.slice.injEq] at he
  obtain ⟨rfl, _, rfl⟩ := he
  by_cases h0 : n = 0
  · subst h0
    rw [run_copy_none _ 22 22 ty 5 _ _ _ _ _ _ Try.underlying22 size5 (by simp)]
    have e1 : Zs 0 = #[] := by apply Array.eq_empty_of_size_eq_zero; exact Zs_size 0
    have e2 : Cs g 0 = #[] := by apply Array.eq_empty_of_size_eq_zero; exact Cs_size g 0
    rw [e1, e2]; rfl
  · rcases hcase with h1 | ⟨b, off, he, hc⟩
    · exact absurd h1 h0
    · simp only [Option.some.injEq] at he
      subst he
      have h := run_copy_row (P := Try.prog) (w.alloc (.cells (Zs n) 5)) 22 22 ty 5 w.heap.size 0 n n ⟨b, off, none⟩ n cap (Zs n) 5 ((List.range n).map fun k => .int .u8 (g k)) Try.underlying22 size5 (heap_alloc_new w _) (by simp)
        (by
          intro j u hj
          have hjn : j < n := by obtain ⟨h1, _⟩ := List.getElem?_eq_some_iff.1 hj; simpa using h1
          simp [hjn] at hj
          subst hj
          have h1 := hc j hjn
          have h2 := World.block_lt_of_cell? w _ h1
          rw [add_pl, World.cell?_alloc_past _ _ _ (by exact h2)]
          exact h1)
        (by simp [Zs_size]) (by simp [Value.oneCell'])
      have hd : List.drop n (Zs n).toList = [] := List.drop_eq_nil_of_le (by simp [Zs_size])
      rw [h, setRow_alloc]
      simp [Cs, hd]

/-- WHAT THE WALK IS TOLD OF A SLICE THAT CAME IN, as the shells say it. -/
theorem Sl_row {w : World} {a : Option Addr} {len cap : Nat} {zs : List Int}
    (h : (a = none ∧ len = 0 ∧ cap = 0 ∧ zs = []) ∨ ∃ x, a = some x ∧ len ≤ cap ∧ cap ≤ maxLen ∧ zs.length = cap ∧ (∀ i, i < zs.length → w.cell? (x.add i) = some (.int .u8 (zs.getD i 0))) ∧ ∀ n ∈ zs, (Lit.int .u8 n).wf = true) :
    Sl w (.slice a len cap) len (fun k => zs.getD k 0) := by
  rcases h with ⟨rfl, rfl, rfl, rfl⟩ | ⟨x, rfl, hl, hm, hz, hc, _⟩
  · exact ⟨none, 0, rfl, .inl rfl⟩
  · refine ⟨_, cap, rfl, ?_⟩
    by_cases h0 : len = 0
    · exact .inl h0
    · obtain ⟨b, off, spot⟩ := x
      have hspot : spot = none := by simpa [Addr.add] using World.cell?_spot (hc 0 (by omega))
      subst hspot
      exact .inr ⟨b, off, rfl, fun k hk => by have := hc k (by omega); rwa [add_pl] at this⟩

end Go.Proofs.Qxb6621704a
