/-
  DERIVED: THE SHELF's CONTRACTS AT THIS DUMP, IN PLAIN WORDS (tools/lay-plain.mjs out of 'Qxb6619470aShelfSrc.lean', which tools/lay-shelf.mjs wrote): THE SAME DECLARATIONS UNDER THE SAME NAMES: 'import', 'namespace', 'open', 'def', 'theorem' AND NOTHING ELSE: no command of the shelf's: FOR A HAND-IN. Each laying: the table of numbers ('.._ren') and one theorem, a field a fact of the dump's own or the kernel's comparison; each contract: ONE APPLICATION.
-/
import Derived.Shelf.SortG.Plain
import Derived.Shelf.SortG.SortNone
import Derived.Shelf.SlGeneric
import Derived.Test.Qxb6619470aProg
namespace Go.Proofs
open Go.Shelf
def Try.laysSort_ren : Go.Shelf.Ren := ⟨fun | 53 => 26 | 64 => 28 | 63 => 27 | 78 => 38 | 79 => 39 | 70 => 29 | 71 => 30 | 72 => 31 | 73 => 32 | 74 => 33 | 75 => 34 | 59 => 35 | 76 => 36 | 77 => 37 | 88 => 40 | 89 => 41 | 90 => 42 | 91 => 43 | 92 => 44 | 68 => 45 | 96 => 46 | n => n, fun | 22 => 37 | 23 => 2 | 3 => 3 | 51 => 61 | 0 => 0 | 67 => 72 | 69 => 74 | 4 => 4 | 61 => 64 | 60 => 63 | 44 => 69 | 5 => 5 | 9 => 9 | 75 => 75 | 79 => 79 | 83 => 82 | 84 => 83 | n => n, fun | n => n⟩
theorem Try.laysSort : Go.Proofs.SlLaysN.n53 Try.prog Try.laysSort_ren := {
  mixed := by kernel_rfl
  f53 := ⟨Try.f26.name, by decide, Try.func26.trans (congrArg some (by kernel_rfl))⟩
  f59 := ⟨Try.f35.name, by decide, Try.func35.trans (congrArg some (by kernel_rfl))⟩
  f63 := ⟨Try.f27.name, by decide, Try.func27.trans (congrArg some (by kernel_rfl))⟩
  f64 := Try.func28.trans (congrArg some (by kernel_rfl))
  f68 := ⟨Try.f45.name, by decide, Try.func45.trans (congrArg some (by kernel_rfl))⟩
  f70 := ⟨Try.f29.name, by decide, Try.func29.trans (congrArg some (by kernel_rfl))⟩
  f71 := ⟨Try.f30.name, by decide, Try.func30.trans (congrArg some (by kernel_rfl))⟩
  f72 := ⟨Try.f31.name, by decide, Try.func31.trans (congrArg some (by kernel_rfl))⟩
  f73 := ⟨Try.f32.name, by decide, Try.func32.trans (congrArg some (by kernel_rfl))⟩
  f74 := ⟨Try.f33.name, by decide, Try.func33.trans (congrArg some (by kernel_rfl))⟩
  f75 := ⟨Try.f34.name, by decide, Try.func34.trans (congrArg some (by kernel_rfl))⟩
  f76 := ⟨Try.f36.name, by decide, Try.func36.trans (congrArg some (by kernel_rfl))⟩
  f77 := ⟨Try.f37.name, by decide, Try.func37.trans (congrArg some (by kernel_rfl))⟩
  f78 := Try.func38.trans (congrArg some (by kernel_rfl))
  f79 := Try.func39.trans (congrArg some (by kernel_rfl))
  f88 := ⟨Try.f40.name, by decide, Try.func40.trans (congrArg some (by kernel_rfl))⟩
  f89 := Try.func41.trans (congrArg some (by kernel_rfl))
  f90 := Try.func42.trans (congrArg some (by kernel_rfl))
  f91 := ⟨Try.f43.name, by decide, Try.func43.trans (congrArg some (by kernel_rfl))⟩
  f92 := ⟨Try.f44.name, by decide, Try.func44.trans (congrArg some (by kernel_rfl))⟩
  f96 := ⟨Try.f46.name, by decide, Try.func46.trans (congrArg some (by kernel_rfl))⟩
  t0 := Try.underlying0
  a0 := Try.isAgg0
  z0 := Try.sizeOf0
  v0 := Try.zeroValue0
  t3 := Try.underlying3
  a3 := Try.isAgg3
  z3 := Try.sizeOf3
  v3 := Try.zeroValue3
  t4 := Try.underlying4
  a4 := Try.isAgg4
  z4 := Try.sizeOf4
  v4 := Try.zeroValue4
  t5 := Try.underlying5
  a5 := Try.isAgg5
  z5 := Try.sizeOf5
  v5 := Try.zeroValue5
  t9 := Try.underlying9
  a9 := Try.isAgg9
  z9 := Try.sizeOf9
  v9 := Try.zeroValue9
  t22 := Try.underlying37
  a22 := Try.isAgg37
  z22 := Try.sizeOf37
  v22 := Try.zeroValue37
  t23 := Try.underlying2
  a23 := Try.isAgg2
  z23 := Try.sizeOf2
  v23 := Try.zeroValue2
  t44 := Try.underlying69
  a44 := Try.isAgg69
  z44 := Try.sizeOf69
  v44 := Try.zeroValue69
  t51 := Try.underlying61
  a51 := Try.isAgg61
  z51 := Try.sizeOf61
  v51 := Try.zeroValue61
  t60 := Try.underlying63
  a60 := Try.isAgg63
  z60 := Try.sizeOf63
  v60 := Try.zeroValue63
  t61 := Try.underlying64
  a61 := Try.isAgg64
  z61 := Try.sizeOf64
  v61 := Try.zeroValue64
  t67 := Try.underlying72
  a67 := Try.isAgg72
  z67 := Try.sizeOf72
  v67 := Try.zeroValue72
  t69 := Try.underlying74
  a69 := Try.isAgg74
  z69 := Try.sizeOf74
  v69 := Try.zeroValue74
  t75 := Try.underlying75
  a75 := Try.isAgg75
  z75 := Try.sizeOf75
  v75 := Try.zeroValue75
  t79 := Try.underlying79
  a79 := Try.isAgg79
  z79 := Try.sizeOf79
  v79 := Try.zeroValue79
  t83 := Try.underlying82
  a83 := Try.isAgg82
  z83 := Try.sizeOf82
  v83 := Try.zeroValue82
  t84 := Try.underlying83
  a84 := Try.isAgg83
  z84 := Try.sizeOf83
  v84 := Try.zeroValue83 }
theorem Try.sort_int (blk off cap : Nat) (zs : List Int) (w : World) (hH : Go.Sort.Holds (Value.int IntKind.i64) w blk off zs.toArray) (hb : blk < w.heap.size) (hl : zs.length < 4611686018427387904) :
    Calls Try.prog 26 #[Value.slice (some { block := blk, off := off }) zs.length cap] w fun e w' => e = Ending.returned (Value.tuple #[]) ∧ ∃ n os, w' = Go.Sort.grow (Go.Sort.putRow (Value.int IntKind.i64) (Go.Sort.ahead w n) blk off (zs.mergeSort fun x y => decide (x ≤ y)).toArray) os :=
  AnyG.slices_Sort_int Try.laysSort blk off cap zs w hH hb hl
theorem Try.sort_none (p : Option Addr) (cap : Nat) (w : World) :
    Calls Try.prog 26 #[Value.slice p 0 cap] w fun e w' => e = Ending.returned (Value.tuple #[]) ∧ w' = w :=
  AnyG.slices_Sort_int_none Try.laysSort p cap w
end Go.Proofs
