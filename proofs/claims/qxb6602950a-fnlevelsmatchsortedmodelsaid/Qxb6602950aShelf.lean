/-
  DERIVED: THE SHELF's CONTRACTS AT THIS DUMP, IN PLAIN WORDS (tools/lay-plain.mjs out of 'Qxb6602950aShelf.lean', which tools/lay-shelf.mjs wrote): THE SAME DECLARATIONS UNDER THE SAME NAMES: 'import', 'namespace', 'open', 'def', 'theorem' AND NOTHING ELSE: no command of the shelf's: FOR A HAND-IN. Each laying: the table of numbers ('.._ren') and one theorem, a field a fact of the dump's own or the kernel's comparison; each contract: ONE APPLICATION.
-/
import Derived.Test.Qxb6602950aProg
import Derived.Shelf.SortM.Plain
import Derived.Shelf.SortM.SortNone
import Derived.Shelf.SlGeneric
import Derived.Ground.SlgmProg
namespace Go.Proofs
open Go.Shelf
def Try.srt_ren : Go.Shelf.Ren := ⟨fun | 5 => 18 | 8 => 21 | 7 => 20 | 19 => 31 | 20 => 32 | 10 => 22 | 11 => 23 | 12 => 24 | 13 => 25 | 14 => 26 | 15 => 27 | 16 => 28 | 17 => 29 | 18 => 30 | 30 => 33 | 31 => 34 | 32 => 35 | 33 => 36 | 34 => 37 | 35 => 38 | 40 => 39 | n => n, fun | 23 => 22 | 25 => 2 | 3 => 3 | 32 => 50 | 22 => 22 | 0 => 0 | 44 => 63 | 46 => 30 | 4 => 4 | 36 => 55 | 35 => 54 | 41 => 60 | 5 => 5 | 9 => 9 | 53 => 65 | 57 => 69 | 63 => 72 | 64 => 73 | n => n, fun | n => n⟩
theorem Try.srt : Go.Proofs.SlLaysM.n5 Try.prog Try.srt_ren := {
  mixed := by kernel_rfl
  f5 := ⟨Try.f18.name, by decide, Try.func18.trans (congrArg some (by kernel_rfl))⟩
  f7 := ⟨Try.f20.name, by decide, Try.func20.trans (congrArg some (by kernel_rfl))⟩
  f8 := Try.func21.trans (congrArg some (by kernel_rfl))
  f10 := ⟨Try.f22.name, by decide, Try.func22.trans (congrArg some (by kernel_rfl))⟩
  f11 := ⟨Try.f23.name, by decide, Try.func23.trans (congrArg some (by kernel_rfl))⟩
  f12 := ⟨Try.f24.name, by decide, Try.func24.trans (congrArg some (by kernel_rfl))⟩
  f13 := ⟨Try.f25.name, by decide, Try.func25.trans (congrArg some (by kernel_rfl))⟩
  f14 := ⟨Try.f26.name, by decide, Try.func26.trans (congrArg some (by kernel_rfl))⟩
  f15 := ⟨Try.f27.name, by decide, Try.func27.trans (congrArg some (by kernel_rfl))⟩
  f16 := ⟨Try.f28.name, by decide, Try.func28.trans (congrArg some (by kernel_rfl))⟩
  f17 := ⟨Try.f29.name, by decide, Try.func29.trans (congrArg some (by kernel_rfl))⟩
  f18 := ⟨Try.f30.name, by decide, Try.func30.trans (congrArg some (by kernel_rfl))⟩
  f19 := Try.func31.trans (congrArg some (by kernel_rfl))
  f20 := Try.func32.trans (congrArg some (by kernel_rfl))
  f30 := ⟨Try.f33.name, by decide, Try.func33.trans (congrArg some (by kernel_rfl))⟩
  f31 := Try.func34.trans (congrArg some (by kernel_rfl))
  f32 := Try.func35.trans (congrArg some (by kernel_rfl))
  f33 := ⟨Try.f36.name, by decide, Try.func36.trans (congrArg some (by kernel_rfl))⟩
  f34 := ⟨Try.f37.name, by decide, Try.func37.trans (congrArg some (by kernel_rfl))⟩
  f35 := ⟨Try.f38.name, by decide, Try.func38.trans (congrArg some (by kernel_rfl))⟩
  f40 := ⟨Try.f39.name, by decide, Try.func39.trans (congrArg some (by kernel_rfl))⟩
  t0 := Try.underlying0
  a0 := Try.isAgg0
  z0 := Try.sizeOf0
  v0 := Try.zeroValue0
  t3 := Try.underlying3
  a3 := Try.isAgg3
  z3 := Try.sizeOf3
  v3 := Try.zeroValue3
  t4 := Try.underlying4
  a4 := Try.isAgg4
  z4 := Try.sizeOf4
  v4 := Try.zeroValue4
  t5 := Try.underlying5
  a5 := Try.isAgg5
  z5 := Try.sizeOf5
  v5 := Try.zeroValue5
  t9 := Try.underlying9
  a9 := Try.isAgg9
  z9 := Try.sizeOf9
  v9 := Try.zeroValue9
  t22 := Try.underlying22
  a22 := Try.isAgg22
  z22 := Try.sizeOf22
  v22 := Try.zeroValue22
  t23 := Try.underlying22
  a23 := Try.isAgg22
  z23 := Try.sizeOf22
  v23 := Try.zeroValue22
  t25 := Try.underlying2
  a25 := Try.isAgg2
  z25 := Try.sizeOf2
  v25 := Try.zeroValue2
  t32 := Try.underlying50
  a32 := Try.isAgg50
  z32 := Try.sizeOf50
  v32 := Try.zeroValue50
  t35 := Try.underlying54
  a35 := Try.isAgg54
  z35 := Try.sizeOf54
  v35 := Try.zeroValue54
  t36 := Try.underlying55
  a36 := Try.isAgg55
  z36 := Try.sizeOf55
  v36 := Try.zeroValue55
  t41 := Try.underlying60
  a41 := Try.isAgg60
  z41 := Try.sizeOf60
  v41 := Try.zeroValue60
  t44 := Try.underlying63
  a44 := Try.isAgg63
  z44 := Try.sizeOf63
  v44 := Try.zeroValue63
  t46 := Try.underlying30
  a46 := Try.isAgg30
  z46 := Try.sizeOf30
  v46 := Try.zeroValue30
  t53 := Try.underlying65
  a53 := Try.isAgg65
  z53 := Try.sizeOf65
  v53 := Try.zeroValue65
  t57 := Try.underlying69
  a57 := Try.isAgg69
  z57 := Try.sizeOf69
  v57 := Try.zeroValue69
  t63 := Try.underlying72
  a63 := Try.isAgg72
  z63 := Try.sizeOf72
  v63 := Try.zeroValue72
  t64 := Try.underlying73
  a64 := Try.isAgg73
  z64 := Try.sizeOf73
  v64 := Try.zeroValue73 }
theorem Try.slices_Sort (blk off cap : Nat) (zs : List Int) (w : World) (hH : Sort.Holds (Value.int .i64) w blk off zs.toArray) (hblk : blk < w.heap.size) (hsz : zs.length < 4611686018427387904) :
    Calls Try.prog 18 #[.slice (some ⟨blk, off, none⟩) zs.length cap] w fun e w' =>
      e = .returned (.tuple #[]) ∧ ∃ n os, w' = Sort.grow (Sort.putRow (Value.int .i64) (Sort.ahead w n) blk off (zs.mergeSort fun x y => decide (x ≤ y)).toArray) os :=
  AnyM.slices_Sort_int Try.srt blk off cap zs w hH hblk hsz
theorem Try.slices_Sort_none (p : Option Addr) (cap : Nat) (w : World) : Calls Try.prog 18 #[.slice p 0 cap] w fun e w' => e = .returned (.tuple #[]) ∧ w' = w := AnyM.slices_Sort_int_none Try.srt p cap w
end Go.Proofs
