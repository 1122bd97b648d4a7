/-
  LAID BY THE SHELF's OWN TOOL (shelf_lay_g, written out by lay-plain.mjs) for this program: slices.SortFunc at changes.
-/
import Derived.Shelf.SlSortCmp.NoneTotal
import Derived.Test.Qxb6603884aChecked
namespace Go.Proofs
open Go.Shelf
def Try.sortCh_ren : Go.Shelf.Ren := ⟨fun | 6 => 16 | 15 => 20 | 14 => 19 | 28 => 30 | 29 => 31 | 20 => 22 | 21 => 23 | 22 => 24 | 23 => 25 | 24 => 26 | 25 => 27 | 26 => 28 | 27 => 29 | 46 => 33 | 47 => 34 | 48 => 35 | 49 => 36 | 50 => 37 | 57 => 38 | n => n, fun | 22 => 36 | 24 => 39 | 25 => 43 | 3 => 3 | 39 => 46 | 0 => 0 | 53 => 56 | 55 => 58 | 4 => 4 | 46 => 49 | 45 => 48 | 50 => 53 | 5 => 5 | 9 => 9 | 66 => 59 | 70 => 63 | 76 => 65 | 77 => 66 | n => n, fun | n => n⟩
set_option maxRecDepth 100000 in
theorem Try.sortCh : Go.Proofs.SlLaysF0.n6 Try.prog Try.sortCh_ren := {
  mixed := by kernel_rfl
  f6 := ⟨Try.f16.name, by decide, Try.func16.trans (congrArg some (by kernel_rfl))⟩
  f14 := ⟨Try.f19.name, by decide, Try.func19.trans (congrArg some (by kernel_rfl))⟩
  f15 := Try.func20.trans (congrArg some (by kernel_rfl))
  f20 := ⟨Try.f22.name, by decide, Try.func22.trans (congrArg some (by kernel_rfl))⟩
  f21 := ⟨Try.f23.name, by decide, Try.func23.trans (congrArg some (by kernel_rfl))⟩
  f22 := ⟨Try.f24.name, by decide, Try.func24.trans (congrArg some (by kernel_rfl))⟩
  f23 := ⟨Try.f25.name, by decide, Try.func25.trans (congrArg some (by kernel_rfl))⟩
  f24 := ⟨Try.f26.name, by decide, Try.func26.trans (congrArg some (by kernel_rfl))⟩
  f25 := ⟨Try.f27.name, by decide, Try.func27.trans (congrArg some (by kernel_rfl))⟩
  f26 := ⟨Try.f28.name, by decide, Try.func28.trans (congrArg some (by kernel_rfl))⟩
  f27 := ⟨Try.f29.name, by decide, Try.func29.trans (congrArg some (by kernel_rfl))⟩
  f28 := Try.func30.trans (congrArg some (by kernel_rfl))
  f29 := Try.func31.trans (congrArg some (by kernel_rfl))
  f46 := ⟨Try.f33.name, by decide, Try.func33.trans (congrArg some (by kernel_rfl))⟩
  f47 := Try.func34.trans (congrArg some (by kernel_rfl))
  f48 := Try.func35.trans (congrArg some (by kernel_rfl))
  f49 := ⟨Try.f36.name, by decide, Try.func36.trans (congrArg some (by kernel_rfl))⟩
  f50 := ⟨Try.f37.name, by decide, Try.func37.trans (congrArg some (by kernel_rfl))⟩
  f57 := ⟨Try.f38.name, by decide, Try.func38.trans (congrArg some (by kernel_rfl))⟩
  t0 := Try.underlying0
  a0 := Try.isAgg0
  z0 := Try.sizeOf0
  v0 := Try.zeroValue0
  t3 := Try.underlying3
  a3 := Try.isAgg3
  z3 := Try.sizeOf3
  v3 := Try.zeroValue3
  t4 := Try.underlying4
  a4 := Try.isAgg4
  z4 := Try.sizeOf4
  v4 := Try.zeroValue4
  t5 := Try.underlying5
  a5 := Try.isAgg5
  z5 := Try.sizeOf5
  v5 := Try.zeroValue5
  t9 := Try.underlying9
  a9 := Try.isAgg9
  z9 := Try.sizeOf9
  v9 := Try.zeroValue9
  t22 := Try.underlying36
  a22 := Try.isAgg36
  z22 := Try.sizeOf36
  v22 := Try.zeroValue36
  t25 := Try.underlying43
  a25 := Try.isAgg43
  z25 := Try.sizeOf43
  v25 := Try.zeroValue43
  t39 := Try.underlying46
  a39 := Try.isAgg46
  z39 := Try.sizeOf46
  v39 := Try.zeroValue46
  t45 := Try.underlying48
  a45 := Try.isAgg48
  z45 := Try.sizeOf48
  v45 := Try.zeroValue48
  t46 := Try.underlying49
  a46 := Try.isAgg49
  z46 := Try.sizeOf49
  v46 := Try.zeroValue49
  t50 := Try.underlying53
  a50 := Try.isAgg53
  z50 := Try.sizeOf53
  v50 := Try.zeroValue53
  t53 := Try.underlying56
  a53 := Try.isAgg56
  z53 := Try.sizeOf56
  v53 := Try.zeroValue56
  t55 := Try.underlying58
  a55 := Try.isAgg58
  z55 := Try.sizeOf58
  v55 := Try.zeroValue58
  t66 := Try.underlying59
  a66 := Try.isAgg59
  z66 := Try.sizeOf59
  v66 := Try.zeroValue59
  t70 := Try.underlying63
  a70 := Try.isAgg63
  z70 := Try.sizeOf63
  v70 := Try.zeroValue63
  t76 := Try.underlying65
  a76 := Try.isAgg65
  z76 := Try.sizeOf65
  v76 := Try.zeroValue65
  t77 := Try.underlying66
  a77 := Try.isAgg66
  z77 := Try.sizeOf66
  v77 := Try.zeroValue66 }
end Go.Proofs
