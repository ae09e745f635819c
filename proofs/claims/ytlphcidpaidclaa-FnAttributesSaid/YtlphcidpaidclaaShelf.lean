/-
  DERIVED: THE SHELF's CONTRACTS AT THIS DUMP, IN PLAIN WORDS (tools/lay-plain.mjs out of 'ScratchYtlphcidpaidclaaShelf.lean', which tools/lay-shelf.mjs wrote): THE SAME DECLARATIONS UNDER THE SAME NAMES: 'import', 'namespace', 'open', 'def', 'theorem' AND NOTHING ELSE: no command of the shelf's: FOR A HAND-IN. Each laying: the table of numbers ('.._ren') and one theorem, a field a fact of the dump's own or the kernel's comparison; each contract: ONE APPLICATION.
-/
import Derived.Shelf.SlSortCmp.SmallK
import Derived.Shelf.SlGeneric
import Derived.Shelf.Small.Bits
import Derived.Ground.SlsfProg
import Derived.Ground.NamesProg
import Derived.Test.YtlphcidpaidclaaProg
namespace Go.Proofs
open Go.Shelf
def Try.sortPairs_ren : Go.Shelf.Ren := ⟨fun | 6 => 8 | 15 => 12 | 14 => 11 | 28 => 23 | 29 => 24 | 20 => 15 | 21 => 16 | 22 => 17 | 23 => 18 | 24 => 19 | 25 => 20 | 26 => 21 | 27 => 22 | 46 => 27 | 47 => 28 | 48 => 29 | 49 => 30 | 50 => 31 | 57 => 32 | n => n, fun | 22 => 29 | 24 => 31 | 25 => 36 | 3 => 3 | 39 => 27 | 0 => 0 | 53 => 24 | 55 => 26 | 4 => 4 | 46 => 42 | 45 => 41 | 50 => 46 | 5 => 5 | 9 => 9 | 66 => 52 | 70 => 56 | 76 => 58 | 77 => 59 | n => n, fun | n => n⟩
theorem Try.sortPairs : Go.Proofs.SlLaysF0.n6 Try.prog Try.sortPairs_ren := {
  mixed := by kernel_rfl
  f6 := ⟨Try.f8.name, by decide, Try.func8.trans (congrArg some (by kernel_rfl))⟩
  f14 := ⟨Try.f11.name, by decide, Try.func11.trans (congrArg some (by kernel_rfl))⟩
  f15 := Try.func12.trans (congrArg some (by kernel_rfl))
  f20 := ⟨Try.f15.name, by decide, Try.func15.trans (congrArg some (by kernel_rfl))⟩
  f21 := ⟨Try.f16.name, by decide, Try.func16.trans (congrArg some (by kernel_rfl))⟩
  f22 := ⟨Try.f17.name, by decide, Try.func17.trans (congrArg some (by kernel_rfl))⟩
  f23 := ⟨Try.f18.name, by decide, Try.func18.trans (congrArg some (by kernel_rfl))⟩
  f24 := ⟨Try.f19.name, by decide, Try.func19.trans (congrArg some (by kernel_rfl))⟩
  f25 := ⟨Try.f20.name, by decide, Try.func20.trans (congrArg some (by kernel_rfl))⟩
  f26 := ⟨Try.f21.name, by decide, Try.func21.trans (congrArg some (by kernel_rfl))⟩
  f27 := ⟨Try.f22.name, by decide, Try.func22.trans (congrArg some (by kernel_rfl))⟩
  f28 := Try.func23.trans (congrArg some (by kernel_rfl))
  f29 := Try.func24.trans (congrArg some (by kernel_rfl))
  f46 := ⟨Try.f27.name, by decide, Try.func27.trans (congrArg some (by kernel_rfl))⟩
  f47 := Try.func28.trans (congrArg some (by kernel_rfl))
  f48 := Try.func29.trans (congrArg some (by kernel_rfl))
  f49 := ⟨Try.f30.name, by decide, Try.func30.trans (congrArg some (by kernel_rfl))⟩
  f50 := ⟨Try.f31.name, by decide, Try.func31.trans (congrArg some (by kernel_rfl))⟩
  f57 := ⟨Try.f32.name, by decide, Try.func32.trans (congrArg some (by kernel_rfl))⟩
  t0 := Try.underlying0
  a0 := Try.isAgg0
  z0 := Try.sizeOf0
  v0 := Try.zeroValue0
  t3 := Try.underlying3
  a3 := Try.isAgg3
  z3 := Try.sizeOf3
  v3 := Try.zeroValue3
  t4 := Try.underlying4
  a4 := Try.isAgg4
  z4 := Try.sizeOf4
  v4 := Try.zeroValue4
  t5 := Try.underlying5
  a5 := Try.isAgg5
  z5 := Try.sizeOf5
  v5 := Try.zeroValue5
  t9 := Try.underlying9
  a9 := Try.isAgg9
  z9 := Try.sizeOf9
  v9 := Try.zeroValue9
  t22 := Try.underlying29
  a22 := Try.isAgg29
  z22 := Try.sizeOf29
  v22 := Try.zeroValue29
  t25 := Try.underlying36
  a25 := Try.isAgg36
  z25 := Try.sizeOf36
  v25 := Try.zeroValue36
  t39 := Try.underlying27
  a39 := Try.isAgg27
  z39 := Try.sizeOf27
  v39 := Try.zeroValue27
  t45 := Try.underlying41
  a45 := Try.isAgg41
  z45 := Try.sizeOf41
  v45 := Try.zeroValue41
  t46 := Try.underlying42
  a46 := Try.isAgg42
  z46 := Try.sizeOf42
  v46 := Try.zeroValue42
  t50 := Try.underlying46
  a50 := Try.isAgg46
  z50 := Try.sizeOf46
  v50 := Try.zeroValue46
  t53 := Try.underlying24
  a53 := Try.isAgg24
  z53 := Try.sizeOf24
  v53 := Try.zeroValue24
  t55 := Try.underlying26
  a55 := Try.isAgg26
  z55 := Try.sizeOf26
  v55 := Try.zeroValue26
  t66 := Try.underlying52
  a66 := Try.isAgg52
  z66 := Try.sizeOf52
  v66 := Try.zeroValue52
  t70 := Try.underlying56
  a70 := Try.isAgg56
  z70 := Try.sizeOf56
  v70 := Try.zeroValue56
  t76 := Try.underlying58
  a76 := Try.isAgg58
  z76 := Try.sizeOf58
  v76 := Try.zeroValue58
  t77 := Try.underlying59
  a77 := Try.isAgg59
  z77 := Try.sizeOf59
  v77 := Try.zeroValue59 }
def Try.bitsLen_ren : Go.Shelf.Ren := ⟨fun | 125 => 12 | 128 => 23 | 129 => 24 | n => n, fun | 46 => 27 | 3 => 3 | 51 => 24 | 53 => 26 | 4 => 4 | 5 => 5 | 9 => 9 | n => n, fun | n => n⟩
theorem Try.bitsLen : Go.Proofs.Lays.n125 Try.prog Try.bitsLen_ren := {
  mixed := by kernel_rfl
  f125 := Try.func12.trans (congrArg some (by kernel_rfl))
  f128 := Try.func23.trans (congrArg some (by kernel_rfl))
  f129 := Try.func24.trans (congrArg some (by kernel_rfl))
  t3 := Try.underlying3
  a3 := Try.isAgg3
  z3 := Try.sizeOf3
  v3 := Try.zeroValue3
  t4 := Try.underlying4
  a4 := Try.isAgg4
  z4 := Try.sizeOf4
  v4 := Try.zeroValue4
  t5 := Try.underlying5
  a5 := Try.isAgg5
  z5 := Try.sizeOf5
  v5 := Try.zeroValue5
  t9 := Try.underlying9
  a9 := Try.isAgg9
  z9 := Try.sizeOf9
  v9 := Try.zeroValue9
  t46 := Try.underlying27
  a46 := Try.isAgg27
  z46 := Try.sizeOf27
  v46 := Try.zeroValue27
  t51 := Try.underlying24
  a51 := Try.isAgg24
  z51 := Try.sizeOf24
  v51 := Try.zeroValue24
  t53 := Try.underlying26
  a53 := Try.isAgg26
  z53 := Try.sizeOf26
  v53 := Try.zeroValue26 }
end Go.Proofs
