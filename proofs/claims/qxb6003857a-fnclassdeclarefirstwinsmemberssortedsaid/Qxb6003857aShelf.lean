/-
  DERIVED: THE SHELF's CONTRACTS AT THIS DUMP, IN PLAIN WORDS (tools/lay-plain.mjs out of 'Qxb6003857aShelf.lean', which tools/lay-shelf.mjs wrote): THE SAME DECLARATIONS UNDER THE SAME NAMES: 'import', 'namespace', 'open', 'def', 'theorem' AND NOTHING ELSE: no command of the shelf's: FOR A HAND-IN. Each laying: the table of numbers ('.._ren') and one theorem, a field a fact of the dump's own or the kernel's comparison; each contract: ONE APPLICATION.
-/
import Derived.Shelf.SlIter.Nil
import Derived.Shelf.SortM.Plain
import Derived.Shelf.SortM.SortNone
import Derived.Ground.GgzProg
import Derived.Ground.SlgmProg
import Derived.Test.Qxb6003857aProg
set_option maxRecDepth 100000
namespace Go.Proofs
open Go.Shelf
def Try.keys31_ren : Go.Shelf.Ren := ⟨fun | 7 => 31 | 10 => 36 | n => n, fun | 23 => 62 | 26 => 9 | 3 => 66 | 28 => 96 | 0 => 0 | 27 => 95 | 33 => 101 | 4 => 4 | n => n, fun | n => n⟩
theorem Try.keys31 : Go.Proofs.SlLaysZ.n7 Try.prog Try.keys31_ren := {
  mixed := by kernel_rfl
  f7 := ⟨Try.f31.name, by decide, Try.func31.trans (congrArg some (by kernel_rfl))⟩
  f10 := ⟨Try.f36.name, by decide, Try.func36.trans (congrArg some (by kernel_rfl))⟩
  t0 := Try.underlying0
  a0 := Try.isAgg0
  z0 := Try.sizeOf0
  v0 := Try.zeroValue0
  t4 := Try.underlying4
  a4 := Try.isAgg4
  z4 := Try.sizeOf4
  v4 := Try.zeroValue4
  t23 := Try.underlying62
  a23 := Try.isAgg62
  z23 := Try.sizeOf62
  v23 := Try.zeroValue62
  t26 := Try.underlying9
  a26 := Try.isAgg9
  z26 := Try.sizeOf9
  v26 := Try.zeroValue9
  t27 := Try.underlying95
  a27 := Try.isAgg95
  z27 := Try.sizeOf95
  v27 := Try.zeroValue95
  t28 := Try.underlying96
  a28 := Try.isAgg96
  z28 := Try.sizeOf96
  v28 := Try.zeroValue96
  t33 := Try.underlying101
  a33 := Try.isAgg101
  z33 := Try.sizeOf101
  v33 := Try.zeroValue101 }
def Try.sorted30_ren : Go.Shelf.Ren := ⟨fun | 6 => 30 | 8 => 34 | 9 => 35 | 11 => 38 | 13 => 40 | 12 => 39 | 23 => 51 | 24 => 52 | 14 => 42 | 15 => 43 | 16 => 44 | 17 => 45 | 18 => 46 | 19 => 47 | 20 => 48 | 21 => 49 | 22 => 50 | 25 => 54 | 26 => 55 | 27 => 56 | 28 => 57 | 29 => 58 | 30 => 59 | 31 => 60 | n => n, fun | 26 => 9 | 28 => 96 | 24 => 93 | 0 => 0 | 3 => 3 | 37 => 29 | 48 => 114 | 50 => 116 | 4 => 4 | 40 => 107 | 39 => 106 | 45 => 111 | 5 => 5 | 9 => 9 | 51 => 117 | 55 => 46 | 57 => 122 | 58 => 123 | 33 => 101 | n => n, fun | n => n⟩
theorem Try.sorted30 : Go.Proofs.SlLaysZ.n6 Try.prog Try.sorted30_ren := {
  mixed := by kernel_rfl
  f6 := ⟨Try.f30.name, by decide, Try.func30.trans (congrArg some (by kernel_rfl))⟩
  f8 := ⟨Try.f34.name, by decide, Try.func34.trans (congrArg some (by kernel_rfl))⟩
  f11 := ⟨Try.f38.name, by decide, Try.func38.trans (congrArg some (by kernel_rfl))⟩
  t0 := Try.underlying0
  a0 := Try.isAgg0
  z0 := Try.sizeOf0
  v0 := Try.zeroValue0
  t24 := Try.underlying93
  a24 := Try.isAgg93
  z24 := Try.sizeOf93
  v24 := Try.zeroValue93
  t26 := Try.underlying9
  a26 := Try.isAgg9
  z26 := Try.sizeOf9
  v26 := Try.zeroValue9
  t28 := Try.underlying96
  a28 := Try.isAgg96
  z28 := Try.sizeOf96
  v28 := Try.zeroValue96
  i26 := by kernel_rfl }
def Try.sort35_ren : Go.Shelf.Ren := ⟨fun | 6 => 35 | 8 => 40 | 9 => 39 | 19 => 51 | 20 => 52 | 21 => 42 | 22 => 43 | 23 => 44 | 24 => 45 | 25 => 46 | 26 => 47 | 27 => 48 | 28 => 49 | 29 => 50 | 36 => 54 | 31 => 55 | 32 => 56 | 37 => 57 | 38 => 58 | 39 => 59 | 41 => 60 | n => n, fun | 27 => 93 | 29 => 9 | 3 => 3 | 32 => 29 | 26 => 93 | 0 => 0 | 44 => 114 | 46 => 116 | 4 => 4 | 36 => 107 | 35 => 106 | 41 => 111 | 5 => 5 | 9 => 9 | 53 => 117 | 57 => 46 | 63 => 122 | 64 => 123 | n => n, fun | n => n⟩
theorem Try.sort35 : Go.Proofs.SlLaysM.n6 Try.prog Try.sort35_ren := {
  mixed := by kernel_rfl
  f6 := ⟨Try.f35.name, by decide, Try.func35.trans (congrArg some (by kernel_rfl))⟩
  f8 := Try.func40.trans (congrArg some (by kernel_rfl))
  f9 := ⟨Try.f39.name, by decide, Try.func39.trans (congrArg some (by kernel_rfl))⟩
  f19 := Try.func51.trans (congrArg some (by kernel_rfl))
  f20 := Try.func52.trans (congrArg some (by kernel_rfl))
  f21 := ⟨Try.f42.name, by decide, Try.func42.trans (congrArg some (by kernel_rfl))⟩
  f22 := ⟨Try.f43.name, by decide, Try.func43.trans (congrArg some (by kernel_rfl))⟩
  f23 := ⟨Try.f44.name, by decide, Try.func44.trans (congrArg some (by kernel_rfl))⟩
  f24 := ⟨Try.f45.name, by decide, Try.func45.trans (congrArg some (by kernel_rfl))⟩
  f25 := ⟨Try.f46.name, by decide, Try.func46.trans (congrArg some (by kernel_rfl))⟩
  f26 := ⟨Try.f47.name, by decide, Try.func47.trans (congrArg some (by kernel_rfl))⟩
  f27 := ⟨Try.f48.name, by decide, Try.func48.trans (congrArg some (by kernel_rfl))⟩
  f28 := ⟨Try.f49.name, by decide, Try.func49.trans (congrArg some (by kernel_rfl))⟩
  f29 := ⟨Try.f50.name, by decide, Try.func50.trans (congrArg some (by kernel_rfl))⟩
  f31 := Try.func55.trans (congrArg some (by kernel_rfl))
  f32 := Try.func56.trans (congrArg some (by kernel_rfl))
  f36 := ⟨Try.f54.name, by decide, Try.func54.trans (congrArg some (by kernel_rfl))⟩
  f37 := ⟨Try.f57.name, by decide, Try.func57.trans (congrArg some (by kernel_rfl))⟩
  f38 := ⟨Try.f58.name, by decide, Try.func58.trans (congrArg some (by kernel_rfl))⟩
  f39 := ⟨Try.f59.name, by decide, Try.func59.trans (congrArg some (by kernel_rfl))⟩
  f41 := ⟨Try.f60.name, by decide, Try.func60.trans (congrArg some (by kernel_rfl))⟩
  t0 := Try.underlying0
  a0 := Try.isAgg0
  z0 := Try.sizeOf0
  v0 := Try.zeroValue0
  t3 := Try.underlying3
  a3 := Try.isAgg3
  z3 := Try.sizeOf3
  v3 := Try.zeroValue3
  t4 := Try.underlying4
  a4 := Try.isAgg4
  z4 := Try.sizeOf4
  v4 := Try.zeroValue4
  t5 := Try.underlying5
  a5 := Try.isAgg5
  z5 := Try.sizeOf5
  v5 := Try.zeroValue5
  t9 := Try.underlying9
  a9 := Try.isAgg9
  z9 := Try.sizeOf9
  v9 := Try.zeroValue9
  t26 := Try.underlying93
  a26 := Try.isAgg93
  z26 := Try.sizeOf93
  v26 := Try.zeroValue93
  t27 := Try.underlying93
  a27 := Try.isAgg93
  z27 := Try.sizeOf93
  v27 := Try.zeroValue93
  t29 := Try.underlying9
  a29 := Try.isAgg9
  z29 := Try.sizeOf9
  v29 := Try.zeroValue9
  t32 := Try.underlying29
  a32 := Try.isAgg29
  z32 := Try.sizeOf29
  v32 := Try.zeroValue29
  t35 := Try.underlying106
  a35 := Try.isAgg106
  z35 := Try.sizeOf106
  v35 := Try.zeroValue106
  t36 := Try.underlying107
  a36 := Try.isAgg107
  z36 := Try.sizeOf107
  v36 := Try.zeroValue107
  t41 := Try.underlying111
  a41 := Try.isAgg111
  z41 := Try.sizeOf111
  v41 := Try.zeroValue111
  t44 := Try.underlying114
  a44 := Try.isAgg114
  z44 := Try.sizeOf114
  v44 := Try.zeroValue114
  t46 := Try.underlying116
  a46 := Try.isAgg116
  z46 := Try.sizeOf116
  v46 := Try.zeroValue116
  t53 := Try.underlying117
  a53 := Try.isAgg117
  z53 := Try.sizeOf117
  v53 := Try.zeroValue117
  t57 := Try.underlying46
  a57 := Try.isAgg46
  z57 := Try.sizeOf46
  v57 := Try.zeroValue46
  t63 := Try.underlying122
  a63 := Try.isAgg122
  z63 := Try.sizeOf122
  v63 := Try.zeroValue122
  t64 := Try.underlying123
  a64 := Try.isAgg123
  z64 := Try.sizeOf123
  v64 := Try.zeroValue123 }
end Go.Proofs
