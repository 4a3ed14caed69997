/-
  DERIVED: THE SHELF's CONTRACTS AT THIS DUMP, IN PLAIN WORDS (tools/lay-plain.mjs out of 'Qxb6628937aFmtShelf.lean', which tools/lay-shelf.mjs wrote): THE SAME DECLARATIONS UNDER THE SAME NAMES: 'import', 'namespace', 'open', 'def', 'theorem' AND NOTHING ELSE: no command of the shelf's: FOR A HAND-IN. Each laying: the table of numbers ('.._ren') and one theorem, a field a fact of the dump's own or the kernel's comparison; each contract: ONE APPLICATION.
-/
import Derived.Test.Qxb6628937aFmtProg
import Derived.Shelf.Sort.Plain
namespace Go.Proofs
open Go.Shelf
def Tryf.lays190_ren : Go.Shelf.Ren := ⟨fun | 190 => 13 | 125 => 17 | 258 => 16 | 128 => 27 | 129 => 28 | 302 => 18 | 303 => 19 | 304 => 20 | 305 => 21 | 306 => 22 | 307 => 23 | 308 => 24 | 309 => 25 | 310 => 26 | 333 => 29 | 329 => 30 | 330 => 31 | 334 => 32 | 335 => 33 | 336 => 34 | 344 => 35 | n => n, fun | 31 => 22 | 9 => 9 | 3 => 3 | 46 => 50 | 0 => 0 | 51 => 64 | 53 => 66 | 4 => 4 | 183 => 56 | 182 => 55 | 131 => 61 | 5 => 5 | 218 => 67 | 222 => 71 | 228 => 74 | 229 => 75 | n => n, fun | n => n⟩
theorem Tryf.lays190 : Go.Proofs.Lays.n190 Tryf.prog Tryf.lays190_ren := {
  mixed := by kernel_rfl
  f125 := Tryf.func17.trans (congrArg some (by kernel_rfl))
  f128 := Tryf.func27.trans (congrArg some (by kernel_rfl))
  f129 := Tryf.func28.trans (congrArg some (by kernel_rfl))
  f190 := Tryf.func13.trans (congrArg some (by kernel_rfl))
  f258 := Tryf.func16.trans (congrArg some (by kernel_rfl))
  f302 := Tryf.func18.trans (congrArg some (by kernel_rfl))
  f303 := Tryf.func19.trans (congrArg some (by kernel_rfl))
  f304 := Tryf.func20.trans (congrArg some (by kernel_rfl))
  f305 := Tryf.func21.trans (congrArg some (by kernel_rfl))
  f306 := Tryf.func22.trans (congrArg some (by kernel_rfl))
  f307 := Tryf.func23.trans (congrArg some (by kernel_rfl))
  f308 := Tryf.func24.trans (congrArg some (by kernel_rfl))
  f309 := Tryf.func25.trans (congrArg some (by kernel_rfl))
  f310 := Tryf.func26.trans (congrArg some (by kernel_rfl))
  f329 := Tryf.func30.trans (congrArg some (by kernel_rfl))
  f330 := Tryf.func31.trans (congrArg some (by kernel_rfl))
  f333 := Tryf.func29.trans (congrArg some (by kernel_rfl))
  f334 := Tryf.func32.trans (congrArg some (by kernel_rfl))
  f335 := Tryf.func33.trans (congrArg some (by kernel_rfl))
  f336 := Tryf.func34.trans (congrArg some (by kernel_rfl))
  f344 := Tryf.func35.trans (congrArg some (by kernel_rfl))
  t0 := Tryf.underlying0
  a0 := Tryf.isAgg0
  z0 := Tryf.sizeOf0
  v0 := Tryf.zeroValue0
  t3 := Tryf.underlying3
  a3 := Tryf.isAgg3
  z3 := Tryf.sizeOf3
  v3 := Tryf.zeroValue3
  t4 := Tryf.underlying4
  a4 := Tryf.isAgg4
  z4 := Tryf.sizeOf4
  v4 := Tryf.zeroValue4
  t5 := Tryf.underlying5
  a5 := Tryf.isAgg5
  z5 := Tryf.sizeOf5
  v5 := Tryf.zeroValue5
  t9 := Tryf.underlying9
  a9 := Tryf.isAgg9
  z9 := Tryf.sizeOf9
  v9 := Tryf.zeroValue9
  t31 := Tryf.underlying22
  a31 := Tryf.isAgg22
  z31 := Tryf.sizeOf22
  v31 := Tryf.zeroValue22
  t46 := Tryf.underlying50
  a46 := Tryf.isAgg50
  z46 := Tryf.sizeOf50
  v46 := Tryf.zeroValue50
  t51 := Tryf.underlying64
  a51 := Tryf.isAgg64
  z51 := Tryf.sizeOf64
  v51 := Tryf.zeroValue64
  t53 := Tryf.underlying66
  a53 := Tryf.isAgg66
  z53 := Tryf.sizeOf66
  v53 := Tryf.zeroValue66
  t131 := Tryf.underlying61
  a131 := Tryf.isAgg61
  z131 := Tryf.sizeOf61
  v131 := Tryf.zeroValue61
  t182 := Tryf.underlying55
  a182 := Tryf.isAgg55
  z182 := Tryf.sizeOf55
  v182 := Tryf.zeroValue55
  t183 := Tryf.underlying56
  a183 := Tryf.isAgg56
  z183 := Tryf.sizeOf56
  v183 := Tryf.zeroValue56
  t218 := Tryf.underlying67
  a218 := Tryf.isAgg67
  z218 := Tryf.sizeOf67
  v218 := Tryf.zeroValue67
  t222 := Tryf.underlying71
  a222 := Tryf.isAgg71
  z222 := Tryf.sizeOf71
  v222 := Tryf.zeroValue71
  t228 := Tryf.underlying74
  a228 := Tryf.isAgg74
  z228 := Tryf.sizeOf74
  v228 := Tryf.zeroValue74
  t229 := Tryf.underlying75
  a229 := Tryf.isAgg75
  z229 := Tryf.sizeOf75
  v229 := Tryf.zeroValue75 }
end Go.Proofs
