/-
  DERIVED: THE SHELF's CONTRACTS AT THIS DUMP, IN PLAIN WORDS (tools/lay-plain.mjs out of 'TryShelf.lean', which tools/lay-shelf.mjs wrote): THE SAME DECLARATIONS UNDER THE SAME NAMES: 'import', 'namespace', 'open', 'def', 'theorem' AND NOTHING ELSE: no command of the shelf's: FOR A HAND-IN. Each laying: the table of numbers ('.._ren') and one theorem, a field a fact of the dump's own or the kernel's comparison; each contract: ONE APPLICATION.
-/
import Derived.Shelf.Small.Bits
import Derived.Shelf.Strconv.Itoa0
import Derived.Shelf.Sort.Plain
import Derived.Shelf.Slices.Turned
import Derived.Shelf.Slices.Equal
import Derived.Ground.Names2Prog
import Derived.Shelf.Slices.SearchI
import Derived.Shelf.Slices.In.SortNone
import Derived.Shelf.Slices.Empties2
import Derived.Test.YtphhkphibdiahaaProg
namespace Go.Proofs
open Go.Shelf
def Try.lays128_ren : Go.Shelf.Ren := ⟨fun | 128 => 57 | n => n, fun | 51 => 93 | 3 => 3 | 4 => 4 | 46 => 68 | 5 => 5 | 9 => 9 | n => n, fun | n => n⟩
theorem Try.lays128 : Go.Proofs.Lays.n128 Try.prog Try.lays128_ren := {
  mixed := by kernel_rfl
  f128 := Try.func57.trans (congrArg some (by kernel_rfl))
  t3 := Try.underlying3
  a3 := Try.isAgg3
  z3 := Try.sizeOf3
  v3 := Try.zeroValue3
  t4 := Try.underlying4
  a4 := Try.isAgg4
  z4 := Try.sizeOf4
  v4 := Try.zeroValue4
  t5 := Try.underlying5
  a5 := Try.isAgg5
  z5 := Try.sizeOf5
  v5 := Try.zeroValue5
  t9 := Try.underlying9
  a9 := Try.isAgg9
  z9 := Try.sizeOf9
  v9 := Try.zeroValue9
  t46 := Try.underlying68
  a46 := Try.isAgg68
  z46 := Try.sizeOf68
  v46 := Try.zeroValue68
  t51 := Try.underlying93
  a51 := Try.isAgg93
  z51 := Try.sizeOf93
  v51 := Try.zeroValue93 }
/-- bits.Len32: "Len32 returns the minimum number of bits required to represent x; the result is 0 for x == 0.": IT RETURNS 'Lib.bitLen x'; the world is as it was. ('h0', 'h1': x is a uint32.) (LAID: no walk: one application.) -/
theorem Try.bits_Len32 (x : Int) (w : World) (h0 : 0 ≤ x) (h1 : x ≤ 4294967295) :
    Calls Try.prog 57 #[.int .u32 x] w fun e w' => e = .returned (.int .i64 (Lib.bitLen x.toNat)) ∧ w' = w := Any.bits_Len32 Try.lays128 x w h0 h1
def Try.lays125_ren : Go.Shelf.Ren := ⟨fun | 125 => 32 | 128 => 57 | 129 => 58 | n => n, fun | 46 => 68 | 3 => 3 | 51 => 93 | 53 => 95 | 4 => 4 | 5 => 5 | 9 => 9 | n => n, fun | n => n⟩
theorem Try.lays125 : Go.Proofs.Lays.n125 Try.prog Try.lays125_ren := {
  mixed := by kernel_rfl
  f125 := Try.func32.trans (congrArg some (by kernel_rfl))
  f128 := Try.func57.trans (congrArg some (by kernel_rfl))
  f129 := Try.func58.trans (congrArg some (by kernel_rfl))
  t3 := Try.underlying3
  a3 := Try.isAgg3
  z3 := Try.sizeOf3
  v3 := Try.zeroValue3
  t4 := Try.underlying4
  a4 := Try.isAgg4
  z4 := Try.sizeOf4
  v4 := Try.zeroValue4
  t5 := Try.underlying5
  a5 := Try.isAgg5
  z5 := Try.sizeOf5
  v5 := Try.zeroValue5
  t9 := Try.underlying9
  a9 := Try.isAgg9
  z9 := Try.sizeOf9
  v9 := Try.zeroValue9
  t46 := Try.underlying68
  a46 := Try.isAgg68
  z46 := Try.sizeOf68
  v46 := Try.zeroValue68
  t51 := Try.underlying93
  a51 := Try.isAgg93
  z51 := Try.sizeOf93
  v51 := Try.zeroValue93
  t53 := Try.underlying95
  a53 := Try.isAgg95
  z53 := Try.sizeOf95
  v53 := Try.zeroValue95 }
/-- bits.Len: "Len returns the minimum number of bits required to represent x; the result is 0 for x == 0.": IT RETURNS 'Lib.bitLen x'; the world is as it was. (A uint has 64 bits in the model.) ITS CALLEE bits.Len64 IS MET BY ITS OWN CONTRACT OFF THE SHELF (lay that first). (LAID: no walk: one application.) -/
theorem Try.bits_Len (x : Int) (w : World) (h0 : 0 ≤ x) (h1 : x ≤ 18446744073709551615) :
    Calls Try.prog 32 #[.int .u64 x] w fun e w' => e = .returned (.int .i64 (Lib.bitLen x.toNat)) ∧ w' = w := Any.bits_Len Try.lays125 x w h0 h1
def Try.lays129_ren : Go.Shelf.Ren := ⟨fun | 129 => 58 | n => n, fun | 53 => 95 | 3 => 3 | 4 => 4 | 46 => 68 | 5 => 5 | 9 => 9 | n => n, fun | n => n⟩
theorem Try.lays129 : Go.Proofs.Lays.n129 Try.prog Try.lays129_ren := {
  mixed := by kernel_rfl
  f129 := Try.func58.trans (congrArg some (by kernel_rfl))
  t3 := Try.underlying3
  a3 := Try.isAgg3
  z3 := Try.sizeOf3
  v3 := Try.zeroValue3
  t4 := Try.underlying4
  a4 := Try.isAgg4
  z4 := Try.sizeOf4
  v4 := Try.zeroValue4
  t5 := Try.underlying5
  a5 := Try.isAgg5
  z5 := Try.sizeOf5
  v5 := Try.zeroValue5
  t9 := Try.underlying9
  a9 := Try.isAgg9
  z9 := Try.sizeOf9
  v9 := Try.zeroValue9
  t46 := Try.underlying68
  a46 := Try.isAgg68
  z46 := Try.sizeOf68
  v46 := Try.zeroValue68
  t53 := Try.underlying95
  a53 := Try.isAgg95
  z53 := Try.sizeOf95
  v53 := Try.zeroValue95 }
/-- bits.Len64: "Len64 returns the minimum number of bits required to represent x; the result is 0 for x == 0.": IT RETURNS 'Lib.bitLen x'; the world is as it was. ('h0', 'h1': x is a uint64.) (LAID: no walk: one application.) -/
theorem Try.bits_Len64 (x : Int) (w : World) (h0 : 0 ≤ x) (h1 : x ≤ 18446744073709551615) :
    Calls Try.prog 58 #[.int .u64 x] w fun e w' => e = .returned (.int .i64 (Lib.bitLen x.toNat)) ∧ w' = w := Any.bits_Len64 Try.lays129 x w h0 h1
def Try.lays189_ren : Go.Shelf.Ren := ⟨fun | 189 => 12 | 125 => 32 | 257 => 31 | 128 => 57 | 129 => 58 | 294 => 48 | 295 => 49 | 296 => 50 | 297 => 51 | 298 => 52 | 299 => 53 | 216 => 54 | 300 => 55 | 301 => 56 | 328 => 82 | 329 => 83 | 330 => 84 | 331 => 85 | 332 => 86 | 215 => 87 | 343 => 99 | n => n, fun | 28 => 34 | 3 => 3 | 46 => 68 | 0 => 0 | 51 => 93 | 53 => 95 | 4 => 4 | 183 => 85 | 182 => 84 | 131 => 90 | 5 => 5 | 9 => 9 | 218 => 119 | 222 => 123 | 228 => 135 | 229 => 136 | n => n, fun | n => n⟩
theorem Try.lays189 : Go.Proofs.Lays.n189 Try.prog Try.lays189_ren := {
  mixed := by kernel_rfl
  f125 := Try.func32.trans (congrArg some (by kernel_rfl))
  f128 := Try.func57.trans (congrArg some (by kernel_rfl))
  f129 := Try.func58.trans (congrArg some (by kernel_rfl))
  f189 := Try.func12.trans (congrArg some (by kernel_rfl))
  f215 := Try.func87.trans (congrArg some (by kernel_rfl))
  f216 := Try.func54.trans (congrArg some (by kernel_rfl))
  f257 := Try.func31.trans (congrArg some (by kernel_rfl))
  f294 := Try.func48.trans (congrArg some (by kernel_rfl))
  f295 := Try.func49.trans (congrArg some (by kernel_rfl))
  f296 := Try.func50.trans (congrArg some (by kernel_rfl))
  f297 := Try.func51.trans (congrArg some (by kernel_rfl))
  f298 := Try.func52.trans (congrArg some (by kernel_rfl))
  f299 := Try.func53.trans (congrArg some (by kernel_rfl))
  f300 := Try.func55.trans (congrArg some (by kernel_rfl))
  f301 := Try.func56.trans (congrArg some (by kernel_rfl))
  f328 := Try.func82.trans (congrArg some (by kernel_rfl))
  f329 := Try.func83.trans (congrArg some (by kernel_rfl))
  f330 := Try.func84.trans (congrArg some (by kernel_rfl))
  f331 := Try.func85.trans (congrArg some (by kernel_rfl))
  f332 := Try.func86.trans (congrArg some (by kernel_rfl))
  f343 := Try.func99.trans (congrArg some (by kernel_rfl))
  t0 := Try.underlying0
  a0 := Try.isAgg0
  z0 := Try.sizeOf0
  v0 := Try.zeroValue0
  t3 := Try.underlying3
  a3 := Try.isAgg3
  z3 := Try.sizeOf3
  v3 := Try.zeroValue3
  t4 := Try.underlying4
  a4 := Try.isAgg4
  z4 := Try.sizeOf4
  v4 := Try.zeroValue4
  t5 := Try.underlying5
  a5 := Try.isAgg5
  z5 := Try.sizeOf5
  v5 := Try.zeroValue5
  t9 := Try.underlying9
  a9 := Try.isAgg9
  z9 := Try.sizeOf9
  v9 := Try.zeroValue9
  t28 := Try.underlying34
  a28 := Try.isAgg34
  z28 := Try.sizeOf34
  v28 := Try.zeroValue34
  t46 := Try.underlying68
  a46 := Try.isAgg68
  z46 := Try.sizeOf68
  v46 := Try.zeroValue68
  t51 := Try.underlying93
  a51 := Try.isAgg93
  z51 := Try.sizeOf93
  v51 := Try.zeroValue93
  t53 := Try.underlying95
  a53 := Try.isAgg95
  z53 := Try.sizeOf95
  v53 := Try.zeroValue95
  t131 := Try.underlying90
  a131 := Try.isAgg90
  z131 := Try.sizeOf90
  v131 := Try.zeroValue90
  t182 := Try.underlying84
  a182 := Try.isAgg84
  z182 := Try.sizeOf84
  v182 := Try.zeroValue84
  t183 := Try.underlying85
  a183 := Try.isAgg85
  z183 := Try.sizeOf85
  v183 := Try.zeroValue85
  t218 := Try.underlying119
  a218 := Try.isAgg119
  z218 := Try.sizeOf119
  v218 := Try.zeroValue119
  t222 := Try.underlying123
  a222 := Try.isAgg123
  z222 := Try.sizeOf123
  v222 := Try.zeroValue123
  t228 := Try.underlying135
  a228 := Try.isAgg135
  z228 := Try.sizeOf135
  v228 := Try.zeroValue135
  t229 := Try.underlying136
  a229 := Try.isAgg136
  z229 := Try.sizeOf136
  v229 := Try.zeroValue136 }
def Try.lays108_ren : Go.Shelf.Ren := ⟨fun | 108 => 30 | n => n, fun | 28 => 34 | 3 => 3 | 0 => 0 | 4 => 4 | n => n, fun | n => n⟩
theorem Try.lays108 : Go.Proofs.Lays.n108 Try.prog Try.lays108_ren := {
  mixed := by kernel_rfl
  f108 := Try.func30.trans (congrArg some (by kernel_rfl))
  t0 := Try.underlying0
  a0 := Try.isAgg0
  z0 := Try.sizeOf0
  v0 := Try.zeroValue0
  t3 := Try.underlying3
  a3 := Try.isAgg3
  z3 := Try.sizeOf3
  v3 := Try.zeroValue3
  t4 := Try.underlying4
  a4 := Try.isAgg4
  z4 := Try.sizeOf4
  v4 := Try.zeroValue4
  t28 := Try.underlying34
  a28 := Try.isAgg34
  z28 := Try.sizeOf34
  v28 := Try.zeroValue34 }
def Try.lays107_ren : Go.Shelf.Ren := ⟨fun | 107 => 11 | 108 => 30 | n => n, fun | 28 => 34 | 3 => 3 | 4 => 4 | 0 => 0 | n => n, fun | n => n⟩
theorem Try.lays107 : Go.Proofs.Lays.n107 Try.prog Try.lays107_ren := {
  mixed := by kernel_rfl
  f107 := Try.func11.trans (congrArg some (by kernel_rfl))
  f108 := Try.func30.trans (congrArg some (by kernel_rfl))
  t0 := Try.underlying0
  a0 := Try.isAgg0
  z0 := Try.sizeOf0
  v0 := Try.zeroValue0
  t3 := Try.underlying3
  a3 := Try.isAgg3
  z3 := Try.sizeOf3
  v3 := Try.zeroValue3
  t4 := Try.underlying4
  a4 := Try.isAgg4
  z4 := Try.sizeOf4
  v4 := Try.zeroValue4
  t28 := Try.underlying34
  a28 := Try.isAgg34
  z28 := Try.sizeOf34
  v28 := Try.zeroValue34 }
def Try.lays111_ren : Go.Shelf.Ren := ⟨fun | 111 => 13 | n => n, fun | 28 => 34 | 3 => 3 | 4 => 4 | 0 => 0 | n => n, fun | n => n⟩
theorem Try.lays111 : Go.Proofs.Lays.n111 Try.prog Try.lays111_ren := {
  mixed := by kernel_rfl
  f111 := Try.func13.trans (congrArg some (by kernel_rfl))
  t0 := Try.underlying0
  a0 := Try.isAgg0
  z0 := Try.sizeOf0
  v0 := Try.zeroValue0
  t3 := Try.underlying3
  a3 := Try.isAgg3
  z3 := Try.sizeOf3
  v3 := Try.zeroValue3
  t4 := Try.underlying4
  a4 := Try.isAgg4
  z4 := Try.sizeOf4
  v4 := Try.zeroValue4
  t28 := Try.underlying34
  a28 := Try.isAgg34
  z28 := Try.sizeOf34
  v28 := Try.zeroValue34 }
def Try.laysNm237_ren : Go.Shelf.Ren := ⟨fun | 37 => 87 | n => n, fun | 3 => 3 | 4 => 4 | n => n, fun | n => n⟩
theorem Try.laysNm237 : Go.Proofs.Lays2.n37 Try.prog Try.laysNm237_ren := {
  mixed := by kernel_rfl
  f37 := Try.func87.trans (congrArg some (by kernel_rfl))
  t3 := Try.underlying3
  a3 := Try.isAgg3
  z3 := Try.sizeOf3
  v3 := Try.zeroValue3
  t4 := Try.underlying4
  a4 := Try.isAgg4
  z4 := Try.sizeOf4
  v4 := Try.zeroValue4 }
def Try.laysNm231_ren : Go.Shelf.Ren := ⟨fun | 31 => 54 | 37 => 87 | n => n, fun | 3 => 3 | 4 => 4 | n => n, fun | n => n⟩
theorem Try.laysNm231 : Go.Proofs.Lays2.n31 Try.prog Try.laysNm231_ren := {
  mixed := by kernel_rfl
  f31 := Try.func54.trans (congrArg some (by kernel_rfl))
  f37 := Try.func87.trans (congrArg some (by kernel_rfl))
  t3 := Try.underlying3
  a3 := Try.isAgg3
  z3 := Try.sizeOf3
  v3 := Try.zeroValue3
  t4 := Try.underlying4
  a4 := Try.isAgg4
  z4 := Try.sizeOf4
  v4 := Try.zeroValue4 }
end Go.Proofs
