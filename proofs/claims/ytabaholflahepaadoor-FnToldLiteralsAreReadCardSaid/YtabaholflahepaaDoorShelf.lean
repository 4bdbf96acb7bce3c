/-
  DERIVED: THE SHELF's CONTRACTS AT THIS DUMP, IN PLAIN WORDS (tools/lay-plain.mjs out of 'TrydShelf.lean', which tools/lay-shelf.mjs wrote): THE SAME DECLARATIONS UNDER THE SAME NAMES: 'import', 'namespace', 'open', 'def', 'theorem' AND NOTHING ELSE: no command of the shelf's: FOR A HAND-IN. Each laying: the table of numbers ('.._ren') and one theorem, a field a fact of the dump's own or the kernel's comparison; each contract: ONE APPLICATION.
-/
import Derived.Shelf.Small.Bits
import Derived.Test.YtabaholflahepaaDoorProg
namespace Go.Proofs
open Go.Shelf
def Tryd.lays126_ren : Go.Shelf.Ren := ⟨fun | 126 => 112 | n => n, fun | 5 => 5 | 3 => 3 | 9 => 9 | n => n, fun | n => n⟩
theorem Tryd.lays126 : Go.Proofs.Lays.n126 Tryd.prog Tryd.lays126_ren := {
  mixed := by kernel_rfl
  f126 := Tryd.func112.trans (congrArg some (by kernel_rfl))
  t3 := Tryd.underlying3
  a3 := Tryd.isAgg3
  z3 := Tryd.sizeOf3
  v3 := Tryd.zeroValue3
  t5 := Tryd.underlying5
  a5 := Tryd.isAgg5
  z5 := Tryd.sizeOf5
  v5 := Tryd.zeroValue5
  t9 := Tryd.underlying9
  a9 := Tryd.isAgg9
  z9 := Tryd.sizeOf9
  v9 := Tryd.zeroValue9 }
/-- bits.Len8: "Len8 returns the minimum number of bits required to represent x; the result is 0 for x == 0.": IT RETURNS 'Lib.bitLen x'; the world is as it was. ('h0', 'h1': x is a uint8.) (LAID: no walk: one application.) -/
theorem Tryd.bits_Len8 (x : Int) (w : World) (h0 : 0 ≤ x) (h1 : x ≤ 255) :
    Calls Tryd.prog 112 #[.int .u8 x] w fun e w' => e = .returned (.int .i64 (Lib.bitLen x.toNat)) ∧ w' = w := Any.bits_Len8 Tryd.lays126 x w h0 h1
def Tryd.lays127_ren : Go.Shelf.Ren := ⟨fun | 127 => 113 | n => n, fun | 49 => 179 | 3 => 3 | 4 => 4 | 46 => 192 | 5 => 5 | 9 => 9 | n => n, fun | n => n⟩
theorem Tryd.lays127 : Go.Proofs.Lays.n127 Tryd.prog Tryd.lays127_ren := {
  mixed := by kernel_rfl
  f127 := Tryd.func113.trans (congrArg some (by kernel_rfl))
  t3 := Tryd.underlying3
  a3 := Tryd.isAgg3
  z3 := Tryd.sizeOf3
  v3 := Tryd.zeroValue3
  t4 := Tryd.underlying4
  a4 := Tryd.isAgg4
  z4 := Tryd.sizeOf4
  v4 := Tryd.zeroValue4
  t5 := Tryd.underlying5
  a5 := Tryd.isAgg5
  z5 := Tryd.sizeOf5
  v5 := Tryd.zeroValue5
  t9 := Tryd.underlying9
  a9 := Tryd.isAgg9
  z9 := Tryd.sizeOf9
  v9 := Tryd.zeroValue9
  t46 := Tryd.underlying192
  a46 := Tryd.isAgg192
  z46 := Tryd.sizeOf192
  v46 := Tryd.zeroValue192
  t49 := Tryd.underlying179
  a49 := Tryd.isAgg179
  z49 := Tryd.sizeOf179
  v49 := Tryd.zeroValue179 }
/-- bits.Len16: "Len16 returns the minimum number of bits required to represent x; the result is 0 for x == 0.": IT RETURNS 'Lib.bitLen x'; the world is as it was. ('h0', 'h1': x is a uint16.) (LAID: no walk: one application.) -/
theorem Tryd.bits_Len16 (x : Int) (w : World) (h0 : 0 ≤ x) (h1 : x ≤ 65535) :
    Calls Tryd.prog 113 #[.int .u16 x] w fun e w' => e = .returned (.int .i64 (Lib.bitLen x.toNat)) ∧ w' = w := Any.bits_Len16 Tryd.lays127 x w h0 h1
def Tryd.lays128_ren : Go.Shelf.Ren := ⟨fun | 128 => 114 | n => n, fun | 51 => 91 | 3 => 3 | 4 => 4 | 46 => 192 | 5 => 5 | 9 => 9 | n => n, fun | n => n⟩
theorem Tryd.lays128 : Go.Proofs.Lays.n128 Tryd.prog Tryd.lays128_ren := {
  mixed := by kernel_rfl
  f128 := Tryd.func114.trans (congrArg some (by kernel_rfl))
  t3 := Tryd.underlying3
  a3 := Tryd.isAgg3
  z3 := Tryd.sizeOf3
  v3 := Tryd.zeroValue3
  t4 := Tryd.underlying4
  a4 := Tryd.isAgg4
  z4 := Tryd.sizeOf4
  v4 := Tryd.zeroValue4
  t5 := Tryd.underlying5
  a5 := Tryd.isAgg5
  z5 := Tryd.sizeOf5
  v5 := Tryd.zeroValue5
  t9 := Tryd.underlying9
  a9 := Tryd.isAgg9
  z9 := Tryd.sizeOf9
  v9 := Tryd.zeroValue9
  t46 := Tryd.underlying192
  a46 := Tryd.isAgg192
  z46 := Tryd.sizeOf192
  v46 := Tryd.zeroValue192
  t51 := Tryd.underlying91
  a51 := Tryd.isAgg91
  z51 := Tryd.sizeOf91
  v51 := Tryd.zeroValue91 }
/-- bits.Len32: "Len32 returns the minimum number of bits required to represent x; the result is 0 for x == 0.": IT RETURNS 'Lib.bitLen x'; the world is as it was. ('h0', 'h1': x is a uint32.) (LAID: no walk: one application.) -/
theorem Tryd.bits_Len32 (x : Int) (w : World) (h0 : 0 ≤ x) (h1 : x ≤ 4294967295) :
    Calls Tryd.prog 114 #[.int .u32 x] w fun e w' => e = .returned (.int .i64 (Lib.bitLen x.toNat)) ∧ w' = w := Any.bits_Len32 Tryd.lays128 x w h0 h1
def Tryd.lays131_ren : Go.Shelf.Ren := ⟨fun | 131 => 94 | 126 => 112 | n => n, fun | 5 => 5 | 3 => 3 | 9 => 9 | n => n, fun | n => n⟩
theorem Tryd.lays131 : Go.Proofs.Lays.n131 Tryd.prog Tryd.lays131_ren := {
  mixed := by kernel_rfl
  f126 := Tryd.func112.trans (congrArg some (by kernel_rfl))
  f131 := Tryd.func94.trans (congrArg some (by kernel_rfl))
  t3 := Tryd.underlying3
  a3 := Tryd.isAgg3
  z3 := Tryd.sizeOf3
  v3 := Tryd.zeroValue3
  t5 := Tryd.underlying5
  a5 := Tryd.isAgg5
  z5 := Tryd.sizeOf5
  v5 := Tryd.zeroValue5
  t9 := Tryd.underlying9
  a9 := Tryd.isAgg9
  z9 := Tryd.sizeOf9
  v9 := Tryd.zeroValue9 }
/-- bits.LeadingZeros8: "LeadingZeros8 returns the number of leading zero bits in x; the result is 8 for x == 0.": IT RETURNS '8 - Lib.bitLen x'; the world is as it was. ITS CALLEE bits.Len8 IS MET BY ITS OWN CONTRACT OFF THE SHELF (lay that first): ENTERED IN PLACE it sends the kernel out of memory. (LAID: no walk: one application.) -/
theorem Tryd.bits_LeadingZeros8 (x : Int) (w : World) (h0 : 0 ≤ x) (h1 : x ≤ 255) :
    Calls Tryd.prog 94 #[.int .u8 x] w fun e w' => e = .returned (.int .i64 (8 - (Lib.bitLen x.toNat : Int))) ∧ w' = w := Any.bits_LeadingZeros8 Tryd.lays131 x w h0 h1
def Tryd.lays132_ren : Go.Shelf.Ren := ⟨fun | 132 => 96 | 127 => 113 | n => n, fun | 49 => 179 | 3 => 3 | 4 => 4 | 46 => 192 | 5 => 5 | 9 => 9 | n => n, fun | n => n⟩
theorem Tryd.lays132 : Go.Proofs.Lays.n132 Tryd.prog Tryd.lays132_ren := {
  mixed := by kernel_rfl
  f127 := Tryd.func113.trans (congrArg some (by kernel_rfl))
  f132 := Tryd.func96.trans (congrArg some (by kernel_rfl))
  t3 := Tryd.underlying3
  a3 := Tryd.isAgg3
  z3 := Tryd.sizeOf3
  v3 := Tryd.zeroValue3
  t4 := Tryd.underlying4
  a4 := Tryd.isAgg4
  z4 := Tryd.sizeOf4
  v4 := Tryd.zeroValue4
  t5 := Tryd.underlying5
  a5 := Tryd.isAgg5
  z5 := Tryd.sizeOf5
  v5 := Tryd.zeroValue5
  t9 := Tryd.underlying9
  a9 := Tryd.isAgg9
  z9 := Tryd.sizeOf9
  v9 := Tryd.zeroValue9
  t46 := Tryd.underlying192
  a46 := Tryd.isAgg192
  z46 := Tryd.sizeOf192
  v46 := Tryd.zeroValue192
  t49 := Tryd.underlying179
  a49 := Tryd.isAgg179
  z49 := Tryd.sizeOf179
  v49 := Tryd.zeroValue179 }
/-- bits.LeadingZeros16: "LeadingZeros16 returns the number of leading zero bits in x; the result is 16 for x == 0.": IT RETURNS '16 - Lib.bitLen x'; the world is as it was. ITS CALLEE bits.Len16 IS MET BY ITS OWN CONTRACT OFF THE SHELF (lay that first): entered in place it sends the kernel out of memory. (LAID: no walk: one application.) -/
theorem Tryd.bits_LeadingZeros16 (x : Int) (w : World) (h0 : 0 ≤ x) (h1 : x ≤ 65535) :
    Calls Tryd.prog 96 #[.int .u16 x] w fun e w' => e = .returned (.int .i64 (16 - (Lib.bitLen x.toNat : Int))) ∧ w' = w := Any.bits_LeadingZeros16 Tryd.lays132 x w h0 h1
def Tryd.lays133_ren : Go.Shelf.Ren := ⟨fun | 133 => 103 | 128 => 114 | n => n, fun | 51 => 91 | 3 => 3 | 4 => 4 | 46 => 192 | 5 => 5 | 9 => 9 | n => n, fun | n => n⟩
theorem Tryd.lays133 : Go.Proofs.Lays.n133 Tryd.prog Tryd.lays133_ren := {
  mixed := by kernel_rfl
  f128 := Tryd.func114.trans (congrArg some (by kernel_rfl))
  f133 := Tryd.func103.trans (congrArg some (by kernel_rfl))
  t3 := Tryd.underlying3
  a3 := Tryd.isAgg3
  z3 := Tryd.sizeOf3
  v3 := Tryd.zeroValue3
  t4 := Tryd.underlying4
  a4 := Tryd.isAgg4
  z4 := Tryd.sizeOf4
  v4 := Tryd.zeroValue4
  t5 := Tryd.underlying5
  a5 := Tryd.isAgg5
  z5 := Tryd.sizeOf5
  v5 := Tryd.zeroValue5
  t9 := Tryd.underlying9
  a9 := Tryd.isAgg9
  z9 := Tryd.sizeOf9
  v9 := Tryd.zeroValue9
  t46 := Tryd.underlying192
  a46 := Tryd.isAgg192
  z46 := Tryd.sizeOf192
  v46 := Tryd.zeroValue192
  t51 := Tryd.underlying91
  a51 := Tryd.isAgg91
  z51 := Tryd.sizeOf91
  v51 := Tryd.zeroValue91 }
/-- bits.LeadingZeros32: "LeadingZeros32 returns the number of leading zero bits in x; the result is 32 for x == 0.": IT RETURNS '32 - Lib.bitLen x'; the world is as it was. ITS CALLEE bits.Len32 IS MET BY ITS OWN CONTRACT OFF THE SHELF (lay that first): entered in place it sends the kernel out of memory. (LAID: no walk: one application.) -/
theorem Tryd.bits_LeadingZeros32 (x : Int) (w : World) (h0 : 0 ≤ x) (h1 : x ≤ 4294967295) :
    Calls Tryd.prog 103 #[.int .u32 x] w fun e w' => e = .returned (.int .i64 (32 - (Lib.bitLen x.toNat : Int))) ∧ w' = w := Any.bits_LeadingZeros32 Tryd.lays133 x w h0 h1
end Go.Proofs
