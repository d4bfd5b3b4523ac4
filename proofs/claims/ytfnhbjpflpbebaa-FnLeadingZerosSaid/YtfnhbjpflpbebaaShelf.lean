/-
  DERIVED: THE SHELF's CONTRACTS AT THIS DUMP, IN PLAIN WORDS (tools/lay-plain.mjs out of 'YtfnhbjpflpbebaaShelf0.lean', which tools/lay-shelf.mjs wrote): THE SAME DECLARATIONS UNDER THE SAME NAMES: 'import', 'namespace', 'open', 'def', 'theorem' AND NOTHING ELSE: no command of the shelf's: FOR A HAND-IN. Each laying: the table of numbers ('.._ren') and one theorem, a field a fact of the dump's own or the kernel's comparison; each contract: ONE APPLICATION.
-/
import Derived.Shelf.Small.Bits
import Derived.Shelf.Strconv.Itoa0
import Derived.Test.YtfnhbjpflpbebaaProg
namespace Go.Proofs
open Go.Shelf
def Try.lays126_ren : Go.Shelf.Ren := ⟨fun | 126 => 82 | n => n, fun | 5 => 5 | 3 => 3 | 9 => 9 | n => n, fun | n => n⟩
theorem Try.lays126 : Go.Proofs.Lays.n126 Try.prog Try.lays126_ren := {
  mixed := by kernel_rfl
  f126 := Try.func82.trans (congrArg some (by kernel_rfl))
  t3 := Try.underlying3
  a3 := Try.isAgg3
  z3 := Try.sizeOf3
  v3 := Try.zeroValue3
  t5 := Try.underlying5
  a5 := Try.isAgg5
  z5 := Try.sizeOf5
  v5 := Try.zeroValue5
  t9 := Try.underlying9
  a9 := Try.isAgg9
  z9 := Try.sizeOf9
  v9 := Try.zeroValue9 }
/-- bits.Len8: "Len8 returns the minimum number of bits required to represent x; the result is 0 for x == 0.": IT RETURNS 'Lib.bitLen x'; the world is as it was. ('h0', 'h1': x is a uint8.) (LAID: no walk: one application.) -/
theorem Try.bits_Len8 (x : Int) (w : World) (h0 : 0 ≤ x) (h1 : x ≤ 255) :
    Calls Try.prog 82 #[.int .u8 x] w fun e w' => e = .returned (.int .i64 (Lib.bitLen x.toNat)) ∧ w' = w := Any.bits_Len8 Try.lays126 x w h0 h1
def Try.lays127_ren : Go.Shelf.Ren := ⟨fun | 127 => 81 | n => n, fun | 49 => 71 | 3 => 3 | 4 => 4 | 46 => 29 | 5 => 5 | 9 => 9 | n => n, fun | n => n⟩
theorem Try.lays127 : Go.Proofs.Lays.n127 Try.prog Try.lays127_ren := {
  mixed := by kernel_rfl
  f127 := Try.func81.trans (congrArg some (by kernel_rfl))
  t3 := Try.underlying3
  a3 := Try.isAgg3
  z3 := Try.sizeOf3
  v3 := Try.zeroValue3
  t4 := Try.underlying4
  a4 := Try.isAgg4
  z4 := Try.sizeOf4
  v4 := Try.zeroValue4
  t5 := Try.underlying5
  a5 := Try.isAgg5
  z5 := Try.sizeOf5
  v5 := Try.zeroValue5
  t9 := Try.underlying9
  a9 := Try.isAgg9
  z9 := Try.sizeOf9
  v9 := Try.zeroValue9
  t46 := Try.underlying29
  a46 := Try.isAgg29
  z46 := Try.sizeOf29
  v46 := Try.zeroValue29
  t49 := Try.underlying71
  a49 := Try.isAgg71
  z49 := Try.sizeOf71
  v49 := Try.zeroValue71 }
/-- bits.Len16: "Len16 returns the minimum number of bits required to represent x; the result is 0 for x == 0.": IT RETURNS 'Lib.bitLen x'; the world is as it was. ('h0', 'h1': x is a uint16.) (LAID: no walk: one application.) -/
theorem Try.bits_Len16 (x : Int) (w : World) (h0 : 0 ≤ x) (h1 : x ≤ 65535) :
    Calls Try.prog 81 #[.int .u16 x] w fun e w' => e = .returned (.int .i64 (Lib.bitLen x.toNat)) ∧ w' = w := Any.bits_Len16 Try.lays127 x w h0 h1
def Try.lays128_ren : Go.Shelf.Ren := ⟨fun | 128 => 80 | n => n, fun | 51 => 69 | 3 => 3 | 4 => 4 | 46 => 29 | 5 => 5 | 9 => 9 | n => n, fun | n => n⟩
theorem Try.lays128 : Go.Proofs.Lays.n128 Try.prog Try.lays128_ren := {
  mixed := by kernel_rfl
  f128 := Try.func80.trans (congrArg some (by kernel_rfl))
  t3 := Try.underlying3
  a3 := Try.isAgg3
  z3 := Try.sizeOf3
  v3 := Try.zeroValue3
  t4 := Try.underlying4
  a4 := Try.isAgg4
  z4 := Try.sizeOf4
  v4 := Try.zeroValue4
  t5 := Try.underlying5
  a5 := Try.isAgg5
  z5 := Try.sizeOf5
  v5 := Try.zeroValue5
  t9 := Try.underlying9
  a9 := Try.isAgg9
  z9 := Try.sizeOf9
  v9 := Try.zeroValue9
  t46 := Try.underlying29
  a46 := Try.isAgg29
  z46 := Try.sizeOf29
  v46 := Try.zeroValue29
  t51 := Try.underlying69
  a51 := Try.isAgg69
  z51 := Try.sizeOf69
  v51 := Try.zeroValue69 }
/-- bits.Len32: "Len32 returns the minimum number of bits required to represent x; the result is 0 for x == 0.": IT RETURNS 'Lib.bitLen x'; the world is as it was. ('h0', 'h1': x is a uint32.) (LAID: no walk: one application.) -/
theorem Try.bits_Len32 (x : Int) (w : World) (h0 : 0 ≤ x) (h1 : x ≤ 4294967295) :
    Calls Try.prog 80 #[.int .u32 x] w fun e w' => e = .returned (.int .i64 (Lib.bitLen x.toNat)) ∧ w' = w := Any.bits_Len32 Try.lays128 x w h0 h1
def Try.lays131_ren : Go.Shelf.Ren := ⟨fun | 131 => 78 | 126 => 82 | n => n, fun | 5 => 5 | 3 => 3 | 9 => 9 | n => n, fun | n => n⟩
theorem Try.lays131 : Go.Proofs.Lays.n131 Try.prog Try.lays131_ren := {
  mixed := by kernel_rfl
  f126 := Try.func82.trans (congrArg some (by kernel_rfl))
  f131 := Try.func78.trans (congrArg some (by kernel_rfl))
  t3 := Try.underlying3
  a3 := Try.isAgg3
  z3 := Try.sizeOf3
  v3 := Try.zeroValue3
  t5 := Try.underlying5
  a5 := Try.isAgg5
  z5 := Try.sizeOf5
  v5 := Try.zeroValue5
  t9 := Try.underlying9
  a9 := Try.isAgg9
  z9 := Try.sizeOf9
  v9 := Try.zeroValue9 }
/-- bits.LeadingZeros8: "LeadingZeros8 returns the number of leading zero bits in x; the result is 8 for x == 0.": IT RETURNS '8 - Lib.bitLen x'; the world is as it was. ITS CALLEE bits.Len8 IS MET BY ITS OWN CONTRACT OFF THE SHELF (lay that first): ENTERED IN PLACE it sends the kernel out of memory. (LAID: no walk: one application.) -/
theorem Try.bits_LeadingZeros8 (x : Int) (w : World) (h0 : 0 ≤ x) (h1 : x ≤ 255) :
    Calls Try.prog 78 #[.int .u8 x] w fun e w' => e = .returned (.int .i64 (8 - (Lib.bitLen x.toNat : Int))) ∧ w' = w := Any.bits_LeadingZeros8 Try.lays131 x w h0 h1
def Try.lays132_ren : Go.Shelf.Ren := ⟨fun | 132 => 77 | 127 => 81 | n => n, fun | 49 => 71 | 3 => 3 | 4 => 4 | 46 => 29 | 5 => 5 | 9 => 9 | n => n, fun | n => n⟩
theorem Try.lays132 : Go.Proofs.Lays.n132 Try.prog Try.lays132_ren := {
  mixed := by kernel_rfl
  f127 := Try.func81.trans (congrArg some (by kernel_rfl))
  f132 := Try.func77.trans (congrArg some (by kernel_rfl))
  t3 := Try.underlying3
  a3 := Try.isAgg3
  z3 := Try.sizeOf3
  v3 := Try.zeroValue3
  t4 := Try.underlying4
  a4 := Try.isAgg4
  z4 := Try.sizeOf4
  v4 := Try.zeroValue4
  t5 := Try.underlying5
  a5 := Try.isAgg5
  z5 := Try.sizeOf5
  v5 := Try.zeroValue5
  t9 := Try.underlying9
  a9 := Try.isAgg9
  z9 := Try.sizeOf9
  v9 := Try.zeroValue9
  t46 := Try.underlying29
  a46 := Try.isAgg29
  z46 := Try.sizeOf29
  v46 := Try.zeroValue29
  t49 := Try.underlying71
  a49 := Try.isAgg71
  z49 := Try.sizeOf71
  v49 := Try.zeroValue71 }
/-- bits.LeadingZeros16: "LeadingZeros16 returns the number of leading zero bits in x; the result is 16 for x == 0.": IT RETURNS '16 - Lib.bitLen x'; the world is as it was. ITS CALLEE bits.Len16 IS MET BY ITS OWN CONTRACT OFF THE SHELF (lay that first): entered in place it sends the kernel out of memory. (LAID: no walk: one application.) -/
theorem Try.bits_LeadingZeros16 (x : Int) (w : World) (h0 : 0 ≤ x) (h1 : x ≤ 65535) :
    Calls Try.prog 77 #[.int .u16 x] w fun e w' => e = .returned (.int .i64 (16 - (Lib.bitLen x.toNat : Int))) ∧ w' = w := Any.bits_LeadingZeros16 Try.lays132 x w h0 h1
def Try.lays133_ren : Go.Shelf.Ren := ⟨fun | 133 => 76 | 128 => 80 | n => n, fun | 51 => 69 | 3 => 3 | 4 => 4 | 46 => 29 | 5 => 5 | 9 => 9 | n => n, fun | n => n⟩
theorem Try.lays133 : Go.Proofs.Lays.n133 Try.prog Try.lays133_ren := {
  mixed := by kernel_rfl
  f128 := Try.func80.trans (congrArg some (by kernel_rfl))
  f133 := Try.func76.trans (congrArg some (by kernel_rfl))
  t3 := Try.underlying3
  a3 := Try.isAgg3
  z3 := Try.sizeOf3
  v3 := Try.zeroValue3
  t4 := Try.underlying4
  a4 := Try.isAgg4
  z4 := Try.sizeOf4
  v4 := Try.zeroValue4
  t5 := Try.underlying5
  a5 := Try.isAgg5
  z5 := Try.sizeOf5
  v5 := Try.zeroValue5
  t9 := Try.underlying9
  a9 := Try.isAgg9
  z9 := Try.sizeOf9
  v9 := Try.zeroValue9
  t46 := Try.underlying29
  a46 := Try.isAgg29
  z46 := Try.sizeOf29
  v46 := Try.zeroValue29
  t51 := Try.underlying69
  a51 := Try.isAgg69
  z51 := Try.sizeOf69
  v51 := Try.zeroValue69 }
/-- bits.LeadingZeros32: "LeadingZeros32 returns the number of leading zero bits in x; the result is 32 for x == 0.": IT RETURNS '32 - Lib.bitLen x'; the world is as it was. ITS CALLEE bits.Len32 IS MET BY ITS OWN CONTRACT OFF THE SHELF (lay that first): entered in place it sends the kernel out of memory. (LAID: no walk: one application.) -/
theorem Try.bits_LeadingZeros32 (x : Int) (w : World) (h0 : 0 ≤ x) (h1 : x ≤ 4294967295) :
    Calls Try.prog 76 #[.int .u32 x] w fun e w' => e = .returned (.int .i64 (32 - (Lib.bitLen x.toNat : Int))) ∧ w' = w := Any.bits_LeadingZeros32 Try.lays133 x w h0 h1
def Try.lays134_ren : Go.Shelf.Ren := ⟨fun | 134 => 75 | 129 => 79 | n => n, fun | 53 => 24 | 3 => 3 | 4 => 4 | 46 => 29 | 5 => 5 | 9 => 9 | n => n, fun | n => n⟩
theorem Try.lays134 : Go.Proofs.Lays.n134 Try.prog Try.lays134_ren := {
  mixed := by kernel_rfl
  f129 := Try.func79.trans (congrArg some (by kernel_rfl))
  f134 := Try.func75.trans (congrArg some (by kernel_rfl))
  t3 := Try.underlying3
  a3 := Try.isAgg3
  z3 := Try.sizeOf3
  v3 := Try.zeroValue3
  t4 := Try.underlying4
  a4 := Try.isAgg4
  z4 := Try.sizeOf4
  v4 := Try.zeroValue4
  t5 := Try.underlying5
  a5 := Try.isAgg5
  z5 := Try.sizeOf5
  v5 := Try.zeroValue5
  t9 := Try.underlying9
  a9 := Try.isAgg9
  z9 := Try.sizeOf9
  v9 := Try.zeroValue9
  t46 := Try.underlying29
  a46 := Try.isAgg29
  z46 := Try.sizeOf29
  v46 := Try.zeroValue29
  t53 := Try.underlying24
  a53 := Try.isAgg24
  z53 := Try.sizeOf24
  v53 := Try.zeroValue24 }
/-- bits.LeadingZeros64: "LeadingZeros64 returns the number of leading zero bits in x; the result is 64 for x == 0.": IT RETURNS '64 - Lib.bitLen x'; the world is as it was. ITS CALLEE bits.Len64 IS MET BY ITS OWN CONTRACT OFF THE SHELF (lay that first): entered in place it sends the kernel out of memory. (LAID: no walk: one application.) -/
theorem Try.bits_LeadingZeros64 (x : Int) (w : World) (h0 : 0 ≤ x) (h1 : x ≤ 18446744073709551615) :
    Calls Try.prog 75 #[.int .u64 x] w fun e w' => e = .returned (.int .i64 (64 - (Lib.bitLen x.toNat : Int))) ∧ w' = w := Any.bits_LeadingZeros64 Try.lays134 x w h0 h1
def Try.lays129_ren : Go.Shelf.Ren := ⟨fun | 129 => 79 | n => n, fun | 53 => 24 | 3 => 3 | 4 => 4 | 46 => 29 | 5 => 5 | 9 => 9 | n => n, fun | n => n⟩
theorem Try.lays129 : Go.Proofs.Lays.n129 Try.prog Try.lays129_ren := {
  mixed := by kernel_rfl
  f129 := Try.func79.trans (congrArg some (by kernel_rfl))
  t3 := Try.underlying3
  a3 := Try.isAgg3
  z3 := Try.sizeOf3
  v3 := Try.zeroValue3
  t4 := Try.underlying4
  a4 := Try.isAgg4
  z4 := Try.sizeOf4
  v4 := Try.zeroValue4
  t5 := Try.underlying5
  a5 := Try.isAgg5
  z5 := Try.sizeOf5
  v5 := Try.zeroValue5
  t9 := Try.underlying9
  a9 := Try.isAgg9
  z9 := Try.sizeOf9
  v9 := Try.zeroValue9
  t46 := Try.underlying29
  a46 := Try.isAgg29
  z46 := Try.sizeOf29
  v46 := Try.zeroValue29
  t53 := Try.underlying24
  a53 := Try.isAgg24
  z53 := Try.sizeOf24
  v53 := Try.zeroValue24 }
/-- bits.Len64: "Len64 returns the minimum number of bits required to represent x; the result is 0 for x == 0.": IT RETURNS 'Lib.bitLen x'; the world is as it was. ('h0', 'h1': x is a uint64.) (LAID: no walk: one application.) -/
theorem Try.bits_Len64 (x : Int) (w : World) (h0 : 0 ≤ x) (h1 : x ≤ 18446744073709551615) :
    Calls Try.prog 79 #[.int .u64 x] w fun e w' => e = .returned (.int .i64 (Lib.bitLen x.toNat)) ∧ w' = w := Any.bits_Len64 Try.lays129 x w h0 h1
end Go.Proofs
