import Derived.Shelf.Small.Bits
import Derived.Shelf.Strconv.Itoa0
import Derived.Shelf.Bits.Mul64
import Derived.Test.YbulkbahaProg
namespace Go.Proofs
open Go.Shelf
def Yba.lays128_ren : Go.Shelf.Ren := ⟨fun | 128 => 33 | n => n, fun | 51 => 72 | 3 => 3 | 4 => 4 | 46 => 56 | 5 => 5 | 9 => 9 | n => n, fun | n => n⟩
theorem Yba.lays128 : Go.Proofs.Lays.n128 Yba.prog Yba.lays128_ren := {
  mixed := by kernel_rfl
  f128 := Yba.func33.trans (congrArg some (by kernel_rfl))
  t3 := Yba.underlying3
  a3 := Yba.isAgg3
  z3 := Yba.sizeOf3
  v3 := Yba.zeroValue3
  t4 := Yba.underlying4
  a4 := Yba.isAgg4
  z4 := Yba.sizeOf4
  v4 := Yba.zeroValue4
  t5 := Yba.underlying5
  a5 := Yba.isAgg5
  z5 := Yba.sizeOf5
  v5 := Yba.zeroValue5
  t9 := Yba.underlying9
  a9 := Yba.isAgg9
  z9 := Yba.sizeOf9
  v9 := Yba.zeroValue9
  t46 := Yba.underlying56
  a46 := Yba.isAgg56
  z46 := Yba.sizeOf56
  v46 := Yba.zeroValue56
  t51 := Yba.underlying72
  a51 := Yba.isAgg72
  z51 := Yba.sizeOf72
  v51 := Yba.zeroValue72 }
theorem Yba.bits_Len32 (x : Int) (w : World) (h0 : 0 ≤ x) (h1 : x ≤ 4294967295) :
    Calls Yba.prog 33 #[.int .u32 x] w fun e w' => e = .returned (.int .i64 (Lib.bitLen x.toNat)) ∧ w' = w := Any.bits_Len32 Yba.lays128 x w h0 h1
def Yba.lays125_ren : Go.Shelf.Ren := ⟨fun | 125 => 20 | 128 => 33 | 129 => 15 | n => n, fun | 46 => 56 | 3 => 3 | 51 => 72 | 53 => 22 | 4 => 4 | 5 => 5 | 9 => 9 | n => n, fun | n => n⟩
theorem Yba.lays125 : Go.Proofs.Lays.n125 Yba.prog Yba.lays125_ren := {
  mixed := by kernel_rfl
  f125 := Yba.func20.trans (congrArg some (by kernel_rfl))
  f128 := Yba.func33.trans (congrArg some (by kernel_rfl))
  f129 := Yba.func15.trans (congrArg some (by kernel_rfl))
  t3 := Yba.underlying3
  a3 := Yba.isAgg3
  z3 := Yba.sizeOf3
  v3 := Yba.zeroValue3
  t4 := Yba.underlying4
  a4 := Yba.isAgg4
  z4 := Yba.sizeOf4
  v4 := Yba.zeroValue4
  t5 := Yba.underlying5
  a5 := Yba.isAgg5
  z5 := Yba.sizeOf5
  v5 := Yba.zeroValue5
  t9 := Yba.underlying9
  a9 := Yba.isAgg9
  z9 := Yba.sizeOf9
  v9 := Yba.zeroValue9
  t46 := Yba.underlying56
  a46 := Yba.isAgg56
  z46 := Yba.sizeOf56
  v46 := Yba.zeroValue56
  t51 := Yba.underlying72
  a51 := Yba.isAgg72
  z51 := Yba.sizeOf72
  v51 := Yba.zeroValue72
  t53 := Yba.underlying22
  a53 := Yba.isAgg22
  z53 := Yba.sizeOf22
  v53 := Yba.zeroValue22 }
theorem Yba.bits_Len (x : Int) (w : World) (h0 : 0 ≤ x) (h1 : x ≤ 18446744073709551615) :
    Calls Yba.prog 20 #[.int .u64 x] w fun e w' => e = .returned (.int .i64 (Lib.bitLen x.toNat)) ∧ w' = w := Any.bits_Len Yba.lays125 x w h0 h1
def Yba.lays134_ren : Go.Shelf.Ren := ⟨fun | 134 => 22 | 129 => 15 | n => n, fun | 53 => 22 | 3 => 3 | 4 => 4 | 46 => 56 | 5 => 5 | 9 => 9 | n => n, fun | n => n⟩
theorem Yba.lays134 : Go.Proofs.Lays.n134 Yba.prog Yba.lays134_ren := {
  mixed := by kernel_rfl
  f129 := Yba.func15.trans (congrArg some (by kernel_rfl))
  f134 := Yba.func22.trans (congrArg some (by kernel_rfl))
  t3 := Yba.underlying3
  a3 := Yba.isAgg3
  z3 := Yba.sizeOf3
  v3 := Yba.zeroValue3
  t4 := Yba.underlying4
  a4 := Yba.isAgg4
  z4 := Yba.sizeOf4
  v4 := Yba.zeroValue4
  t5 := Yba.underlying5
  a5 := Yba.isAgg5
  z5 := Yba.sizeOf5
  v5 := Yba.zeroValue5
  t9 := Yba.underlying9
  a9 := Yba.isAgg9
  z9 := Yba.sizeOf9
  v9 := Yba.zeroValue9
  t46 := Yba.underlying56
  a46 := Yba.isAgg56
  z46 := Yba.sizeOf56
  v46 := Yba.zeroValue56
  t53 := Yba.underlying22
  a53 := Yba.isAgg22
  z53 := Yba.sizeOf22
  v53 := Yba.zeroValue22 }
theorem Yba.bits_LeadingZeros64 (x : Int) (w : World) (h0 : 0 ≤ x) (h1 : x ≤ 18446744073709551615) :
    Calls Yba.prog 22 #[.int .u64 x] w fun e w' => e = .returned (.int .i64 (64 - (Lib.bitLen x.toNat : Int))) ∧ w' = w := Any.bits_LeadingZeros64 Yba.lays134 x w h0 h1
def Yba.lays129_ren : Go.Shelf.Ren := ⟨fun | 129 => 15 | n => n, fun | 53 => 22 | 3 => 3 | 4 => 4 | 46 => 56 | 5 => 5 | 9 => 9 | n => n, fun | n => n⟩
theorem Yba.lays129 : Go.Proofs.Lays.n129 Yba.prog Yba.lays129_ren := {
  mixed := by kernel_rfl
  f129 := Yba.func15.trans (congrArg some (by kernel_rfl))
  t3 := Yba.underlying3
  a3 := Yba.isAgg3
  z3 := Yba.sizeOf3
  v3 := Yba.zeroValue3
  t4 := Yba.underlying4
  a4 := Yba.isAgg4
  z4 := Yba.sizeOf4
  v4 := Yba.zeroValue4
  t5 := Yba.underlying5
  a5 := Yba.isAgg5
  z5 := Yba.sizeOf5
  v5 := Yba.zeroValue5
  t9 := Yba.underlying9
  a9 := Yba.isAgg9
  z9 := Yba.sizeOf9
  v9 := Yba.zeroValue9
  t46 := Yba.underlying56
  a46 := Yba.isAgg56
  z46 := Yba.sizeOf56
  v46 := Yba.zeroValue56
  t53 := Yba.underlying22
  a53 := Yba.isAgg22
  z53 := Yba.sizeOf22
  v53 := Yba.zeroValue22 }
theorem Yba.bits_Len64 (x : Int) (w : World) (h0 : 0 ≤ x) (h1 : x ≤ 18446744073709551615) :
    Calls Yba.prog 15 #[.int .u64 x] w fun e w' => e = .returned (.int .i64 (Lib.bitLen x.toNat)) ∧ w' = w := Any.bits_Len64 Yba.lays129 x w h0 h1
def Yba.lays264_ren : Go.Shelf.Ren := ⟨fun | 264 => 23 | n => n, fun | 53 => 22 | 46 => 56 | n => n, fun | n => n⟩
theorem Yba.lays264 : Go.Proofs.Lays.n264 Yba.prog Yba.lays264_ren := {
  mixed := by kernel_rfl
  f264 := Yba.func23.trans (congrArg some (by kernel_rfl))
  t46 := Yba.underlying56
  a46 := Yba.isAgg56
  z46 := Yba.sizeOf56
  v46 := Yba.zeroValue56
  t53 := Yba.underlying22
  a53 := Yba.isAgg22
  z53 := Yba.sizeOf22
  v53 := Yba.zeroValue22 }
open Go.RowKit Go.Lib in
theorem Yba.bits_Mul64 (x y : Nat) (hx : x < 18446744073709551616) (hy : y < 18446744073709551616) (w : World) :
    Calls Yba.prog 23 #[.int .u64 x, .int .u64 y] w fun e w' => e = .returned (.tuple #[.int .u64 ((x * y / 18446744073709551616 : Nat) : Int), .int .u64 ((x * y % 18446744073709551616 : Nat) : Int)]) ∧ w' = w := Any.bits_Mul64 Yba.lays264 x y hx hy w
end Go.Proofs
