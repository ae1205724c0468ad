import Derived.Ground.MnProg
import Derived.Shelf.Bin.BEUint16
import Derived.Shelf.Bin.BEUint32
import Derived.Shelf.Bin.BEUint64
import Derived.Test.YbulkbaliFmtProg
namespace Go.Proofs
open Go.Shelf
def Ybaf.laysBin36_ren : Go.Shelf.Ren := ⟨fun | 36 => 13 | n => n, fun | 37 => 54 | 22 => 22 | 23 => 43 | 0 => 0 | 5 => 5 | 45 => 36 | n => n, fun | n => n⟩
theorem Ybaf.laysBin36 : Go.Proofs.LaysBin.n36 Ybaf.prog Ybaf.laysBin36_ren := {
  mixed := by kernel_rfl
  f36 := Ybaf.func13.trans (congrArg some (by kernel_rfl))
  t0 := Ybaf.underlying0
  a0 := Ybaf.isAgg0
  z0 := Ybaf.sizeOf0
  v0 := Ybaf.zeroValue0
  i0 := by kernel_rfl
  t5 := Ybaf.underlying5
  a5 := Ybaf.isAgg5
  z5 := Ybaf.sizeOf5
  v5 := Ybaf.zeroValue5
  i5 := by kernel_rfl
  t22 := Ybaf.underlying22
  a22 := Ybaf.isAgg22
  z22 := Ybaf.sizeOf22
  v22 := Ybaf.zeroValue22
  i22 := by kernel_rfl
  t23 := Ybaf.underlying43
  a23 := Ybaf.isAgg43
  z23 := Ybaf.sizeOf43
  v23 := Ybaf.zeroValue43
  i23 := by kernel_rfl
  t37 := Ybaf.underlying54
  a37 := Ybaf.isAgg54
  z37 := Ybaf.sizeOf54
  v37 := Ybaf.zeroValue54
  i37 := by kernel_rfl
  t45 := Ybaf.underlying36
  a45 := Ybaf.isAgg36
  z45 := Ybaf.sizeOf36
  v45 := Ybaf.zeroValue36
  i45 := by kernel_rfl }
open Go.RowKit in
theorem Ybaf.binary_BE_Uint16 (g o n c : Nat) (b0 b1 : UInt8) (w : World) (hn : 2 ≤ n) (c0 : w.cell? ⟨g, o, none⟩ = some (.int .u8 b0.toNat)) (c1 : w.cell? ⟨g, o + 1, none⟩ = some (.int .u8 b1.toNat)) :
    Calls Ybaf.prog 13 #[.agg #[], .slice (some ⟨g, o, none⟩) n c] w fun e w' => e = .returned (.int .u16 (Lib.beNat [b0, b1])) ∧ Below w.heap.size w w' := Any.binary_BE_Uint16 Ybaf.laysBin36 g o n c b0 b1 w hn c0 c1
def Ybaf.laysBin39_ren : Go.Shelf.Ren := ⟨fun | 39 => 11 | n => n, fun | 37 => 54 | 22 => 22 | 29 => 25 | 0 => 0 | 5 => 5 | 45 => 36 | n => n, fun | n => n⟩
theorem Ybaf.laysBin39 : Go.Proofs.LaysBin.n39 Ybaf.prog Ybaf.laysBin39_ren := {
  mixed := by kernel_rfl
  f39 := Ybaf.func11.trans (congrArg some (by kernel_rfl))
  t0 := Ybaf.underlying0
  a0 := Ybaf.isAgg0
  z0 := Ybaf.sizeOf0
  v0 := Ybaf.zeroValue0
  i0 := by kernel_rfl
  t5 := Ybaf.underlying5
  a5 := Ybaf.isAgg5
  z5 := Ybaf.sizeOf5
  v5 := Ybaf.zeroValue5
  i5 := by kernel_rfl
  t22 := Ybaf.underlying22
  a22 := Ybaf.isAgg22
  z22 := Ybaf.sizeOf22
  v22 := Ybaf.zeroValue22
  i22 := by kernel_rfl
  t29 := Ybaf.underlying25
  a29 := Ybaf.isAgg25
  z29 := Ybaf.sizeOf25
  v29 := Ybaf.zeroValue25
  i29 := by kernel_rfl
  t37 := Ybaf.underlying54
  a37 := Ybaf.isAgg54
  z37 := Ybaf.sizeOf54
  v37 := Ybaf.zeroValue54
  i37 := by kernel_rfl
  t45 := Ybaf.underlying36
  a45 := Ybaf.isAgg36
  z45 := Ybaf.sizeOf36
  v45 := Ybaf.zeroValue36
  i45 := by kernel_rfl }
open Go.RowKit in
theorem Ybaf.binary_BE_Uint32 (g o n c : Nat) (b0 b1 b2 b3 : UInt8) (w : World) (hn : 4 ≤ n) (c0 : w.cell? ⟨g, o, none⟩ = some (.int .u8 b0.toNat)) (c1 : w.cell? ⟨g, o + 1, none⟩ = some (.int .u8 b1.toNat)) (c2 : w.cell? ⟨g, o + 2, none⟩ = some (.int .u8 b2.toNat)) (c3 : w.cell? ⟨g, o + 3, none⟩ = some (.int .u8 b3.toNat)) :
    Calls Ybaf.prog 11 #[.agg #[], .slice (some ⟨g, o, none⟩) n c] w fun e w' => e = .returned (.int .u32 (Lib.beNat [b0, b1, b2, b3])) ∧ Below w.heap.size w w' := Any.binary_BE_Uint32 Ybaf.laysBin39 g o n c b0 b1 b2 b3 w hn c0 c1 c2 c3
def Ybaf.laysBin42_ren : Go.Shelf.Ren := ⟨fun | 42 => 15 | n => n, fun | 37 => 54 | 22 => 22 | 33 => 26 | 0 => 0 | 5 => 5 | 45 => 36 | n => n, fun | n => n⟩
theorem Ybaf.laysBin42 : Go.Proofs.LaysBin.n42 Ybaf.prog Ybaf.laysBin42_ren := {
  mixed := by kernel_rfl
  f42 := Ybaf.func15.trans (congrArg some (by kernel_rfl))
  t0 := Ybaf.underlying0
  a0 := Ybaf.isAgg0
  z0 := Ybaf.sizeOf0
  v0 := Ybaf.zeroValue0
  i0 := by kernel_rfl
  t5 := Ybaf.underlying5
  a5 := Ybaf.isAgg5
  z5 := Ybaf.sizeOf5
  v5 := Ybaf.zeroValue5
  i5 := by kernel_rfl
  t22 := Ybaf.underlying22
  a22 := Ybaf.isAgg22
  z22 := Ybaf.sizeOf22
  v22 := Ybaf.zeroValue22
  i22 := by kernel_rfl
  t33 := Ybaf.underlying26
  a33 := Ybaf.isAgg26
  z33 := Ybaf.sizeOf26
  v33 := Ybaf.zeroValue26
  i33 := by kernel_rfl
  t37 := Ybaf.underlying54
  a37 := Ybaf.isAgg54
  z37 := Ybaf.sizeOf54
  v37 := Ybaf.zeroValue54
  i37 := by kernel_rfl
  t45 := Ybaf.underlying36
  a45 := Ybaf.isAgg36
  z45 := Ybaf.sizeOf36
  v45 := Ybaf.zeroValue36
  i45 := by kernel_rfl }
open Go.RowKit in
theorem Ybaf.binary_BE_Uint64 (g o n c : Nat) (b0 b1 b2 b3 b4 b5 b6 b7 : UInt8) (w : World) (hn : 8 ≤ n) (c0 : w.cell? ⟨g, o, none⟩ = some (.int .u8 b0.toNat)) (c1 : w.cell? ⟨g, o + 1, none⟩ = some (.int .u8 b1.toNat)) (c2 : w.cell? ⟨g, o + 2, none⟩ = some (.int .u8 b2.toNat)) (c3 : w.cell? ⟨g, o + 3, none⟩ = some (.int .u8 b3.toNat)) (c4 : w.cell? ⟨g, o + 4, none⟩ = some (.int .u8 b4.toNat)) (c5 : w.cell? ⟨g, o + 5, none⟩ = some (.int .u8 b5.toNat)) (c6 : w.cell? ⟨g, o + 6, none⟩ = some (.int .u8 b6.toNat)) (c7 : w.cell? ⟨g, o + 7, none⟩ = some (.int .u8 b7.toNat)) :
    Calls Ybaf.prog 15 #[.agg #[], .slice (some ⟨g, o, none⟩) n c] w fun e w' => e = .returned (.int .u64 (Lib.beNat [b0, b1, b2, b3, b4, b5, b6, b7])) ∧ Below w.heap.size w w' := Any.binary_BE_Uint64 Ybaf.laysBin42 g o n c b0 b1 b2 b3 b4 b5 b6 b7 w hn c0 c1 c2 c3 c4 c5 c6 c7
end Go.Proofs
