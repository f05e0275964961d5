/- The shelf's two contracts that this seat's road meets, laid at this dump in plain words. -/
import Derived.Shelf.Bin.ReadersZ
import Derived.Shelf.Spec.TrailingZeros
import Derived.Test.YbulkdwqcDoorProg
namespace Go.Proofs
open Go.Shelf
def Ybad.laysBin33_ren : Go.Shelf.Ren := ⟨fun | 33 => 20 | n => n, fun | 25 => 44 | 22 => 22 | 33 => 23 | 0 => 0 | 5 => 5 | 45 => 36 | n => n, fun | n => n⟩
theorem Ybad.laysBin33 : Go.Proofs.LaysBin.n33 Ybad.prog Ybad.laysBin33_ren := {
  mixed := by kernel_rfl
  f33 := Ybad.func20.trans (congrArg some (by kernel_rfl))
  t0 := Ybad.underlying0
  a0 := Ybad.isAgg0
  z0 := Ybad.sizeOf0
  v0 := Ybad.zeroValue0
  i0 := by kernel_rfl
  t5 := Ybad.underlying5
  a5 := Ybad.isAgg5
  z5 := Ybad.sizeOf5
  v5 := Ybad.zeroValue5
  i5 := by kernel_rfl
  t22 := Ybad.underlying22
  a22 := Ybad.isAgg22
  z22 := Ybad.sizeOf22
  v22 := Ybad.zeroValue22
  i22 := by kernel_rfl
  t25 := Ybad.underlying44
  a25 := Ybad.isAgg44
  z25 := Ybad.sizeOf44
  v25 := Ybad.zeroValue44
  i25 := by kernel_rfl
  t33 := Ybad.underlying23
  a33 := Ybad.isAgg23
  z33 := Ybad.sizeOf23
  v33 := Ybad.zeroValue23
  i33 := by kernel_rfl
  t45 := Ybad.underlying36
  a45 := Ybad.isAgg36
  z45 := Ybad.sizeOf36
  v45 := Ybad.zeroValue36
  i45 := by kernel_rfl }
open Go.RowKit in
theorem Ybad.binary_LE_Uint64_z (a : Addr) (n c : Nat) (zs : List Int) (w : World) (hn : 8 ≤ n) (hl : 8 ≤ zs.length) (hcell : ∀ i, i < zs.length → w.cell? (a.add i) = some (.int .u8 (zs.getD i 0))) (hw : ∀ z ∈ zs, (Lit.int .u8 z).wf = true) :
    Calls Ybad.prog 20 #[.agg #[], .slice (some a) n c] w fun e w' => e = .returned (.int .u64 (Lib.leZ (zs.take 8))) ∧ Below w.heap.size w w' := Any.binary_LE_Uint64_z Ybad.laysBin33 a n c zs w hn hl hcell hw
def Ybad.lays29_ren : Go.Shelf.Ren := ⟨fun | 29 => 21 | n => n, fun | 22 => 23 | 3 => 3 | 4 => 4 | 25 => 36 | 54 => 48 | 0 => 0 | 5 => 5 | n => n, fun | 1 => 3 | n => n⟩
theorem Ybad.lays29 : Go.Proofs.Lays7.n29 Ybad.prog Ybad.lays29_ren := {
  mixed := by kernel_rfl
  f29 := Ybad.func21.trans (congrArg some (by kernel_rfl))
  t0 := Ybad.underlying0
  a0 := Ybad.isAgg0
  z0 := Ybad.sizeOf0
  v0 := Ybad.zeroValue0
  i0 := by kernel_rfl
  t3 := Ybad.underlying3
  a3 := Ybad.isAgg3
  z3 := Ybad.sizeOf3
  v3 := Ybad.zeroValue3
  i3 := by kernel_rfl
  t4 := Ybad.underlying4
  a4 := Ybad.isAgg4
  z4 := Ybad.sizeOf4
  v4 := Ybad.zeroValue4
  i4 := by kernel_rfl
  t5 := Ybad.underlying5
  a5 := Ybad.isAgg5
  z5 := Ybad.sizeOf5
  v5 := Ybad.zeroValue5
  i5 := by kernel_rfl
  t22 := Ybad.underlying23
  a22 := Ybad.isAgg23
  z22 := Ybad.sizeOf23
  v22 := Ybad.zeroValue23
  i22 := by kernel_rfl
  t25 := Ybad.underlying36
  a25 := Ybad.isAgg36
  z25 := Ybad.sizeOf36
  v25 := Ybad.zeroValue36
  i25 := by kernel_rfl
  t54 := Ybad.underlying48
  a54 := Ybad.isAgg48
  z54 := Ybad.sizeOf48
  g1 := by kernel_rfl }
open Go.RowKit in
theorem Ybad.trailingZeros64 (x : Nat) (hx : x < 18446744073709551616) (w : World) (hT : x ≠ 0 → TabAt 3 Lib.deBruijn64tab w) :
    Calls Ybad.prog 21 #[.int .u64 x] w fun e w' => e = .returned (.int .i64 (Lib.ctz 64 x)) ∧ w' = w := Any7.bits_TrailingZeros64 Ybad.lays29 x hx w hT
end Go.Proofs
