import Derived.Shelf.Bin.LEUint32
import Derived.Shelf.Bin.Uvarint
import Derived.Shelf.Bin.ReadersZ
import Derived.Test.Qxb6605965aProg
namespace Go.Proofs
open Go.Shelf
def Try.laysBin30_ren : Go.Shelf.Ren := ⟨fun | 30 => 34 | n => n, fun | 25 => 54 | 22 => 23 | 29 => 47 | 0 => 0 | 5 => 5 | 45 => 25 | n => n, fun | n => n⟩
theorem Try.laysBin30 : Go.Proofs.LaysBin.n30 Try.prog Try.laysBin30_ren := {
  mixed := by kernel_rfl
  f30 := Try.func34.trans (congrArg some (by kernel_rfl))
  t0 := Try.underlying0
  a0 := Try.isAgg0
  z0 := Try.sizeOf0
  v0 := Try.zeroValue0
  i0 := by kernel_rfl
  t5 := Try.underlying5
  a5 := Try.isAgg5
  z5 := Try.sizeOf5
  v5 := Try.zeroValue5
  i5 := by kernel_rfl
  t22 := Try.underlying23
  a22 := Try.isAgg23
  z22 := Try.sizeOf23
  v22 := Try.zeroValue23
  i22 := by kernel_rfl
  t25 := Try.underlying54
  a25 := Try.isAgg54
  z25 := Try.sizeOf54
  v25 := Try.zeroValue54
  i25 := by kernel_rfl
  t29 := Try.underlying47
  a29 := Try.isAgg47
  z29 := Try.sizeOf47
  v29 := Try.zeroValue47
  i29 := by kernel_rfl
  t45 := Try.underlying25
  a45 := Try.isAgg25
  z45 := Try.sizeOf25
  v45 := Try.zeroValue25
  i45 := by kernel_rfl }
open Go.RowKit in
theorem Try.binary_LE_Uint32 (g o n c : Nat) (b0 b1 b2 b3 : UInt8) (w : World) (hn : 4 ≤ n) (c0 : w.cell? ⟨g, o, none⟩ = some (.int .u8 b0.toNat)) (c1 : w.cell? ⟨g, o + 1, none⟩ = some (.int .u8 b1.toNat)) (c2 : w.cell? ⟨g, o + 2, none⟩ = some (.int .u8 b2.toNat)) (c3 : w.cell? ⟨g, o + 3, none⟩ = some (.int .u8 b3.toNat)) :
    Calls Try.prog 34 #[.agg #[], .slice (some ⟨g, o, none⟩) n c] w fun e w' => e = .returned (.int .u32 (Lib.leNat [b0, b1, b2, b3])) ∧ Below w.heap.size w w' := Any.binary_LE_Uint32 Try.laysBin30 g o n c b0 b1 b2 b3 w hn c0 c1 c2 c3
def Try.laysBin45_ren : Go.Shelf.Ren := ⟨fun | 45 => 35 | n => n, fun | 22 => 23 | 33 => 22 | 3 => 3 | 45 => 25 | 0 => 0 | 5 => 5 | 4 => 4 | n => n, fun | n => n⟩
theorem Try.laysBin45 : Go.Proofs.LaysBin.n45 Try.prog Try.laysBin45_ren := {
  mixed := by kernel_rfl
  f45 := Try.func35.trans (congrArg some (by kernel_rfl))
  t0 := Try.underlying0
  a0 := Try.isAgg0
  z0 := Try.sizeOf0
  v0 := Try.zeroValue0
  i0 := by kernel_rfl
  t3 := Try.underlying3
  a3 := Try.isAgg3
  z3 := Try.sizeOf3
  v3 := Try.zeroValue3
  i3 := by kernel_rfl
  t4 := Try.underlying4
  a4 := Try.isAgg4
  z4 := Try.sizeOf4
  v4 := Try.zeroValue4
  i4 := by kernel_rfl
  t5 := Try.underlying5
  a5 := Try.isAgg5
  z5 := Try.sizeOf5
  v5 := Try.zeroValue5
  i5 := by kernel_rfl
  t22 := Try.underlying23
  a22 := Try.isAgg23
  z22 := Try.sizeOf23
  v22 := Try.zeroValue23
  i22 := by kernel_rfl
  t33 := Try.underlying22
  a33 := Try.isAgg22
  z33 := Try.sizeOf22
  v33 := Try.zeroValue22
  i33 := by kernel_rfl
  t45 := Try.underlying25
  a45 := Try.isAgg25
  z45 := Try.sizeOf25
  v45 := Try.zeroValue25
  i45 := by kernel_rfl }
open Go.RowKit in
theorem Try.binary_Uvarint (g o n c : Nat) (l : List UInt8) (w : World) (hl : l.length = n) (hcell : ∀ j (hj : j < l.length), w.cell? ⟨g, o + j, none⟩ = some (.int .u8 (l[j]).toNat)) :
    Calls Try.prog 35 #[.slice (some ⟨g, o, none⟩) n c] w fun e w' => e = .returned (.tuple #[.int .u64 (Lib.uvarintDec l).1, .int .i64 (Lib.uvarintDec l).2]) ∧ w' = w := Any.binary_Uvarint Try.laysBin45 g o n c l w hl hcell
open Go.RowKit in
theorem Try.binary_LE_Uint32_z (a : Addr) (n c : Nat) (zs : List Int) (w : World) (hn : 4 ≤ n) (hl : 4 ≤ zs.length) (hcell : ∀ i, i < zs.length → w.cell? (a.add i) = some (.int .u8 (zs.getD i 0))) (hw : ∀ z ∈ zs, (Lit.int .u8 z).wf = true) :
    Calls Try.prog 34 #[.agg #[], .slice (some a) n c] w fun e w' => e = .returned (.int .u32 (Lib.leZ (zs.take 4))) ∧ Below w.heap.size w w' := Any.binary_LE_Uint32_z Try.laysBin30 a n c zs w hn hl hcell hw
end Go.Proofs
