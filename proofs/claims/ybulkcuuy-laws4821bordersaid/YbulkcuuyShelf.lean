import Derived.Shelf.Bin.BEUint64
import Derived.Shelf.Bin.BEUint64Panics
import Derived.Shelf.Bin.ReadersZ
import Derived.Test.YbulkcuuyRows
namespace Go.Proofs
open Go.Shelf
def Yba.laysBin42_ren : Go.Shelf.Ren := ⟨fun | 42 => 9 | n => n, fun | 37 => 33 | 22 => 35 | 33 => 23 | 0 => 0 | 5 => 5 | 45 => 36 | n => n, fun | n => n⟩
theorem Yba.laysBin42 : Go.Proofs.LaysBin.n42 Yba.prog Yba.laysBin42_ren := {
  mixed := by kernel_rfl
  f42 := Yba.func9.trans (congrArg some (by kernel_rfl))
  t0 := Yba.underlying0
  a0 := Yba.isAgg0
  z0 := Yba.sizeOf0
  v0 := Yba.zeroValue0
  i0 := by kernel_rfl
  t5 := Yba.underlying5
  a5 := Yba.isAgg5
  z5 := Yba.sizeOf5
  v5 := Yba.zeroValue5
  i5 := by kernel_rfl
  t22 := Yba.underlying35
  a22 := Yba.isAgg35
  z22 := Yba.sizeOf35
  v22 := Yba.zeroValue35
  i22 := by kernel_rfl
  t33 := Yba.underlying23
  a33 := Yba.isAgg23
  z33 := Yba.sizeOf23
  v33 := Yba.zeroValue23
  i33 := by kernel_rfl
  t37 := Yba.underlying33
  a37 := Yba.isAgg33
  z37 := Yba.sizeOf33
  v37 := Yba.zeroValue33
  i37 := by kernel_rfl
  t45 := Yba.underlying36
  a45 := Yba.isAgg36
  z45 := Yba.sizeOf36
  v45 := Yba.zeroValue36
  i45 := by kernel_rfl }
open Go.RowKit in
theorem Yba.binary_BE_Uint64 (g o n c : Nat) (b0 b1 b2 b3 b4 b5 b6 b7 : UInt8) (w : World) (hn : 8 ≤ n) (c0 : w.cell? ⟨g, o, none⟩ = some (.int .u8 b0.toNat)) (c1 : w.cell? ⟨g, o + 1, none⟩ = some (.int .u8 b1.toNat)) (c2 : w.cell? ⟨g, o + 2, none⟩ = some (.int .u8 b2.toNat)) (c3 : w.cell? ⟨g, o + 3, none⟩ = some (.int .u8 b3.toNat)) (c4 : w.cell? ⟨g, o + 4, none⟩ = some (.int .u8 b4.toNat)) (c5 : w.cell? ⟨g, o + 5, none⟩ = some (.int .u8 b5.toNat)) (c6 : w.cell? ⟨g, o + 6, none⟩ = some (.int .u8 b6.toNat)) (c7 : w.cell? ⟨g, o + 7, none⟩ = some (.int .u8 b7.toNat)) :
    Calls Yba.prog 9 #[.agg #[], .slice (some ⟨g, o, none⟩) n c] w fun e w' => e = .returned (.int .u64 (Lib.beNat [b0, b1, b2, b3, b4, b5, b6, b7])) ∧ Below w.heap.size w w' := Any.binary_BE_Uint64 Yba.laysBin42 g o n c b0 b1 b2 b3 b4 b5 b6 b7 w hn c0 c1 c2 c3 c4 c5 c6 c7
open Go.RowKit in
theorem Yba.binary_BE_Uint64_panics (ao : Option Addr) (n c : Nat) (w : World) (hn : n < 8) (hnil : ao = none → n = 0) :
    Calls Yba.prog 9 #[.agg #[], .slice ao n c] w fun e w' => Lib.boundsPanicked Yba.prog 7 n e ∧ w' = (w.alloc (.cells #[] 33)).drew := Any.binary_BE_Uint64_panics Yba.laysBin42 ao n c w hn hnil
open Go.RowKit in
theorem Yba.binary_BE_Uint64_z (a : Addr) (n c : Nat) (zs : List Int) (w : World) (hn : 8 ≤ n) (hl : 8 ≤ zs.length) (hcell : ∀ i, i < zs.length → w.cell? (a.add i) = some (.int .u8 (zs.getD i 0))) (hw : ∀ z ∈ zs, (Lit.int .u8 z).wf = true) :
    Calls Yba.prog 9 #[.agg #[], .slice (some a) n c] w fun e w' => e = .returned (.int .u64 (Lib.beZ (zs.take 8))) ∧ Below w.heap.size w w' := Any.binary_BE_Uint64_z Yba.laysBin42 a n c zs w hn hl hcell hw
end Go.Proofs
