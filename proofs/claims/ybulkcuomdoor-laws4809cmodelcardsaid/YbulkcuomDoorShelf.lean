import Derived.Shelf.Strconv.Itoa0
import Derived.Shelf.Strconv.Itoa1
import Derived.Shelf.LaysM
import Derived.Shelf.Strconv.Itoa2
import Derived.Shelf.Strconv.AppendUint10
import Derived.Test.YbulkcuomDoorRows
namespace Go.Proofs
open Go.Shelf

/-- The table of powers of ten, by the name that the row lists. -/
abbrev YbulkcuomDoor.tabName : String := YbulkcuomDoor.Rows.lawS4809CModelRow.named.headD ""

def Ybad.lays129_ren : Go.Shelf.Ren := ⟨fun | 129 => 41 | n => n, fun | 53 => 36 | 3 => 3 | 4 => 4 | 46 => 49 | 5 => 5 | 9 => 9 | n => n, fun | n => n⟩
theorem Ybad.lays129 : Go.Proofs.Lays.n129 Ybad.prog Ybad.lays129_ren := {
  mixed := by kernel_rfl
  f129 := Ybad.func41.trans (congrArg some (by kernel_rfl))
  t3 := Ybad.underlying3
  a3 := Ybad.isAgg3
  z3 := Ybad.sizeOf3
  v3 := Ybad.zeroValue3
  t4 := Ybad.underlying4
  a4 := Ybad.isAgg4
  z4 := Ybad.sizeOf4
  v4 := Ybad.zeroValue4
  t5 := Ybad.underlying5
  a5 := Ybad.isAgg5
  z5 := Ybad.sizeOf5
  v5 := Ybad.zeroValue5
  t9 := Ybad.underlying9
  a9 := Ybad.isAgg9
  z9 := Ybad.sizeOf9
  v9 := Ybad.zeroValue9
  t46 := Ybad.underlying49
  a46 := Ybad.isAgg49
  z46 := Ybad.sizeOf49
  v46 := Ybad.zeroValue49
  t53 := Ybad.underlying36
  a53 := Ybad.isAgg36
  z53 := Ybad.sizeOf36
  v53 := Ybad.zeroValue36 }
theorem Ybad.bits_Len64 (x : Int) (w : World) (h0 : 0 ≤ x) (h1 : x ≤ 18446744073709551615) :
    Calls Ybad.prog 41 #[.int .u64 x] w fun e w' => e = .returned (.int .i64 (Lib.bitLen x.toNat)) ∧ w' = w := Any.bits_Len64 Ybad.lays129 x w h0 h1
def Ybad.lays317_ren : Go.Shelf.Ren := ⟨fun | 317 => 40 | n => n, fun | 3 => 3 | 46 => 49 | n => n, fun | n => n⟩
theorem Ybad.lays317 : Go.Proofs.Lays.n317 Ybad.prog Ybad.lays317_ren := {
  mixed := by kernel_rfl
  f317 := Ybad.func40.trans (congrArg some (by kernel_rfl))
  t3 := Ybad.underlying3
  a3 := Ybad.isAgg3
  z3 := Ybad.sizeOf3
  v3 := Ybad.zeroValue3
  t46 := Ybad.underlying49
  a46 := Ybad.isAgg49
  z46 := Ybad.sizeOf49
  v46 := Ybad.zeroValue49 }
open Go.Lib in
theorem Ybad.internal_strconv_log10Pow2 (x : Nat) (h : x ≤ 64) (w : World) :
    Calls Ybad.prog 40 #[.int .i64 x] w fun e w' => e = .returned (.int .i64 (Lib.l10 x)) ∧ w' = w := Any.internal_strconv_log10Pow2 Ybad.lays317 x h w
def Ybad.lays318_ren : Go.Shelf.Ren := ⟨fun | 318 => 42 | n => n, fun | 3 => 3 | 4 => 4 | n => n, fun | n => n⟩
theorem Ybad.lays318 : Go.Proofs.Lays.n318 Ybad.prog Ybad.lays318_ren := {
  mixed := by kernel_rfl
  f318 := Ybad.func42.trans (congrArg some (by kernel_rfl))
  t3 := Ybad.underlying3
  a3 := Ybad.isAgg3
  z3 := Ybad.sizeOf3
  v3 := Ybad.zeroValue3
  t4 := Ybad.underlying4
  a4 := Ybad.isAgg4
  z4 := Ybad.sizeOf4
  v4 := Ybad.zeroValue4 }
open Go.Lib in
theorem Ybad.internal_strconv_bool2_int (b : Bool) (w : World) :
    Calls Ybad.prog 42 #[.bool b] w fun e w' => e = .returned (.int .i64 (if b then 1 else 0)) ∧ w' = w := Any.internal_strconv_bool2_int Ybad.lays318 b w
def Ybad.lays283_ren : Go.Shelf.Ren := ⟨fun | 283 => 35 | n => n, fun | 3 => 3 | 9 => 9 | 4 => 4 | n => n, fun | n => n⟩
theorem Ybad.lays283 : Go.Proofs.Lays.n283 Ybad.prog Ybad.lays283_ren := {
  mixed := by kernel_rfl
  f283 := Ybad.func35.trans (congrArg some (by kernel_rfl))
  t3 := Ybad.underlying3
  a3 := Ybad.isAgg3
  z3 := Ybad.sizeOf3
  v3 := Ybad.zeroValue3
  t4 := Ybad.underlying4
  a4 := Ybad.isAgg4
  z4 := Ybad.sizeOf4
  v4 := Ybad.zeroValue4
  t9 := Ybad.underlying9
  a9 := Ybad.isAgg9
  z9 := Ybad.sizeOf9
  v9 := Ybad.zeroValue9 }
open Go.Lib in
theorem Ybad.internal_strconv_small (i : Nat) (h : i < 100) (w : World) :
    Calls Ybad.prog 35 #[.int .i64 i] w fun e w' => e = .returned (.string ⟨(Lib.decDigits i).toArray⟩) ∧ w' = w := Any.internal_strconv_small Ybad.lays283 i h w
def Ybad.laysM284_ren : Go.Shelf.Ren := ⟨fun | 284 => 36 | 129 => 41 | 317 => 40 | 318 => 42 | n => n, fun | 53 => 36 | 3 => 3 | 212 => 77 | 0 => 0 | 4 => 4 | 46 => 49 | 5 => 5 | 9 => 9 | n => n, fun | 17 => 8 | n => n⟩
theorem Ybad.laysM284 : Go.Proofs.LaysM.n284 Ybad.prog Ybad.laysM284_ren := {
  mixed := by kernel_rfl
  f129 := Ybad.func41.trans (congrArg some (by kernel_rfl))
  f284 := Ybad.func36.trans (congrArg some (by kernel_rfl))
  f317 := Ybad.func40.trans (congrArg some (by kernel_rfl))
  f318 := Ybad.func42.trans (congrArg some (by kernel_rfl))
  t0 := Ybad.underlying0
  a0 := Ybad.isAgg0
  z0 := Ybad.sizeOf0
  v0 := Ybad.zeroValue0
  t3 := Ybad.underlying3
  a3 := Ybad.isAgg3
  z3 := Ybad.sizeOf3
  v3 := Ybad.zeroValue3
  t4 := Ybad.underlying4
  a4 := Ybad.isAgg4
  z4 := Ybad.sizeOf4
  v4 := Ybad.zeroValue4
  t5 := Ybad.underlying5
  a5 := Ybad.isAgg5
  z5 := Ybad.sizeOf5
  v5 := Ybad.zeroValue5
  t9 := Ybad.underlying9
  a9 := Ybad.isAgg9
  z9 := Ybad.sizeOf9
  v9 := Ybad.zeroValue9
  t46 := Ybad.underlying49
  a46 := Ybad.isAgg49
  z46 := Ybad.sizeOf49
  v46 := Ybad.zeroValue49
  t53 := Ybad.underlying36
  a53 := Ybad.isAgg36
  z53 := Ybad.sizeOf36
  v53 := Ybad.zeroValue36
  t212 := Ybad.underlying77
  a212 := Ybad.isAgg77
  z212 := Ybad.sizeOf77
  v212 := Ybad.zeroValue77
  g17 := by kernel_rfl
  i0 := by kernel_rfl
  i3 := by kernel_rfl
  i4 := by kernel_rfl
  i5 := by kernel_rfl
  i9 := by kernel_rfl
  i46 := by kernel_rfl
  i53 := by kernel_rfl
  i212 := by kernel_rfl
  m17 := by kernel_rfl }
open Go.Lib in
theorem Ybad.internal_strconv_numDigits (u : Nat) (h1 : 1 ≤ u) (h2 : u < 18446744073709551616) (w : World) (htab : Lib.TabIs Ybad.prog w YbulkcuomDoor.tabName .u64 Lib.pow10Tab) :
    Calls Ybad.prog 36 #[.int .u64 u] w fun e w' => e = .returned (.int .i64 (Lib.nDigits u)) ∧ w' = w := Any.internal_strconv_numDigits Ybad.laysM284 u h1 h2 w htab
def Ybad.lays285_ren : Go.Shelf.Ren := ⟨fun | 285 => 37 | n => n, fun | 37 => 22 | 53 => 36 | 3 => 3 | 4 => 4 | 51 => 55 | 9 => 9 | 5 => 5 | 0 => 0 | n => n, fun | n => n⟩
theorem Ybad.lays285 : Go.Proofs.Lays.n285 Ybad.prog Ybad.lays285_ren := {
  mixed := by kernel_rfl
  f285 := Ybad.func37.trans (congrArg some (by kernel_rfl))
  t0 := Ybad.underlying0
  a0 := Ybad.isAgg0
  z0 := Ybad.sizeOf0
  v0 := Ybad.zeroValue0
  t3 := Ybad.underlying3
  a3 := Ybad.isAgg3
  z3 := Ybad.sizeOf3
  v3 := Ybad.zeroValue3
  t4 := Ybad.underlying4
  a4 := Ybad.isAgg4
  z4 := Ybad.sizeOf4
  v4 := Ybad.zeroValue4
  t5 := Ybad.underlying5
  a5 := Ybad.isAgg5
  z5 := Ybad.sizeOf5
  v5 := Ybad.zeroValue5
  t9 := Ybad.underlying9
  a9 := Ybad.isAgg9
  z9 := Ybad.sizeOf9
  v9 := Ybad.zeroValue9
  t37 := Ybad.underlying22
  a37 := Ybad.isAgg22
  z37 := Ybad.sizeOf22
  v37 := Ybad.zeroValue22
  t51 := Ybad.underlying55
  a51 := Ybad.isAgg55
  z51 := Ybad.sizeOf55
  v51 := Ybad.zeroValue55
  t53 := Ybad.underlying36
  a53 := Ybad.isAgg36
  z53 := Ybad.sizeOf36
  v53 := Ybad.zeroValue36 }
open Go.RowKit Go.Sort Go.Lib in
theorem Ybad.internal_strconv_formatBase10 (blk off cap : Nat) (u : Nat) (d : Array UInt8) (w : World) (hH : Holds (fun (b : UInt8) => Value.int .u8 (b.toNat : Int)) w blk off d) (hu : u < 10 ^ d.size) (hu64 : u < 18446744073709551616) (hsz : d.size < 4611686018427387904) :
    Calls Ybad.prog 37 #[.slice (some ⟨blk, off, none⟩) d.size cap, .int .u64 u] w fun e w' =>
      e = .returned (.tuple #[]) ∧ ∃ (n v' : Nat) (dk : Array UInt8), w' = (putRow (fun (b : UInt8) => Value.int .u8 (b.toNat : Int)) w blk off dk).drewN n ∧ FmtInv d.size u 0 v' dk := Any.internal_strconv_formatBase10 Ybad.lays285 blk off cap u d w hH hu hu64 hsz
def Ybad.laysM288_ren : Go.Shelf.Ren := ⟨fun | 288 => 28 | 283 => 35 | 284 => 36 | 285 => 37 | 286 => 38 | 129 => 41 | 317 => 40 | 318 => 42 | 319 => 43 | 320 => 44 | 337 => 46 | 338 => 47 | n => n, fun | 37 => 22 | 53 => 36 | 3 => 3 | 4 => 4 | 9 => 9 | 171 => 69 | 0 => 0 | 173 => 72 | 212 => 77 | 51 => 55 | 5 => 5 | 20 => 20 | 213 => 78 | 46 => 49 | 232 => 82 | 233 => 83 | n => n, fun | 17 => 8 | 18 => 10 | 19 => 11 | n => n⟩
theorem Ybad.laysM288 : Go.Proofs.LaysM.n288 Ybad.prog Ybad.laysM288_ren := {
  mixed := by kernel_rfl
  f129 := Ybad.func41.trans (congrArg some (by kernel_rfl))
  f283 := Ybad.func35.trans (congrArg some (by kernel_rfl))
  f284 := Ybad.func36.trans (congrArg some (by kernel_rfl))
  f285 := Ybad.func37.trans (congrArg some (by kernel_rfl))
  f286 := Ybad.func38.trans (congrArg some (by kernel_rfl))
  f288 := Ybad.func28.trans (congrArg some (by kernel_rfl))
  f317 := Ybad.func40.trans (congrArg some (by kernel_rfl))
  f318 := Ybad.func42.trans (congrArg some (by kernel_rfl))
  f319 := Ybad.func43.trans (congrArg some (by kernel_rfl))
  f320 := Ybad.func44.trans (congrArg some (by kernel_rfl))
  f337 := Ybad.func46.trans (congrArg some (by kernel_rfl))
  f338 := Ybad.func47.trans (congrArg some (by kernel_rfl))
  t0 := Ybad.underlying0
  a0 := Ybad.isAgg0
  z0 := Ybad.sizeOf0
  v0 := Ybad.zeroValue0
  t3 := Ybad.underlying3
  a3 := Ybad.isAgg3
  z3 := Ybad.sizeOf3
  v3 := Ybad.zeroValue3
  t4 := Ybad.underlying4
  a4 := Ybad.isAgg4
  z4 := Ybad.sizeOf4
  v4 := Ybad.zeroValue4
  t5 := Ybad.underlying5
  a5 := Ybad.isAgg5
  z5 := Ybad.sizeOf5
  v5 := Ybad.zeroValue5
  t9 := Ybad.underlying9
  a9 := Ybad.isAgg9
  z9 := Ybad.sizeOf9
  v9 := Ybad.zeroValue9
  t20 := Ybad.underlying20
  a20 := Ybad.isAgg20
  z20 := Ybad.sizeOf20
  v20 := Ybad.zeroValue20
  t37 := Ybad.underlying22
  a37 := Ybad.isAgg22
  z37 := Ybad.sizeOf22
  v37 := Ybad.zeroValue22
  t46 := Ybad.underlying49
  a46 := Ybad.isAgg49
  z46 := Ybad.sizeOf49
  v46 := Ybad.zeroValue49
  t51 := Ybad.underlying55
  a51 := Ybad.isAgg55
  z51 := Ybad.sizeOf55
  v51 := Ybad.zeroValue55
  t53 := Ybad.underlying36
  a53 := Ybad.isAgg36
  z53 := Ybad.sizeOf36
  v53 := Ybad.zeroValue36
  t171 := Ybad.underlying69
  a171 := Ybad.isAgg69
  z171 := Ybad.sizeOf69
  v171 := Ybad.zeroValue69
  t173 := Ybad.underlying72
  a173 := Ybad.isAgg72
  z173 := Ybad.sizeOf72
  v173 := Ybad.zeroValue72
  t212 := Ybad.underlying77
  a212 := Ybad.isAgg77
  z212 := Ybad.sizeOf77
  v212 := Ybad.zeroValue77
  t213 := Ybad.underlying78
  a213 := Ybad.isAgg78
  z213 := Ybad.sizeOf78
  t232 := Ybad.underlying82
  a232 := Ybad.isAgg82
  z232 := Ybad.sizeOf82
  v232 := Ybad.zeroValue82
  t233 := Ybad.underlying83
  a233 := Ybad.isAgg83
  z233 := Ybad.sizeOf83
  v233 := Ybad.zeroValue83
  g17 := by kernel_rfl
  g18 := by kernel_rfl
  g19 := by kernel_rfl
  i0 := by kernel_rfl
  i3 := by kernel_rfl
  i4 := by kernel_rfl
  i5 := by kernel_rfl
  i9 := by kernel_rfl
  i20 := by kernel_rfl
  i37 := by kernel_rfl
  i46 := by kernel_rfl
  i51 := by kernel_rfl
  i53 := by kernel_rfl
  i171 := by kernel_rfl
  i173 := by kernel_rfl
  i212 := by kernel_rfl
  i232 := by kernel_rfl
  i233 := by kernel_rfl
  m17 := by kernel_rfl
  m18 := by kernel_rfl
  m19 := by kernel_rfl }
open Go.RowKit Go.Sort Go.Lib in
theorem Ybad.internal_strconv_AppendUint_10_small (B n u : Nat) (hu : u < 100) (sv : Value) (xs : List Value) (w : World) (hown : w.ownsRow B 5 1 sv n xs) (hBw : B ≤ w.heap.size) (hlim : n + 20 ≤ 140737488355328) :
    Calls Ybad.prog 28 #[sv, .int .u64 u, .int .i64 10] w fun e w' => ∃ v', e = .returned v' ∧ w'.ownsRow B 5 1 v' (n + (Lib.decDigits u).length) (xs ++ Lib.byteCells (Lib.decDigits u)) ∧ Below B w w' ∧ Lib.OthersKept 5 none w w' := Any.internal_strconv_AppendUint_10_small Ybad.laysM288 B n u hu sv xs w hown hBw hlim
open Go.RowKit Go.Sort Go.Lib in
theorem Ybad.internal_strconv_AppendUint_10_big (B n u : Nat) (hu : 100 ≤ u) (hu64 : u < 18446744073709551616) (sv : Value) (xs : List Value) (w : World) (hown : w.ownsRow B 5 1 sv n xs) (hBw : B ≤ w.heap.size) (hlim : n + 20 ≤ 140737488355328) (htab : Lib.TabIs Ybad.prog w YbulkcuomDoor.tabName .u64 Lib.pow10Tab) :
    Calls Ybad.prog 28 #[sv, .int .u64 u, .int .i64 10] w fun e w' => ∃ v', e = .returned v' ∧ w'.ownsRow B 5 1 v' (n + (Lib.decDigits u).length) (xs ++ Lib.byteCells (Lib.decDigits u)) ∧ Below B w w' ∧ Lib.OthersKept 5 none w w' := Any.internal_strconv_AppendUint_10_big Ybad.laysM288 B n u hu hu64 sv xs w hown hBw hlim htab
end Go.Proofs
