import Derived.Test.YbulkcuuyWords
import Derived.ProofKit
import Derived.OpenShut
import Derived.ChangeOld
import Derived.Below
namespace Go.Proofs.Ybulkcuuy
open Go.ChangeShapes Go.WideShapes Go.ChangeAt Go.RowKit

theorem own : ownKnob Yba.prog.godebug = none := by kernel_rfl
theorem laidOut : laidOutB Yba.prog = true := by kernel_rfl
theorem cells22 : Yba.prog.cellsOf 22 = 32 := by kernel_rfl
theorem cells5 : Yba.prog.cellsOf 5 = 1 := by kernel_rfl

/-- The bytes of an array's cells. -/
def zOf (cs : Array Value) (i : Nat) : Nat := (intOf (cs[i]?.getD undef)).toNat % 256

theorem zOf_lt (cs : Array Value) (i : Nat) : zOf cs i < 256 := Nat.mod_lt _ (by omega)

/-- AN ARRAY OF 32 BYTES BY VALUE, opened. -/
theorem open_bytes {H : Type} {enc : TypeId × Value → H} {W : World} {base : Nat} {v : Value} {d : DataW H} {p : List MemPlace} (hv : Value.okWide Yba.prog W .any base 22 v)
    (h : DataW.Trod enc Yba.prog W 0 (fun _ => true) true 22 v d p) : ∃ cs, v = .agg cs ∧ Bytes cs (zOf cs) := by
  obtain ⟨cs, rfl, hsz, _⟩ : ∃ cs, v = .agg cs ∧ cs.size = Yba.prog.cellsOf 22 ∧ Row.okWide Yba.prog W .any base 22 cs := by
    simpa [Value.okWide, Yba.underlying22] using hv
  rw [cells22] at hsz
  refine ⟨cs, rfl, hsz, fun i hi => ?_⟩
  obtain ⟨fuel, hf⟩ := h
  obtain ⟨xs, m, _, _, _, hn, hel⟩ := DataW.trod_array Yba.underlying22 hf
  have h1 := hel i hi
  rw [List.getElem?_eq_getElem (by omega)] at h1
  obtain ⟨k, e1, _, wk⟩ := DataW.trod_int Yba.underlying5 h1
  rw [cells5, Nat.mul_one] at e1
  have hb := bounds_u8 wk
  have hc : cs[i]? = some (.int .u8 k) := by
    have := congrArg (·[0]?) e1
    simpa [List.getElem?_take, List.getElem?_drop, Value.cells] using this
  rw [hc]
  have hz : zOf cs i = k.toNat := by
    unfold zOf
    rw [hc]
    simp only [Option.getD_some, intOf]
    omega
  rw [hz, Int.toNat_of_nonneg hb.1]
end Go.Proofs.Ybulkcuuy
