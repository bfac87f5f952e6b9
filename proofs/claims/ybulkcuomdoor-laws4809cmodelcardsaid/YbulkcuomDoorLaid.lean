import Derived.Test.YbulkcuomDoorShelf
import Derived.ProofKit
import Derived.LaidMore
import Derived.OpenShut
import Derived.ChangeOld
import Derived.Below
import Derived.Lib.LaidTab
import Derived.Lib.ItoaNum
import Derived.Stop.LaidErr
import Derived.Stop.Joined
namespace Go.Proofs.YbulkcuomDoor
open Go.ChangeShapes Go.WideShapes Go.ChangeAt Go.WideMaps Go.WideElems Go.RowKit

theorem own : ownKnob Ybad.prog.godebug = none := by kernel_rfl
theorem laidOut : laidOutB Ybad.prog = true := by kernel_rfl

/-- The three tables that both rows list. -/
abbrev laid3 : List (String × DataW Unit) := Rows.lawS4809CModelRow.laid

theorem gTab : Ybad.prog.globalNamed tabName = some 8 := by kernel_rfl
theorem tTab : (Ybad.prog.globals[8]?).map (·.type) = some 77 := by kernel_rfl
theorem cells36 : Ybad.prog.cellsOf 36 = 1 := by kernel_rfl
theorem cells77 : Ybad.prog.cellsOf 77 = 20 := by kernel_rfl

theorem datum : (Rows.laid_internal_strconv_uint64pow10 : DataW Unit) = Lib.tabData .u64 Lib.pow10Tab := by kernel_rfl

/-- The door's own heap meets the condition. -/
theorem door_met (os : Os) (args : Array Value) : laidMetH Ybad.prog laid3 ((World.doorLaid Ybad.prog 53 os).forCall (fun _ _ => 0) ⟨#[], args, []⟩).memory :=
  laidMetH_of_parts3 (fuel := 8) (laidMet_of_run' 8 (by kernel_rfl) (by kernel_rfl)) (by kernel_rfl) (by kernel_rfl)

/-- What the condition gives the walks. -/
theorem tab_of_laid {W : World} (h : laidMetH Ybad.prog laid3 W) : Lib.TabIs Ybad.prog W tabName .u64 Lib.pow10Tab := by
  rw [MakeChecks.laidMetH_plain _ _ _ (by kernel_rfl)] at h
  have h2 := h.tail.tail
  rw [datum] at h2
  exact Lib.tabIs_of_head gTab tTab Ybad.underlying77 Ybad.underlying36 cells36 cells77 h2

/-- What is told of a slice of uint64 that came in. -/
def IsRow (w : World) (a : Option Addr) (len cap : Nat) (zs : List Int) : Prop :=
  (a = none ∧ len = 0 ∧ cap = 0 ∧ zs = []) ∨
  ∃ x, a = some x ∧ len ≤ cap ∧ cap ≤ maxLen ∧ zs.length = cap ∧ (∀ i, i < zs.length → w.cell? (x.add i) = some (.int .u64 (zs.getD i 0))) ∧ ∀ n ∈ zs, (Lit.int .u64 n).wf = true
end Go.Proofs.YbulkcuomDoor
