/-
  No cell of these rows narrows 'for every input' (looked for: loops, veiled, ifaces, maps, wideKeys, modest, calm, conditions, laid).
  DERIVED. THE GIVEN ROWS OF THIS SEAT. 2 by the template 'for every input the law returns true; each argument reads behind the call as it read before'; 0 by the template 'total and deterministic' (their statements: YbulkcupoTotals.lean).
  GIVEN WITH THE SEED: the statements are not yours to turn. If you find one false, say at which input.
  Laid BY PROGRAM, IN A SANDBOX (cutbox-rows.mjs): the forced cells as the released guide's own fill.sh prints them over the translation 0fcc1f0ca8445878… (all of the seat's roots in one cut). By AI agents, Wed Nov 11 2026. No macro, syntax, notation, axiom, sorry.
-/
import Derived.Test.YbulkcupoChecked
import GoSem.Claim
import GoSem.ClaimJoined
import GoSem.ClaimMapViews
import Derived.JoinedTies
import Derived.KernelRfl
namespace Go.Proofs.Ybulkcupo
/- THE CELL 'sum', in the pinned program and in every row, IS THE sha256 OF THE DUMP (.gsa) THAT YbulkcupoProg.lean LOADS. Nothing in Lean hashes anything: it is a label: what it is worth is what the hold of that sum in a sandbox is worth. -/
noncomputable def Yba.pinned : Pinned := { name := "ybulkcupo", sum := "0fcc1f0ca8445878aa1aedcca6cabdacd09a39aaa264d5b9465c33abec819145", checked := Yba.checked }
namespace Rows
def none {H : Type} : Left H := { results := [], args := [] }

/-- 'vouchsafe.LawS4811CNumbers': WHATEVER THE INPUT: true; the input reads as it did. -/
def lawS4811CNumbersSpec : ChangeSpec := { name := "lawS4811CNumbers", fn := fun _ => fun
  | [d1, d2, d3] => { results := [.lit (.bool true)], args := [d1, d2, d3] }
  | _ => none }
def lawS4811CNumbersRow : OpenClaim := { program := "ybulkcupo", sum := "0fcc1f0ca8445878aa1aedcca6cabdacd09a39aaa264d5b9465c33abec819145", func := "example.com/vouchsafe/vouchsafe.LawS4811CNumbers", spec := "lawS4811CNumbers", unfollowed := true, recurses := true, apart := false }
def LawS4811CNumbersSaid : Prop := lawS4811CNumbersRow.holds Yba.pinned (OpenSpec.ofChange lawS4811CNumbersSpec)

/-- ITS FALSE NEIGHBOUR: 'it returns false'. Refute it at one input. -/
def lawS4811CNumbersWrong : ChangeSpec := { name := "lawS4811CNumbers", fn := fun _ => fun
  | [d1, d2, d3] => { results := [.lit (.bool false)], args := [d1, d2, d3] }
  | _ => none }
def LawS4811CNumbersWrongFalsely : Prop := lawS4811CNumbersRow.holds Yba.pinned (OpenSpec.ofChange lawS4811CNumbersWrong)

/-- 'vouchsafe.LawS4811CTwice': WHATEVER THE INPUT: true; the input reads as it did. -/
def lawS4811CTwiceSpec : ChangeSpec := { name := "lawS4811CTwice", fn := fun _ => fun
  | [d] => { results := [.lit (.bool true)], args := [d] }
  | _ => none }
def lawS4811CTwiceRow : OpenClaim := { program := "ybulkcupo", sum := "0fcc1f0ca8445878aa1aedcca6cabdacd09a39aaa264d5b9465c33abec819145", func := "example.com/vouchsafe/vouchsafe.LawS4811CTwice", spec := "lawS4811CTwice", unfollowed := true, recurses := true, apart := false }
def LawS4811CTwiceSaid : Prop := lawS4811CTwiceRow.holds Yba.pinned (OpenSpec.ofChange lawS4811CTwiceSpec)

/-- ITS FALSE NEIGHBOUR: 'it returns false'. Refute it at one input. -/
def lawS4811CTwiceWrong : ChangeSpec := { name := "lawS4811CTwice", fn := fun _ => fun
  | [d] => { results := [.lit (.bool false)], args := [d] }
  | _ => none }
def LawS4811CTwiceWrongFalsely : Prop := lawS4811CTwiceRow.holds Yba.pinned (OpenSpec.ofChange lawS4811CTwiceWrong)

end Rows
end Go.Proofs.Ybulkcupo
