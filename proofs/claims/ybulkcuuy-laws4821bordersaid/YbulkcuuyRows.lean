/-
  No cell of these rows narrows 'for every input' (looked for: loops, veiled, ifaces, maps, wideKeys, modest, calm, conditions, laid).
  DERIVED. THE GIVEN ROWS OF THIS SEAT. 2 by the template 'for every input the law returns true; each argument reads behind the call as it read before'; 0 by the template 'total and deterministic' (their statements: YbulkcuuyTotals.lean).
  GIVEN WITH THE SEED: the statements are not yours to turn. If you find one false, say at which input.
  Laid BY PROGRAM, IN A SANDBOX (cutbox-rows.mjs): the forced cells as the released guide's own fill.sh prints them over the translation 81444667e103c790… (all of the seat's roots in one cut). By AI agents, Wed Nov 11 2026. No macro, syntax, notation, axiom, sorry.
-/
import Derived.Test.YbulkcuuyChecked
import GoSem.Claim
import GoSem.ClaimJoined
import GoSem.ClaimMapViews
import Derived.JoinedTies
import Derived.KernelRfl
namespace Go.Proofs.Ybulkcuuy
/- THE CELL 'sum', in the pinned program and in every row, IS THE sha256 OF THE DUMP (.gsa) THAT YbulkcuuyProg.lean LOADS. Nothing in Lean hashes anything: it is a label: what it is worth is what the hold of that sum in a sandbox is worth. -/
noncomputable def Yba.pinned : Pinned := { name := "ybulkcuuy", sum := "81444667e103c7907a0949dc0f25d6982fd982b320ed821c5042cc2779f2e1f6", checked := Yba.checked }
namespace Rows
def none {H : Type} : Left H := { results := [], args := [] }

/-- 'tallyring.LawS4821BWords': WHATEVER THE INPUT: true; the input reads as it did. -/
def lawS4821BWordsSpec : ChangeSpec := { name := "lawS4821BWords", fn := fun _ => fun
  | [d] => { results := [.lit (.bool true)], args := [d] }
  | _ => none }
def lawS4821BWordsRow : OpenClaim := { program := "ybulkcuuy", sum := "81444667e103c7907a0949dc0f25d6982fd982b320ed821c5042cc2779f2e1f6", func := "example.com/tallyring/tallyring.LawS4821BWords", spec := "lawS4821BWords", named := ["encoding/binary.BigEndian"], apart := false }
def LawS4821BWordsSaid : Prop := lawS4821BWordsRow.holds Yba.pinned (OpenSpec.ofChange lawS4821BWordsSpec)

/-- ITS FALSE NEIGHBOUR: 'it returns false'. Refute it at one input. -/
def lawS4821BWordsWrong : ChangeSpec := { name := "lawS4821BWords", fn := fun _ => fun
  | [d] => { results := [.lit (.bool false)], args := [d] }
  | _ => none }
def LawS4821BWordsWrongFalsely : Prop := lawS4821BWordsRow.holds Yba.pinned (OpenSpec.ofChange lawS4821BWordsWrong)

/-- 'tallyring.LawS4821BOrder': WHATEVER THE INPUT: true; the input reads as it did. -/
def lawS4821BOrderSpec : ChangeSpec := { name := "lawS4821BOrder", fn := fun _ => fun
  | [d1, d2] => { results := [.lit (.bool true)], args := [d1, d2] }
  | _ => none }
def lawS4821BOrderRow : OpenClaim := { program := "ybulkcuuy", sum := "81444667e103c7907a0949dc0f25d6982fd982b320ed821c5042cc2779f2e1f6", func := "example.com/tallyring/tallyring.LawS4821BOrder", spec := "lawS4821BOrder", named := ["encoding/binary.BigEndian"], apart := false }
def LawS4821BOrderSaid : Prop := lawS4821BOrderRow.holds Yba.pinned (OpenSpec.ofChange lawS4821BOrderSpec)

/-- ITS FALSE NEIGHBOUR: 'it returns false'. Refute it at one input. -/
def lawS4821BOrderWrong : ChangeSpec := { name := "lawS4821BOrder", fn := fun _ => fun
  | [d1, d2] => { results := [.lit (.bool false)], args := [d1, d2] }
  | _ => none }
def LawS4821BOrderWrongFalsely : Prop := lawS4821BOrderRow.holds Yba.pinned (OpenSpec.ofChange lawS4821BOrderWrong)

end Rows
end Go.Proofs.Ybulkcuuy
