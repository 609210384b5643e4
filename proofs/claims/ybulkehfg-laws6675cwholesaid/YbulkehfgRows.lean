/-
  No cell of these rows narrows 'for every input' (looked for: loops, veiled, ifaces, maps, wideKeys, modest, calm, conditions, laid).
  DERIVED. THE GIVEN ROWS OF THIS SEAT. 1 by the template 'for every input the law returns true; each argument reads behind the call as it read before'; 0 by the template 'total and deterministic' (their statements: YbulkehfgTotals.lean).
  GIVEN WITH THE SEED: the statements are not yours to turn. If you find one false, say at which input.
  Laid BY PROGRAM, IN A SANDBOX (cutbox-rows.mjs): the forced cells as the released guide's own fill.sh prints them over the translation 2de729cb92a7b00a… (all of the seat's roots in one cut). By AI agents, Wed Nov 11 2026. No macro, syntax, notation, axiom, sorry.
-/
import Derived.Test.YbulkehfgChecked
import GoSem.Claim
import GoSem.ClaimJoined
import GoSem.ClaimMapViews
import Derived.JoinedTies
import Derived.KernelRfl
namespace Go.Proofs.Ybulkehfg
/- THE CELL 'sum', in the pinned program and in every row, IS THE sha256 OF THE DUMP (.gsa) THAT YbulkehfgProg.lean LOADS. Nothing in Lean hashes anything: it is a label: what it is worth is what the hold of that sum in a sandbox is worth. -/
noncomputable def Yba.pinned : Pinned := { name := "ybulkehfg", sum := "2de729cb92a7b00aa6558572c8a96636a114c7160c14c30a0c9f7b80980f01fb", checked := Yba.checked }
namespace Rows
def none {H : Type} : Left H := { results := [], args := [] }

/-- 'crier.LawS6675CWhole': WHATEVER THE INPUT: true; the input reads as it did. -/
def lawS6675CWholeSpec : ChangeSpec := { name := "lawS6675CWhole", fn := fun _ => fun
  | [d1, d2, d3] => { results := [.lit (.bool true)], args := [d1, d2, d3] }
  | _ => none }
def lawS6675CWholeRow : OpenClaim := { program := "ybulkehfg", sum := "2de729cb92a7b00aa6558572c8a96636a114c7160c14c30a0c9f7b80980f01fb", func := "example.com/crier/crier.LawS6675CWhole", spec := "lawS6675CWhole", apart := false }
def LawS6675CWholeSaid : Prop := lawS6675CWholeRow.holds Yba.pinned (OpenSpec.ofChange lawS6675CWholeSpec)

/-- ITS FALSE NEIGHBOUR: 'it returns false'. Refute it at one input. -/
def lawS6675CWholeWrong : ChangeSpec := { name := "lawS6675CWhole", fn := fun _ => fun
  | [d1, d2, d3] => { results := [.lit (.bool false)], args := [d1, d2, d3] }
  | _ => none }
def LawS6675CWholeWrongFalsely : Prop := lawS6675CWholeRow.holds Yba.pinned (OpenSpec.ofChange lawS6675CWholeWrong)

end Rows
end Go.Proofs.Ybulkehfg
