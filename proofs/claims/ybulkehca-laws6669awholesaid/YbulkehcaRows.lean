/-
  No cell of these rows narrows 'for every input' (looked for: loops, veiled, ifaces, maps, wideKeys, modest, calm, conditions, laid).
  DERIVED. THE GIVEN ROWS OF THIS SEAT. 1 by the template 'for every input the law returns true; each argument reads behind the call as it read before'; 0 by the template 'total and deterministic' (their statements: YbulkehcaTotals.lean).
  GIVEN WITH THE SEED: the statements are not yours to turn. If you find one false, say at which input.
  Laid BY PROGRAM, IN A SANDBOX (cutbox-rows.mjs): the forced cells as the released guide's own fill.sh prints them over the translation 54f452e1f6d59d14… (all of the seat's roots in one cut). By AI agents, Wed Nov 11 2026. No macro, syntax, notation, axiom, sorry.
-/
import Derived.Test.YbulkehcaChecked
import GoSem.Claim
import GoSem.ClaimJoined
import GoSem.ClaimMapViews
import Derived.JoinedTies
import Derived.KernelRfl
namespace Go.Proofs.Ybulkehca
/- THE CELL 'sum', in the pinned program and in every row, IS THE sha256 OF THE DUMP (.gsa) THAT YbulkehcaProg.lean LOADS. Nothing in Lean hashes anything: it is a label: what it is worth is what the hold of that sum in a sandbox is worth. -/
noncomputable def Yba.pinned : Pinned := { name := "ybulkehca", sum := "54f452e1f6d59d1403aeccb6c9f951591b2c687007db7c9d5d58e4245d3ebdb4", checked := Yba.checked }
namespace Rows
def none {H : Type} : Left H := { results := [], args := [] }

/-- 'returnslip.LawS6669AWhole': WHATEVER THE INPUT: true; the input reads as it did. -/
def lawS6669AWholeSpec : ChangeSpec := { name := "lawS6669AWhole", fn := fun _ => fun
  | [d1, d2] => { results := [.lit (.bool true)], args := [d1, d2] }
  | _ => none }
def lawS6669AWholeRow : OpenClaim := { program := "ybulkehca", sum := "54f452e1f6d59d1403aeccb6c9f951591b2c687007db7c9d5d58e4245d3ebdb4", func := "example.com/returnslip/returnslip.LawS6669AWhole", spec := "lawS6669AWhole", apart := false }
def LawS6669AWholeSaid : Prop := lawS6669AWholeRow.holds Yba.pinned (OpenSpec.ofChange lawS6669AWholeSpec)

/-- ITS FALSE NEIGHBOUR: 'it returns false'. Refute it at one input. -/
def lawS6669AWholeWrong : ChangeSpec := { name := "lawS6669AWhole", fn := fun _ => fun
  | [d1, d2] => { results := [.lit (.bool false)], args := [d1, d2] }
  | _ => none }
def LawS6669AWholeWrongFalsely : Prop := lawS6669AWholeRow.holds Yba.pinned (OpenSpec.ofChange lawS6669AWholeWrong)

end Rows
end Go.Proofs.Ybulkehca
