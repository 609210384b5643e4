/-
  No cell of these rows narrows 'for every input' (looked for: loops, veiled, ifaces, maps, wideKeys, modest, calm, conditions, laid).
  DERIVED. THE GIVEN ROWS OF THIS SEAT. 2 by the template 'for every input the law returns true; each argument reads behind the call as it read before'; 0 by the template 'total and deterministic' (their statements: YbulkehdqTotals.lean).
  GIVEN WITH THE SEED: the statements are not yours to turn. If you find one false, say at which input.
  Laid BY PROGRAM, IN A SANDBOX (cutbox-rows.mjs): the forced cells as the released guide's own fill.sh prints them over the translation 1d96c28a8e26f910… (all of the seat's roots in one cut). By AI agents, Wed Nov 11 2026. No macro, syntax, notation, axiom, sorry.
-/
import Derived.Test.YbulkehdqChecked
import GoSem.Claim
import GoSem.ClaimJoined
import GoSem.ClaimMapViews
import Derived.JoinedTies
import Derived.KernelRfl
namespace Go.Proofs.Ybulkehdq
/- THE CELL 'sum', in the pinned program and in every row, IS THE sha256 OF THE DUMP (.gsa) THAT YbulkehdqProg.lean LOADS. Nothing in Lean hashes anything: it is a label: what it is worth is what the hold of that sum in a sandbox is worth. -/
noncomputable def Yba.pinned : Pinned := { name := "ybulkehdq", sum := "1d96c28a8e26f9101a60395f99dd6ac4c8ddfd526601bfb9fa5956a31793f6c3", checked := Yba.checked }
namespace Rows
def none {H : Type} : Left H := { results := [], args := [] }

/-- 'compare.LawS6672BWhole': WHATEVER THE INPUT: true; the input reads as it did. -/
def lawS6672BWholeSpec : ChangeSpec := { name := "lawS6672BWhole", fn := fun _ => fun
  | [d1, d2] => { results := [.lit (.bool true)], args := [d1, d2] }
  | _ => none }
def lawS6672BWholeRow : OpenClaim := { program := "ybulkehdq", sum := "1d96c28a8e26f9101a60395f99dd6ac4c8ddfd526601bfb9fa5956a31793f6c3", func := "example.com/tightloop/tightloop/internal/compare.LawS6672BWhole", spec := "lawS6672BWhole", inPlace := ["math.Float64bits"], unfollowed := true, recurses := true, apart := false }
def LawS6672BWholeSaid : Prop := lawS6672BWholeRow.holds Yba.pinned (OpenSpec.ofChange lawS6672BWholeSpec)

/-- ITS FALSE NEIGHBOUR: 'it returns false'. Refute it at one input. -/
def lawS6672BWholeWrong : ChangeSpec := { name := "lawS6672BWhole", fn := fun _ => fun
  | [d1, d2] => { results := [.lit (.bool false)], args := [d1, d2] }
  | _ => none }
def LawS6672BWholeWrongFalsely : Prop := lawS6672BWholeRow.holds Yba.pinned (OpenSpec.ofChange lawS6672BWholeWrong)

/-- 'compare.LawS6672CWhole': WHATEVER THE INPUT: true; the input reads as it did. -/
def lawS6672CWholeSpec : ChangeSpec := { name := "lawS6672CWhole", fn := fun _ => fun
  | [d1, d2, d3, d4, d5, d6] => { results := [.lit (.bool true)], args := [d1, d2, d3, d4, d5, d6] }
  | _ => none }
def lawS6672CWholeRow : OpenClaim := { program := "ybulkehdq", sum := "1d96c28a8e26f9101a60395f99dd6ac4c8ddfd526601bfb9fa5956a31793f6c3", func := "example.com/tightloop/tightloop/internal/compare.LawS6672CWhole", spec := "lawS6672CWhole", apart := false }
def LawS6672CWholeSaid : Prop := lawS6672CWholeRow.holds Yba.pinned (OpenSpec.ofChange lawS6672CWholeSpec)

/-- ITS FALSE NEIGHBOUR: 'it returns false'. Refute it at one input. -/
def lawS6672CWholeWrong : ChangeSpec := { name := "lawS6672CWhole", fn := fun _ => fun
  | [d1, d2, d3, d4, d5, d6] => { results := [.lit (.bool false)], args := [d1, d2, d3, d4, d5, d6] }
  | _ => none }
def LawS6672CWholeWrongFalsely : Prop := lawS6672CWholeRow.holds Yba.pinned (OpenSpec.ofChange lawS6672CWholeWrong)

end Rows
end Go.Proofs.Ybulkehdq
