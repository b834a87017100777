/-
  No cell of these rows narrows 'for every input' (looked for: loops, veiled, ifaces, maps, wideKeys, modest, calm, conditions, laid).
  DERIVED. THE GIVEN ROWS OF THIS SEAT. 2 by the template 'for every input the law returns true; each argument reads behind the call as it read before'; 0 by the template 'total and deterministic' (their statements: YbulkhmwTotals.lean).
  GIVEN WITH THE SEED: the statements are not yours to turn. If you find one false, say at which input.
  Laid BY PROGRAM, IN A SANDBOX (cutbox-rows.mjs): the forced cells as the released guide's own fill.sh prints them over the translation c10c848ef6f7d4da… (all of the seat's roots in one cut). By AI agents, Wed Nov 11 2026. No macro, syntax, notation, axiom, sorry.
-/
import Derived.Test.YbulkhmwChecked
import GoSem.Claim
import GoSem.ClaimJoined
import GoSem.ClaimMapViews
import Derived.JoinedTies
import Derived.KernelRfl
namespace Go.Proofs.Ybulkhmw
/- THE CELL 'sum', in the pinned program and in every row, IS THE sha256 OF THE DUMP (.gsa) THAT YbulkhmwProg.lean LOADS. Nothing in Lean hashes anything: it is a label: what it is worth is what the hold of that sum in a sandbox is worth. -/
noncomputable def Yba.pinned : Pinned := { name := "ybulkhmw", sum := "c10c848ef6f7d4daa4ed05a312beddef263aef7632808db8145a3ecfe2325fd5", checked := Yba.checked }
namespace Rows
def none {H : Type} : Left H := { results := [], args := [] }

/-- 'plan.LawS0412BReset': WHATEVER THE INPUT: true; the input reads as it did. -/
def lawS0412BResetSpec : ChangeSpec := { name := "lawS0412BReset", fn := fun _ => fun
  | [d1, d2, d3, d4, d5, d6, d7, d8, d9, d10, d11, d12] => { results := [.lit (.bool true)], args := [d1, d2, d3, d4, d5, d6, d7, d8, d9, d10, d11, d12] }
  | _ => none }
def lawS0412BResetRow : OpenClaim := { program := "ybulkhmw", sum := "c10c848ef6f7d4daa4ed05a312beddef263aef7632808db8145a3ecfe2325fd5", func := "example.com/muster/muster/plan.LawS0412BReset", spec := "lawS0412BReset", apart := false }
def LawS0412BResetSaid : Prop := lawS0412BResetRow.holds Yba.pinned (OpenSpec.ofChange lawS0412BResetSpec)

/-- ITS FALSE NEIGHBOUR: 'it returns false'. Refute it at one input. -/
def lawS0412BResetWrong : ChangeSpec := { name := "lawS0412BReset", fn := fun _ => fun
  | [d1, d2, d3, d4, d5, d6, d7, d8, d9, d10, d11, d12] => { results := [.lit (.bool false)], args := [d1, d2, d3, d4, d5, d6, d7, d8, d9, d10, d11, d12] }
  | _ => none }
def LawS0412BResetWrongFalsely : Prop := lawS0412BResetRow.holds Yba.pinned (OpenSpec.ofChange lawS0412BResetWrong)

/-- 'plan.LawS0412BTwice': WHATEVER THE INPUT: true; the input reads as it did. -/
def lawS0412BTwiceSpec : ChangeSpec := { name := "lawS0412BTwice", fn := fun _ => fun
  | [d1, d2, d3, d4, d5, d6] => { results := [.lit (.bool true)], args := [d1, d2, d3, d4, d5, d6] }
  | _ => none }
def lawS0412BTwiceRow : OpenClaim := { program := "ybulkhmw", sum := "c10c848ef6f7d4daa4ed05a312beddef263aef7632808db8145a3ecfe2325fd5", func := "example.com/muster/muster/plan.LawS0412BTwice", spec := "lawS0412BTwice", apart := false }
def LawS0412BTwiceSaid : Prop := lawS0412BTwiceRow.holds Yba.pinned (OpenSpec.ofChange lawS0412BTwiceSpec)

/-- ITS FALSE NEIGHBOUR: 'it returns false'. Refute it at one input. -/
def lawS0412BTwiceWrong : ChangeSpec := { name := "lawS0412BTwice", fn := fun _ => fun
  | [d1, d2, d3, d4, d5, d6] => { results := [.lit (.bool false)], args := [d1, d2, d3, d4, d5, d6] }
  | _ => none }
def LawS0412BTwiceWrongFalsely : Prop := lawS0412BTwiceRow.holds Yba.pinned (OpenSpec.ofChange lawS0412BTwiceWrong)

end Rows
end Go.Proofs.Ybulkhmw
