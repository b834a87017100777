/-
  DERIVED. GIVEN WITH THE SEED: THE CARDS: each row of YbulkhnkFmtRows.lean that lists a variable, with what it lists TIED to the program's text (the seventh form; the later family's looks); each row that meets fmt, with fmt's text TOLD by the authors' own Lean function (tested against real Go, not proved from fmt's source: count such statements apart). THE CARD IS WHAT COUNTS. Prove the row's statement (the work); the ties are given (YbulkhnkFmtTie.lean); close each card by the builder's one call (the guide's Derived/Test/ToyasCard.lean, 'card_holds'). Laid BY PROGRAM, IN A SANDBOX (cutbox-door.mjs). By AI agents, Wed Nov 11 2026. No macro, syntax, notation, axiom, sorry.
-/
import Derived.Test.YbulkhnkFmtRows
import GoSem.ClaimSeven
namespace Go.Proofs.YbulkhnkFmt
namespace Rows

/-- THE TOLD AND TIED CARD OF 'toml.LawS0413CModel'. -/
def lawS0413CModelCard : Claim7 := { stood := { row := lawS0413CModelRow, standIns := [], harness := (true, "08a033543ed81ea12c4072bfb214d8c6845e1035b45d2c9a88f04d66971d288e"), looks := false }, told := true, laidByText := true, laidKinds := [.sentinel], laidTests := true, laidLooks := .later, goes := false }
def LawS0413CModelToldSaid : Prop := Claim7.holds Ybaf.pinned (.plain (OpenSpec.ofChange lawS0413CModelSpec)) lawS0413CModelCard
/-- ITS FALSE NEIGHBOUR. Refute it at one input. -/
def LawS0413CModelToldWrongFalsely : Prop := Claim7.holds Ybaf.pinned (.plain (OpenSpec.ofChange lawS0413CModelWrong)) lawS0413CModelCard

/-- THE TOLD AND TIED CARD OF 'toml.LawS0413CIdem'. -/
def lawS0413CIdemCard : Claim7 := { stood := { row := lawS0413CIdemRow, standIns := [], harness := (true, "08a033543ed81ea12c4072bfb214d8c6845e1035b45d2c9a88f04d66971d288e"), looks := false }, told := true, laidByText := true, laidKinds := [.sentinel], laidTests := true, laidLooks := .later, goes := false }
def LawS0413CIdemToldSaid : Prop := Claim7.holds Ybaf.pinned (.plain (OpenSpec.ofChange lawS0413CIdemSpec)) lawS0413CIdemCard
/-- ITS FALSE NEIGHBOUR. Refute it at one input. -/
def LawS0413CIdemToldWrongFalsely : Prop := Claim7.holds Ybaf.pinned (.plain (OpenSpec.ofChange lawS0413CIdemWrong)) lawS0413CIdemCard
end Rows
end Go.Proofs.YbulkhnkFmt
