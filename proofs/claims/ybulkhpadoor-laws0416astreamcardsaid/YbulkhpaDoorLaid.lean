/-
  What the rows' 'laid' gives the walks of the two laws on the scanner (io.EOF), and one world that meets it; the card's closed facts.
-/
import Derived.Test.YbulkhpaDoorRows
import Derived.Test.YbulkhpaDoorTie
import Derived.Test.YbulkhpaDoorCards
import Derived.ProofKit
import Derived.OpenShut
import Derived.WalkSmall
import Derived.WalkKit
import Derived.ChangeSame
import Derived.ChangeVars
import Derived.JoinedOf
import Derived.RowKit
import Derived.RowKitTokens
import Derived.LaidLaws
import Derived.LaidHandle
import Derived.Stop.Joined
import Derived.Stop.LaidErr
import Derived.SevenTiedAt
namespace Go.Proofs.YbulkhpaDoor
open Go.ChangeShapes Go.WideShapes Go.RowKit

theorem own : ownKnob Ybad.prog.godebug = none := by kernel_rfl
theorem laidOut : laidOutB Ybad.prog = true := by kernel_rfl
theorem gEof : Ybad.prog.globalNamed "io.EOF" = some 0 := by kernel_rfl
theorem gEofType : (Ybad.prog.globals[0]?).map (·.type) = some 25 := by kernel_rfl
theorem cells55 : Ybad.prog.cellsOf 55 = 1 := by kernel_rfl
theorem cells9 : Ybad.prog.cellsOf 9 = 1 := by kernel_rfl
theorem cells5 : Ybad.prog.cellsOf 5 = 1 := by kernel_rfl

/-- the type's name, as the listed datum spells it -/
def errName : String := match (Rows.laid_io_EOF : DataW Unit) with
  | .iface n _ => n
  | _ => "none"
/-- THE ONE ROW OF THAT NAME. -/
theorem row53 (u : TypeId) (h : Ybad.prog.typeName? 3 u = some errName) : u = 53 :=
  typeName_ptr_named (nm := "errors.errorString") (by kernel_rfl) (by kernel_rfl) (by decide) u (h.trans (congrArg some (by decide +kernel)))

theorem eof_of_laid {W : World} (hL : laidMetH Ybad.prog Rows.lawS0416ATextRow.laid W) :
    ∃ a : Addr, W.cell? ⟨0, 0, none⟩ = some (.iface 53 (.pointer (some a))) := by
  obtain ⟨a, t, hv, hc, _, _⟩ := laid_sentinel hL gEof gEofType Ybad.underlying25 row53 Ybad.underlying53 Ybad.underlying55 rfl rfl Ybad.underlying9 cells55 cells9
  exact ⟨a, by simpa using World.var?_cell gEof hv 0⟩

/-- The settled world with one block more, an errors.errorString; io.EOF holds a pointer to it. -/
def eofWorld (P : Program) (os : Os) : World :=
  let w0 := World.holding P os ⟨#[.cells #[.string ⟨#[69, 79, 70]⟩] 55], #[], []⟩
  { w0 with heap := w0.heap.modify 0 fun
      | .cells _ t frozen => .cells #[.iface 53 (.pointer (some ⟨(World.holding P default ⟨#[], #[], []⟩).heap.size, 0, none⟩))] t frozen
      | o => o }
theorem eof_met (os : Os) (args : Array Value) : laidMet Ybad.prog Rows.lawS0416ATextRow.laid ((eofWorld Ybad.prog os).forCall (fun _ _ => 0) ⟨#[], args, []⟩).memory :=
  laidMet_of_run (ps := [.cell 0 0, .cell (World.holding Ybad.prog default ⟨#[], #[], []⟩).heap.size 0]) 8 (by kernel_rfl) (by kernel_rfl) (by kernel_rfl)
end Go.Proofs.YbulkhpaDoor
