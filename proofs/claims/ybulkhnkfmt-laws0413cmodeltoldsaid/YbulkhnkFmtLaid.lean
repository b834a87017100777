/-
  What the row's 'laid' gives the walks (the sentinel ErrInvalid), and one world that meets it.
-/
import Derived.Test.YbulkhnkFmtStop
import Derived.Test.YbulkhnkFmtWalksB
import Derived.ChangeSame
import Derived.ChangeVars
import Derived.ChangeMaps5
import Derived.JoinedOf
import Derived.RowKit
import Derived.RowKitTokens
import Derived.Stop.JoinedAt
import Derived.Stop.JoinedTold
import Derived.Stop.LaidErr
namespace Go.Proofs.YbulkhnkFmt
open Go.ChangeShapes Go.WideShapes Go.ChangeAt Go.RowKit Go.Kit
open Go.Extern.Stop Go.Stop Go.Extern

theorem own : ownKnob Ybaf.prog.godebug = none := by kernel_rfl
theorem laidOut : laidOutB Ybaf.pinned.checked.prog = true := by kernel_rfl
theorem stops : Ybaf.pinned.checked.prog.stops = ["fmt.errorf"] := by kernel_rfl
theorem stopKnobs : Ybaf.pinned.checked.prog.stopKnobs = [] := by kernel_rfl
theorem quiet (os : Os) : Stop.quiet Ybaf.pinned.checked.prog os := by
  intro k hk
  rw [stopKnobs] at hk
  cases hk

/-- the listed variable's name, as the row spells it -/
def varName : String := Rows.lawS0413CModelSpec.vars.headD "none"
theorem gE : Ybaf.prog.globalNamed varName = some 0 := by kernel_rfl
theorem gEType : (Ybaf.prog.globals[0]?).map (·.type) = some 30 := by kernel_rfl
theorem cells46 : Ybaf.prog.cellsOf 46 = 1 := by kernel_rfl
theorem cells9 : Ybaf.prog.cellsOf 9 = 1 := by kernel_rfl
theorem cells5 : Ybaf.prog.cellsOf 5 = 1 := by kernel_rfl
/-- THE ONE ROW OF THAT NAME. -/
theorem row44 (u : TypeId) (h : Ybaf.prog.typeName? 3 u = some errName) : u = 44 :=
  typeName_ptr_named (nm := "errors.errorString") (by kernel_rfl) (by kernel_rfl) (by decide) u (h.trans (congrArg some (by decide +kernel)))

def errText : ByteArray := ⟨#[110, 111, 116, 32, 118, 97, 108, 105, 100, 32, 84, 79, 77, 76]⟩
/-- The settled world with one block more, an errors.errorString; the variable holds a pointer to it. -/
def laidWorld (P : Program) (os : Os) : World :=
  let w0 := World.holding P os ⟨#[.cells #[.string errText] 46], #[], []⟩
  { w0 with heap := w0.heap.modify 0 fun
      | .cells _ t frozen => .cells #[.iface 44 (.pointer (some ⟨(World.holding P default ⟨#[], #[], []⟩).heap.size, 0, none⟩))] t frozen
      | o => o }
theorem laid_met (os : Os) (args : Array Value) : laidMet Ybaf.prog Rows.lawS0413CModelRow.laid ((laidWorld Ybaf.prog os).forCall (fun _ _ => 0) ⟨#[], args, []⟩).memory :=
  laidMet_of_run (ps := [.cell 0 0, .cell (World.holding Ybaf.prog default ⟨#[], #[], []⟩).heap.size 0]) 8 (by kernel_rfl) (by kernel_rfl) (by kernel_rfl)

/-- from the condition to what the walks ask -/
theorem sent_of_laid {F : Interp} {W : World} (hL : laidMetH Ybaf.prog Rows.lawS0413CModelRow.laid W) (hF : F.answers W.tape) :
    ∃ (a : Addr) (t : ByteArray), Sent F W W.heap.size a t ∧ W.var? Ybaf.prog varName = some #[.iface 44 (.pointer (some a))] := by
  obtain ⟨a, t, hv, hc, _, _⟩ := laid_sentinel hL gE gEType Ybaf.underlying30 row44 Ybaf.underlying44 Ybaf.underlying46 rfl rfl Ybaf.underlying9 cells46 cells9
  have hg : W.cell? ⟨0, 0, none⟩ = some (.iface 44 (.pointer (some a))) := by simpa using World.var?_cell gE hv 0
  exact ⟨a, t, ⟨hF, hg, hc, World.block_lt_of_cell? _ _ hg, World.block_lt_of_cell? _ _ hc⟩, hv⟩
end Go.Proofs.YbulkhnkFmt
