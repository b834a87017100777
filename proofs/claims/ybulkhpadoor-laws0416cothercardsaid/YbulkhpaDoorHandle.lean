/-
  What the rows' 'laid' gives the walks of the two laws on within (errors.errorType: the handle of the type error), and one world that meets it. After the guide's worked example Derived/Test/ToyasProofs.lean.
-/
import Derived.Test.YbulkhpaDoorRows
import Derived.Test.YbulkhpaDoorTie
import Derived.Test.YbulkhpaDoorCards
import Derived.ProofKit
import Derived.WalkKit
import Derived.ShutString
import Derived.ChangeSame
import Derived.ChangeVars
import Derived.JoinedOf
import Derived.RowKit
import Derived.RowKitTokens
import Derived.LaidLaws
import Derived.LaidHandle
import Derived.Stop.Joined
import Derived.SevenTiedAt
namespace Go.Proofs.YbulkhpaDoor
open Go.ChangeShapes Go.WideShapes Go.RowKit

theorem ownC : ownKnob Ybad.prog.godebug = none := by kernel_rfl
/-- rtype's name, as the listed datum spells it -/
def rtName : String := match (Rows.laid_errors_errorType : DataW Unit) with
  | .iface n _ => n
  | _ => "none"
theorem gEt : Ybad.prog.globalNamed "errors.errorType" = some 1 := by kernel_rfl
theorem rt75 : (Ybad.prog.cutTypes.find? (·.1 == rtName)).map (·.2) = some 75 := by kernel_rfl
theorem oneRow : ((List.range Ybad.prog.types.size).filter fun t => Ybad.prog.rowNamed t [101, 114, 114, 111, 114]) = [25] := by kernel_rfl

/-- WHAT THE CONDITION GIVES A WALK: the variable's one cell. -/
theorem handle_of_laid {W : World} (h : laidMetH Ybad.prog Rows.lawS0416CPathRow.laid W) : W.cell? ⟨1, 0, none⟩ = some (.iface 75 (.agg #[.pointer (some ⟨2, 25, none⟩)])) := by
  have h' : laidMet Ybad.prog [] W ∧ handlesMet Ybad.prog Rows.lawS0416CPathRow.laid W := h
  obtain ⟨name, u, ty, e1, e2, e3, e4, e5⟩ := h'.2 _ (List.mem_singleton.2 rfl)
  have en : name = [101, 114, 114, 111, 114] := (Option.some.inj e1).symm
  subst en
  obtain rfl := Option.some.inj (rt75.symm.trans e2)
  have hm : ty ∈ (List.range Ybad.prog.types.size).filter fun t => Ybad.prog.rowNamed t [101, 114, 114, 111, 114] := List.mem_filter.2 ⟨List.mem_range.2 e3, e4⟩
  rw [oneRow] at hm
  obtain rfl := List.mem_singleton.1 hm
  have hh : typeHandle Ybad.prog 25 = .pointer (some ⟨2, 25, none⟩) := by kernel_rfl
  rw [hh] at e5
  simpa using World.var?_cell gEt e5 0

/-- A world that meets the condition: the settled one, the variable's cell laid. -/
def handleWorld (P : Program) (os : Os) : World :=
  let w0 := World.holding P os ⟨#[], #[], []⟩
  { w0 with heap := w0.heap.modify 1 fun
      | .cells _ t frozen => .cells #[.iface 75 (.agg #[.pointer (some ⟨2, 25, none⟩)])] t frozen
      | o => o }
theorem handle_met (os : Os) (args : Array Value) : laidMetH Ybad.prog Rows.lawS0416CPathRow.laid ((handleWorld Ybad.prog os).forCall (fun _ _ => 0) ⟨#[], args, []⟩).memory :=
  laidMetH_of_parts (laidMet_nil _ _) (by kernel_rfl)
theorem size_of_list {s : ByteArray} (h : s.data.toList.length ≤ reachBytes) : s.size ≤ 140737488355328 := by
  have h1 : s.size = s.data.toList.length := rfl
  unfold reachBytes at h
  omega
end Go.Proofs.YbulkhpaDoor
