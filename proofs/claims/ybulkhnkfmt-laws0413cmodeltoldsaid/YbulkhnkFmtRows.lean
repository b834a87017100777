/-
  NARROWER THAN 'FOR EVERY INPUT', by the rows' own cells (each row's printed sentence says how): LawS0413CModel: ifaces, laid · LawS0413CIdem: ifaces, laid.
  DERIVED. THE GIVEN ROWS OF THIS SEAT. 2 by the template 'for every input the law returns true; each argument reads behind the call as it read before'; 0 by the template 'total and deterministic' (their statements: YbulkhnkFmtTotals.lean).
  GIVEN WITH THE SEED: the statements are not yours to turn. If you find one false, say at which input.
  Laid BY PROGRAM, IN A SANDBOX (cutbox-rows.mjs): the forced cells as the released guide's own fill.sh prints them over the translation f8afc89e5852ef4d… (all of the seat's roots in one cut). By AI agents, Wed Nov 11 2026. No macro, syntax, notation, axiom, sorry.
-/
import Derived.Test.YbulkhnkFmtChecked
import GoSem.Claim
import GoSem.ClaimJoined
import GoSem.ClaimMapViews
import Derived.JoinedTies
import Derived.KernelRfl
namespace Go.Proofs.YbulkhnkFmt
/- THE CELL 'sum', in the pinned program and in every row, IS THE sha256 OF THE DUMP (.gsa) THAT YbulkhnkFmtProg.lean LOADS. Nothing in Lean hashes anything: it is a label: what it is worth is what the hold of that sum in a sandbox is worth. -/
noncomputable def Ybaf.pinned : Pinned := { name := "ybulkhnkfmt", sum := "f8afc89e5852ef4d27f821558eacb554b14a2fc5aa5b7cd3e0627bcf8d943cc7", checked := Ybaf.checked }
namespace Rows
def none {H : Type} : Left H := { results := [], args := [] }

/- WHAT THE LISTED PACKAGE-LEVEL VARIABLES READ AS WHEN THE CALL BEGINS. Each datum BY PROGRAM (the guide's laid-datum.mjs) off the statement by which the dump's own 'gosem.cut.vars' lays the variable. In a bare row this is a premise. The card (YbulkhnkFmtCards.lean) ties it to the program's text. -/
def laid_example_com_tierline_tierline_pkg_toml_ErrInvalid {H : Type} : DataW H := .iface "*errors.errorString" (.ptr (.agg [.lit (.string [110, 111, 116, 32, 118, 97, 108, 105, 100, 32, 84, 79, 77, 76])]))

/-- 'toml.LawS0413CModel': WHATEVER THE INPUT: true; the input reads as it did. -/
def lawS0413CModelSpec : ChangeSpec := { name := "lawS0413CModel", vars := ["example.com/tierline/tierline/pkg/toml.ErrInvalid"], fn := fun _ => fun
  | [d1, d2, d3, g1] => { results := [.lit (.bool true)], args := [d1, d2, d3], vars := [g1] }
  | _ => none }
def lawS0413CModelRow : OpenClaim := { program := "ybulkhnkfmt", sum := "f8afc89e5852ef4d27f821558eacb554b14a2fc5aa5b7cd3e0627bcf8d943cc7", func := "example.com/tierline/tierline/pkg/toml.LawS0413CModel", spec := "lawS0413CModel", stops := ["fmt.errorf"], inPlace := ["fmt.errorf"], named := ["example.com/tierline/tierline/pkg/toml.ErrInvalid"], ifaces := true, apart := false, laid := [("example.com/tierline/tierline/pkg/toml.ErrInvalid", laid_example_com_tierline_tierline_pkg_toml_ErrInvalid)] }
/-- NO THEOREM (fmt's text is open here; it may be false): for the released tool's asking of the row's closed facts alone. THE STATEMENT IS 'LawS0413CModelToldSaid' (YbulkhnkFmtCards.lean). -/
def LawS0413CModelFormAsk : Prop := lawS0413CModelRow.holds Ybaf.pinned (OpenSpec.ofChange lawS0413CModelSpec)

/-- ITS FALSE NEIGHBOUR: 'it returns false'. Refute it at one input. -/
def lawS0413CModelWrong : ChangeSpec := { name := "lawS0413CModel", vars := ["example.com/tierline/tierline/pkg/toml.ErrInvalid"], fn := fun _ => fun
  | [d1, d2, d3, g1] => { results := [.lit (.bool false)], args := [d1, d2, d3], vars := [g1] }
  | _ => none }
def LawS0413CModelWrongFormAsk : Prop := lawS0413CModelRow.holds Ybaf.pinned (OpenSpec.ofChange lawS0413CModelWrong)

/-- 'toml.LawS0413CIdem': WHATEVER THE INPUT: true; the input reads as it did. -/
def lawS0413CIdemSpec : ChangeSpec := { name := "lawS0413CIdem", vars := ["example.com/tierline/tierline/pkg/toml.ErrInvalid"], fn := fun _ => fun
  | [d1, d2, g1] => { results := [.lit (.bool true)], args := [d1, d2], vars := [g1] }
  | _ => none }
def lawS0413CIdemRow : OpenClaim := { program := "ybulkhnkfmt", sum := "f8afc89e5852ef4d27f821558eacb554b14a2fc5aa5b7cd3e0627bcf8d943cc7", func := "example.com/tierline/tierline/pkg/toml.LawS0413CIdem", spec := "lawS0413CIdem", stops := ["fmt.errorf"], inPlace := ["fmt.errorf"], named := ["example.com/tierline/tierline/pkg/toml.ErrInvalid"], ifaces := true, apart := false, laid := [("example.com/tierline/tierline/pkg/toml.ErrInvalid", laid_example_com_tierline_tierline_pkg_toml_ErrInvalid)] }
/-- NO THEOREM (fmt's text is open here; it may be false): for the released tool's asking of the row's closed facts alone. THE STATEMENT IS 'LawS0413CIdemToldSaid' (YbulkhnkFmtCards.lean). -/
def LawS0413CIdemFormAsk : Prop := lawS0413CIdemRow.holds Ybaf.pinned (OpenSpec.ofChange lawS0413CIdemSpec)

/-- ITS FALSE NEIGHBOUR: 'it returns false'. Refute it at one input. -/
def lawS0413CIdemWrong : ChangeSpec := { name := "lawS0413CIdem", vars := ["example.com/tierline/tierline/pkg/toml.ErrInvalid"], fn := fun _ => fun
  | [d1, d2, g1] => { results := [.lit (.bool false)], args := [d1, d2], vars := [g1] }
  | _ => none }
def LawS0413CIdemWrongFormAsk : Prop := lawS0413CIdemRow.holds Ybaf.pinned (OpenSpec.ofChange lawS0413CIdemWrong)

end Rows
end Go.Proofs.YbulkhnkFmt
