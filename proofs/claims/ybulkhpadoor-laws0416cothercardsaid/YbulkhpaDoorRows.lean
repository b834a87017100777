/-
  NARROWER THAN 'FOR EVERY INPUT', by the rows' own cells (each row's printed sentence says how): LawS0416AStream: laid · LawS0416AText: laid · LawS0416CPath: laid · LawS0416COther: laid.
  DERIVED. THE GIVEN ROWS OF THIS SEAT. 4 by the template 'for every input the law returns true; each argument reads behind the call as it read before'; 0 by the template 'total and deterministic' (their statements: YbulkhpaDoorTotals.lean).
  GIVEN WITH THE SEED: the statements are not yours to turn. If you find one false, say at which input.
  Laid BY PROGRAM, IN A SANDBOX (cutbox-rows.mjs): the forced cells as the released guide's own fill.sh prints them over the translation a5d4cea41224ec75… (all of the seat's roots in one cut). By AI agents, Wed Nov 11 2026. No macro, syntax, notation, axiom, sorry.
-/
import Derived.Test.YbulkhpaDoorChecked
import GoSem.Claim
import GoSem.ClaimJoined
import GoSem.ClaimMapViews
import Derived.JoinedTies
import Derived.KernelRfl
namespace Go.Proofs.YbulkhpaDoor
/- THE CELL 'sum', in the pinned program and in every row, IS THE sha256 OF THE DUMP (.gsa) THAT YbulkhpaDoorProg.lean LOADS. Nothing in Lean hashes anything: it is a label: what it is worth is what the hold of that sum in a sandbox is worth. -/
noncomputable def Ybad.pinned : Pinned := { name := "ybulkhpadoor", sum := "a5d4cea41224ec752dd298cfe01f86914195c1629435eaea747068b66d9c1b70", checked := Ybad.checked }
namespace Rows
def none {H : Type} : Left H := { results := [], args := [] }

/- WHAT THE LISTED PACKAGE-LEVEL VARIABLES READ AS WHEN THE CALL BEGINS. Each datum BY PROGRAM (the guide's laid-datum.mjs) off the statement by which the dump's own 'gosem.cut.vars' lays the variable. In a bare row this is a premise. The card (YbulkhpaDoorCards.lean) ties it to the program's text. -/
def laid_io_EOF {H : Type} : DataW H := .iface "*errors.errorString" (.ptr (.agg [.lit (.string [69, 79, 70])]))
def laid_errors_errorType {H : Type} : DataW H := .iface "internal/reflectlite.rtype" (.agg [.ptr (.lit (.string [101, 114, 114, 111, 114]))])

/-- 'replay.LawS0416AStream': WHATEVER THE INPUT: true; the input reads as it did. -/
def lawS0416AStreamSpec : ChangeSpec := { name := "lawS0416AStream", fn := fun _ => fun
  | [d1, d2, d3] => { results := [.lit (.bool true)], args := [d1, d2, d3] }
  | _ => none }
def lawS0416AStreamRow : OpenClaim := { program := "ybulkhpadoor", sum := "a5d4cea41224ec752dd298cfe01f86914195c1629435eaea747068b66d9c1b70", func := "example.com/margincall/margincall/internal/replay.LawS0416AStream", spec := "lawS0416AStream", unfollowed := true, recurses := true, named := ["io.EOF"], apart := false, laid := [("io.EOF", laid_io_EOF)] }
def LawS0416AStreamSaid : Prop := lawS0416AStreamRow.holds Ybad.pinned (OpenSpec.ofChange lawS0416AStreamSpec)

/-- ITS FALSE NEIGHBOUR: 'it returns false'. Refute it at one input. -/
def lawS0416AStreamWrong : ChangeSpec := { name := "lawS0416AStream", fn := fun _ => fun
  | [d1, d2, d3] => { results := [.lit (.bool false)], args := [d1, d2, d3] }
  | _ => none }
def LawS0416AStreamWrongFalsely : Prop := lawS0416AStreamRow.holds Ybad.pinned (OpenSpec.ofChange lawS0416AStreamWrong)

/-- 'replay.LawS0416AText': WHATEVER THE INPUT: true; the input reads as it did. -/
def lawS0416ATextSpec : ChangeSpec := { name := "lawS0416AText", fn := fun _ => fun
  | [d] => { results := [.lit (.bool true)], args := [d] }
  | _ => none }
def lawS0416ATextRow : OpenClaim := { program := "ybulkhpadoor", sum := "a5d4cea41224ec752dd298cfe01f86914195c1629435eaea747068b66d9c1b70", func := "example.com/margincall/margincall/internal/replay.LawS0416AText", spec := "lawS0416AText", unfollowed := true, recurses := true, named := ["io.EOF"], apart := false, laid := [("io.EOF", laid_io_EOF)] }
def LawS0416ATextSaid : Prop := lawS0416ATextRow.holds Ybad.pinned (OpenSpec.ofChange lawS0416ATextSpec)

/-- ITS FALSE NEIGHBOUR: 'it returns false'. Refute it at one input. -/
def lawS0416ATextWrong : ChangeSpec := { name := "lawS0416AText", fn := fun _ => fun
  | [d] => { results := [.lit (.bool false)], args := [d] }
  | _ => none }
def LawS0416ATextWrongFalsely : Prop := lawS0416ATextRow.holds Ybad.pinned (OpenSpec.ofChange lawS0416ATextWrong)

/-- 'replay.LawS0416CPath': WHATEVER THE INPUT: true; the input reads as it did. -/
def lawS0416CPathSpec : ChangeSpec := { name := "lawS0416CPath", fn := fun _ => fun
  | [d1, d2, d3, d4] => { results := [.lit (.bool true)], args := [d1, d2, d3, d4] }
  | _ => none }
def lawS0416CPathRow : OpenClaim := { program := "ybulkhpadoor", sum := "a5d4cea41224ec752dd298cfe01f86914195c1629435eaea747068b66d9c1b70", func := "example.com/margincall/margincall/internal/replay.LawS0416CPath", spec := "lawS0416CPath", inPlace := ["internal/reflectlite.ValueOf", "(internal/reflectlite.Value).Type", "(internal/reflectlite.Value).IsNil", "internal/reflectlite.TypeOf", "(internal/reflectlite.Value).Elem", "(internal/reflectlite.Value).Set"], unfollowed := true, recurses := true, named := ["errors.errorType"], apart := false, laid := [("errors.errorType", laid_errors_errorType)] }
def LawS0416CPathSaid : Prop := lawS0416CPathRow.holds Ybad.pinned (OpenSpec.ofChange lawS0416CPathSpec)

/-- ITS FALSE NEIGHBOUR: 'it returns false'. Refute it at one input. -/
def lawS0416CPathWrong : ChangeSpec := { name := "lawS0416CPath", fn := fun _ => fun
  | [d1, d2, d3, d4] => { results := [.lit (.bool false)], args := [d1, d2, d3, d4] }
  | _ => none }
def LawS0416CPathWrongFalsely : Prop := lawS0416CPathRow.holds Ybad.pinned (OpenSpec.ofChange lawS0416CPathWrong)

/-- 'replay.LawS0416COther': WHATEVER THE INPUT: true; the input reads as it did. -/
def lawS0416COtherSpec : ChangeSpec := { name := "lawS0416COther", fn := fun _ => fun
  | [d1, d2, d3] => { results := [.lit (.bool true)], args := [d1, d2, d3] }
  | _ => none }
def lawS0416COtherRow : OpenClaim := { program := "ybulkhpadoor", sum := "a5d4cea41224ec752dd298cfe01f86914195c1629435eaea747068b66d9c1b70", func := "example.com/margincall/margincall/internal/replay.LawS0416COther", spec := "lawS0416COther", inPlace := ["internal/reflectlite.ValueOf", "(internal/reflectlite.Value).Type", "(internal/reflectlite.Value).IsNil", "internal/reflectlite.TypeOf", "(internal/reflectlite.Value).Elem", "(internal/reflectlite.Value).Set"], unfollowed := true, recurses := true, named := ["errors.errorType"], apart := false, laid := [("errors.errorType", laid_errors_errorType)] }
def LawS0416COtherSaid : Prop := lawS0416COtherRow.holds Ybad.pinned (OpenSpec.ofChange lawS0416COtherSpec)

/-- ITS FALSE NEIGHBOUR: 'it returns false'. Refute it at one input. -/
def lawS0416COtherWrong : ChangeSpec := { name := "lawS0416COther", fn := fun _ => fun
  | [d1, d2, d3] => { results := [.lit (.bool false)], args := [d1, d2, d3] }
  | _ => none }
def LawS0416COtherWrongFalsely : Prop := lawS0416COtherRow.holds Ybad.pinned (OpenSpec.ofChange lawS0416COtherWrong)

end Rows
end Go.Proofs.YbulkhpaDoor
