/-
  DERIVED. GIVEN WITH THE SEED: THE CARDS: each row of YbulkhpaDoorRows.lean that lists a variable, with what it lists TIED to the program's text (the seventh form; the later family's looks); each row that meets fmt, with fmt's text TOLD by the authors' own Lean function (tested against real Go, not proved from fmt's source: count such statements apart). THE CARD IS WHAT COUNTS. Prove the row's statement (the work); the ties are given (YbulkhpaDoorTie.lean); close each card by the builder's one call (the guide's Derived/Test/ToyasCard.lean, 'card_holds'). Laid BY PROGRAM, IN A SANDBOX (cutbox-door.mjs). By AI agents, Wed Nov 11 2026. No macro, syntax, notation, axiom, sorry.
-/
import Derived.Test.YbulkhpaDoorRows
import GoSem.ClaimSeven
namespace Go.Proofs.YbulkhpaDoor
namespace Rows

/-- THE TIED CARD OF 'replay.LawS0416AStream'. -/
def lawS0416AStreamCard : Claim7 := { stood := { row := lawS0416AStreamRow, standIns := [], harness := (true, "d1f15a6852ae6f8c3888c494d7e384a50a3388eeca30a75fc0342617805faa02"), looks := true }, kinds := [], alts := [], laidByText := true, laidKinds := [.called], laidTests := true, laidLooks := .later }
def LawS0416AStreamCardSaid : Prop := Claim7.holds Ybad.pinned (.plain (OpenSpec.ofChange lawS0416AStreamSpec)) lawS0416AStreamCard

/-- THE TIED CARD OF 'replay.LawS0416AText'. -/
def lawS0416ATextCard : Claim7 := { stood := { row := lawS0416ATextRow, standIns := [], harness := (true, "d1f15a6852ae6f8c3888c494d7e384a50a3388eeca30a75fc0342617805faa02"), looks := true }, kinds := [], alts := [], laidByText := true, laidKinds := [.called], laidTests := true, laidLooks := .later }
def LawS0416ATextCardSaid : Prop := Claim7.holds Ybad.pinned (.plain (OpenSpec.ofChange lawS0416ATextSpec)) lawS0416ATextCard

/-- THE TIED CARD OF 'replay.LawS0416CPath'. -/
def lawS0416CPathCard : Claim7 := { stood := { row := lawS0416CPathRow, standIns := [], harness := (true, "d1f15a6852ae6f8c3888c494d7e384a50a3388eeca30a75fc0342617805faa02"), looks := true }, kinds := [], alts := [], laidByText := true, laidKinds := [.handle], laidTests := true, laidLooks := .later }
def LawS0416CPathCardSaid : Prop := Claim7.holds Ybad.pinned (.plain (OpenSpec.ofChange lawS0416CPathSpec)) lawS0416CPathCard

/-- THE TIED CARD OF 'replay.LawS0416COther'. -/
def lawS0416COtherCard : Claim7 := { stood := { row := lawS0416COtherRow, standIns := [], harness := (true, "d1f15a6852ae6f8c3888c494d7e384a50a3388eeca30a75fc0342617805faa02"), looks := true }, kinds := [], alts := [], laidByText := true, laidKinds := [.handle], laidTests := true, laidLooks := .later }
def LawS0416COtherCardSaid : Prop := Claim7.holds Ybad.pinned (.plain (OpenSpec.ofChange lawS0416COtherSpec)) lawS0416COtherCard
end Rows
end Go.Proofs.YbulkhpaDoor
