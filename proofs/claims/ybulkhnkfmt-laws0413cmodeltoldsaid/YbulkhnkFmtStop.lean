/-
  The closed facts of this dump on fmt's stopped front (fmt.errorf: function 17), and the contracts of utf8.RuneCountInString, failAt, fail: an error that is not nil; what lay there before is as it was.
-/
import Derived.Test.YbulkhnkFmtWalksA
import Derived.Test.YbulkhnkFmtRows
import Derived.Stop.CallBack
import Derived.Stop.IfaceNil
import Derived.Laws.RangeAny
import Derived.Lib.RuneCount
import Derived.Deep.LoopGhost
import GoSem.ClaimData
namespace Go.Proofs.YbulkhnkFmt
open Go.RowKit Go.Extern.Stop Go.Stop Go.Extern

theorem call17 (args : Array Value) (w : World) : (callFunc 17 args).run Ybaf.prog w = ((FmtStop.errorf #[9, 42] #[30] args).run Ybaf.prog w).andThen fun v w' => .ok (.value v) w' :=
  run_callFunc_extern Ybaf.func17 (by kernel_rfl) (by kernel_rfl) (by kernel_rfl) (by kernel_rfl) args w
theorem guard (name : String) (w : World) : (FmtStop.guard name).run Ybaf.prog w = .ok () w := by kernel_rfl
theorem fmt4 : FmtStop.printed? ⟨#[108, 105, 110, 101, 32, 37, 100, 44, 32, 99, 111, 108, 117, 109, 110, 32, 37, 100, 58, 32, 37, 119, 58, 32, 37, 115]⟩ 4 = some [(0, 100, false), (1, 100, false), (2, 119, false), (3, 115, false)] := by kernel_rfl
theorem fmt4r (w : World) : (FmtDoors.printed ⟨#[108, 105, 110, 101, 32, 37, 100, 44, 32, 99, 111, 108, 117, 109, 110, 32, 37, 100, 58, 32, 37, 119, 58, 32, 37, 115]⟩ 4).run Ybaf.prog w = .ok [(0, 100, false), (1, 100, false), (2, 119, false), (3, 115, false)] w := by kernel_rfl
theorem fmt0 : FmtStop.printed? ⟨#[108, 105, 110, 101, 32, 37, 100, 44, 32, 99, 111, 108, 117, 109, 110, 32, 37, 100, 58, 32, 37, 119, 58, 32, 37, 115]⟩ 0 = some [] := by kernel_rfl
theorem fmt0r (w : World) : (FmtDoors.printed ⟨#[108, 105, 110, 101, 32, 37, 100, 44, 32, 99, 111, 108, 117, 109, 110, 32, 37, 100, 58, 32, 37, 119, 58, 32, 37, 115]⟩ 0).run Ybaf.prog w = .ok [] w := by kernel_rfl
def shape9 : List UInt8 := [12, 6, 0, 0, 0, 0, 0, 0, 0, 115, 116, 114, 105, 110, 103]
theorem op9_115w (name : String) (x : ByteArray) (w : World) : (FmtStop.operand name true 115 false (.iface 9 (.string x))).run Ybaf.prog w = .ok (shape9, FmtStop.pack x.data.toList) w := by kernel_rfl
theorem strict9 (name : String) (x : ByteArray) (w : World) : (FmtStop.strict name (.iface 9 (.string x))).run Ybaf.prog w = .ok (shape9, FmtStop.pack x.data.toList) w := by kernel_rfl
def shape3 : List UInt8 := [5, 3, 0, 0, 0, 0, 0, 0, 0, 105, 110, 116]
theorem op3_100w (name : String) (x : Int) (w : World) : (FmtStop.operand name true 100 false (.iface 3 (.int .i64 x))).run Ybaf.prog w = .ok (shape3, Go.Extern.Stop.digits 8 (x % 2 ^ 64).toNat) w := by kernel_rfl
theorem strict3 (name : String) (x : Int) (w : World) : (FmtStop.strict name (.iface 3 (.int .i64 x))).run Ybaf.prog w = .ok (shape3, Go.Extern.Stop.digits 8 (x % 2 ^ 64).toNat) w := by kernel_rfl
theorem ptr44 (w : World) : (FmtStop.ptrTo "errors.errorString").run Ybaf.prog w = .ok 44 w := by kernel_rfl
theorem elem44 (w : World) : (elemOf 44).run Ybaf.prog w = .ok 46 w := by kernel_rfl
theorem isError44 (w : World) : (FmtDoors.textMethod 44 "Error").run Ybaf.prog w = .ok true w := by kernel_rfl
theorem ptr43 (w : World) : (FmtStop.ptrTo "fmt.wrapError").run Ybaf.prog w = .ok 43 w := by kernel_rfl
theorem elem43 (w : World) : (elemOf 43).run Ybaf.prog w = .ok 65 w := by kernel_rfl
theorem isError43 (w : World) : (FmtDoors.textMethod 43 "Error").run Ybaf.prog w = .ok true w := by kernel_rfl
/-- the type's name, as the listed datum spells it -/
def errName : String := match (Rows.laid_example_com_tierline_tierline_pkg_toml_ErrInvalid : DataW Unit) with
  | .iface n _ => n
  | _ => "none"
def plain44 : List UInt8 := 14 :: FmtStop.pack errName.toUTF8.data.toList
theorem opPlain44_119w (name : String) (a : Addr) (s : ByteArray) (w : World) (hc : w.cell? a = some (.string s)) :
    (FmtStop.operand name true 119 false (.iface 44 (.pointer (some a)))).run Ybaf.prog w = .ok (plain44, s.data.toList) w := by
  have h1 : (typeStr 44).run Ybaf.prog w = .ok errName w := by kernel_rfl
  have d2 : Ybaf.t44.desc = .pointer 46 := rfl
  have d3 : Ybaf.t46.desc = .named "errors.errorString" 45 := rfl
  simp [FmtStop.operand, h1, d2, d3, run_load, hc, plain44]

attribute [local go_sem] call17 guard fmt4 fmt4r fmt0 fmt0r op9_115w strict9 op3_100w strict3 ptr44 elem44 isError44 ptr43 elem43 isError43

theorem Par.later {W : World} {b : Nat} {s : ByteArray} {d : Int} {i : Nat} {w w' : World} (h : Par W b s d i w) (hb : Below w.heap.size w w') : Par W b s d i w' := by
  have hz := h.size
  refine ⟨h.below.trans (hb.mono (by omega)), Nat.lt_of_lt_of_le hz hb.size, cell_later hb h.text, cell_later hb h.pos, cell_later hb h.depth, ?_⟩
  rw [hb.frozen (p := ⟨b, 1, none⟩) hz]; exact h.free

set_option maxHeartbeats 2000000 in
set_option maxRecDepth 1000000 in
theorem runeCount_any (s : ByteArray) (w : World) : Calls Ybaf.prog 15 #[.string s] w fun e w' => ∃ n : Int, e = .returned (.int .i64 n) ∧ Below w.heap.size w w' := by
  go_enter Ybaf.func15, Ybaf.ntmps15
  go_wp2
  go_loopg [2] s.size (fun g s2 wx => ∃ (n : Int) (i : Nat), s.size ≤ i + g ∧ s2 = .int .i64 n ∧ wx = w.iter s i)
  case atStart => exact ⟨0, 0, by omega, rfl, rfl⟩
  case round =>
    obtain ⟨n, i, hig, rfl, rfl⟩ := hrel
    by_cases hi : i < s.size
    · cases gk with
      | zero => omega
      | succ g =>
        have hw := Lib.decode_width_pos s i hi
        have hnx := fun ty => run_next_any (P := Ybaf.prog) w s i ty hi
        go_wp2
        go_roundg g
        case measure => omega
        case rel => exact ⟨_, _, by omega, rfl, rfl⟩
    · have hnx := fun ty => run_next_end (P := Ybaf.prog) w s i ty hi
      go_wp2
      go_ret
      exact ⟨n, rfl, (Below.refl _ _).alloc (Nat.le_refl _) _⟩

set_option maxHeartbeats 4000000 in
set_option maxRecDepth 1000000 in
theorem failAt_any (F : Interp) {W : World} {b : Nat} {s : ByteArray} {d : Int} {i : Nat} {w : World} (a : Addr) (t r : ByteArray) (h : Par W b s d i w) (hi : i ≤ s.size) (hs : s.size ≤ maxLen)
    (hF : F.answers w.tape) (hg : w.cell? ⟨0, 0, none⟩ = some (.iface 44 (.pointer (some a)))) (ha : w.cell? a = some (.string t)) :
    Calls Ybaf.prog 14 #[.pointer (some ⟨b, 0, none⟩), .int .i64 i, .string r] w fun e w' => ∃ x, e = .returned (.iface 43 (.pointer (some x))) ∧ Below w.heap.size w w' := by
  have hm : s.size ≤ 2 ^ 63 - 1 := hs
  have p0 := h.text
  go_enter Ybaf.func14, Ybaf.ntmps14
  go_wp2
  go_loop [7, 8, 9] (fun ln ls k => ∃ (n : Int) (l m : Nat), l ≤ m ∧ m ≤ i ∧ ln = .int .i64 n ∧ ls = .int .i64 l ∧ k = .int .i64 m) (fun _ _ k => i - (intOf k).toNat)
  case atStart => exact ⟨1, 0, 0, Nat.le_refl _, Nat.zero_le _, rfl, rfl, rfl⟩
  case round =>
    obtain ⟨n, l, m, hl, hm2, rfl, rfl, rfl⟩ := hrel
    by_cases hlt : m < i
    · have hms : m < s.size := by omega
      go_wp2
      all_goals go_round
      case rel => exact ⟨_, m + 1, m + 1, Nat.le_refl _, by omega, rfl, by go_num, by go_num⟩
      case measure => simp [intOf]; omega
      case rel => exact ⟨n, l, m + 1, by omega, by omega, rfl, rfl, by go_num⟩
      case measure => simp [intOf]; omega
    · go_wp2_with fail
      refine (runeCount_any _ _).mono ?_
      rintro e w1 ⟨n1, rfl, hb⟩
      have ha1 : w1.cell? a = some (.string t) := cell_later hb ha
      have hg1 : w1.cell? ⟨0, 0, none⟩ = some (.iface 44 (.pointer (some a))) := cell_later hb hg
      have hF1 : F.answers w1.tape := by rw [hb.tape]; exact hF
      have hF' := answers_open hF1
      have hop := fun o => opPlain44_119w "fmt.errorf" a t (w1.alloc o) (cell_later ((Below.refl _ w1).alloc (Nat.le_refl _) o) ha1)
      have hz := hb.size
      have HB : Hid (Below w.heap.size w w1) := hb
      clear hb ha hg hF hF1 h p0
      go_wp2
      go_ret
      exact ⟨_, rfl, ((HB.out.alloc hz _).alloc (by simp; omega) _).drew⟩

set_option maxHeartbeats 4000000 in
set_option maxRecDepth 1000000 in
theorem fail_any (F : Interp) {W : World} {b : Nat} {s : ByteArray} {d : Int} {i : Nat} {w : World} (a : Addr) (t r : ByteArray) (h : Par W b s d i w) (hi : i ≤ s.size) (hs : s.size ≤ maxLen)
    (hF : F.answers w.tape) (hg : w.cell? ⟨0, 0, none⟩ = some (.iface 44 (.pointer (some a)))) (ha : w.cell? a = some (.string t)) :
    Calls Ybaf.prog 13 #[.pointer (some ⟨b, 0, none⟩), .string r] w fun e w' => ∃ x, e = .returned (.iface 43 (.pointer (some x))) ∧ Par W b s d i w' := by
  have p1 := h.pos
  go_enter Ybaf.func13, Ybaf.ntmps13
  go_wp2_with fail
  refine (failAt_any F a t r h hi hs hF hg ha).mono ?_
  rintro e w1 ⟨x, rfl, hb⟩
  clear p1
  go_wp2
  go_ret
  exact ⟨x, rfl, h.later hb⟩
end Go.Proofs.YbulkhnkFmt
