/-
  The walk of LawS0416AText.
-/
import Derived.Test.YbulkhpaDoorScan
namespace Go.Proofs.YbulkhpaDoor
open Go.RowKit

set_option maxHeartbeats 4000000 in
set_option maxRecDepth 1000000 in
theorem text_long {p : Option Addr} {len cap : Nat} {w : World} (hs : 4096 < len) (hm : len ≤ maxLen) :
    Calls Ybad.prog 4 #[.slice p len cap] w fun e w' => e = .returned (.bool true) ∧ Below w.heap.size w w' := by
  unfold maxLen at hm
  go_enter Ybad.func4, Ybad.ntmps4
  go_wp2
  go_ret
  exact ⟨rfl, Below.refl _ _⟩

/-- THE SCANNER OVER A TEXT IN MEMORY, at place i: block B is the call's own. -/
structure Scn (w : World) (B : Nat) (p : Option Addr) (len cap : Nat) (a : Addr) (i : Nat) (wr : World) : Prop where
  below : Below B w wr
  buf : wr.cell? ⟨B, 1, none⟩ = some (.slice p len cap)
  place : wr.cell? ⟨B, 2, none⟩ = some (.int .i64 i)
  base : wr.cell? ⟨B, 3, none⟩ = some (.int .i64 0)
  err : wr.cell? ⟨B, 4, none⟩ = some (.iface 53 (.pointer (some a)))
  free : wr.frozen? ⟨B, 2, none⟩ = false

theorem Scn.drewN {w : World} {B : Nat} {p : Option Addr} {len cap : Nat} {a : Addr} {i : Nat} {wr : World} (h : Scn w B p len cap a i wr) (n : Nat) : Scn w B p len cap a i (wr.drewN n) :=
  ⟨⟨h.below.os, h.below.tape, h.below.output, h.below.size, h.below.block⟩, h.buf, h.place, h.base, h.err, h.free⟩

theorem Scn.step {w : World} {B : Nat} {p : Option Addr} {len cap : Nat} {a : Addr} {i : Nat} {wr : World} (h : Scn w B p len cap a i wr) {j : Nat} {v : Int} (hv : v = (j : Int)) : Scn w B p len cap a j (wr.setCell ⟨B, 2, none⟩ (.int .i64 v)) := by
  subst hv
  refine ⟨h.below.setCell (Nat.le_refl _) _, ?_, ?_, ?_, ?_, ?_⟩
  · rw [World.cell?_setCell_other _ _ _ _ (by simp)]; exact h.buf
  · exact World.cell?_setCell_same _ _ _ h.place
  · rw [World.cell?_setCell_other _ _ _ _ (by simp)]; exact h.base
  · rw [World.cell?_setCell_other _ _ _ _ (by simp)]; exact h.err
  · simp [h.free]

theorem scn_new (w : World) (p : Option Addr) (len cap : Nat) (a : Addr) : Scn w w.heap.size p len cap a 0 (w.alloc (.cells #[.nilIface, .slice p len cap, .int .i64 0, .int .i64 0, .iface 53 (.pointer (some a)), .int .i64 0, .bool false, .bool false, .int .i64 0, .slice none 0 0] 38)) :=
  ⟨(Below.refl _ _).alloc (Nat.le_refl _) _, by simp, by simp, by simp, by simp, by simp⟩

theorem newText_any {p : Option Addr} {len cap : Nat} {w : World} {a : Addr} (hg : w.cell? ⟨0, 0, none⟩ = some (.iface 53 (.pointer (some a)))) :
    Calls Ybad.prog 11 #[.slice p len cap] w fun e w' => e = .returned (.pointer (some ⟨w.heap.size, 0, none⟩)) ∧
      w' = w.alloc (.cells #[.nilIface, .slice p len cap, .int .i64 0, .int .i64 0, .iface 53 (.pointer (some a)), .int .i64 0, .bool false, .bool false, .int .i64 0, .slice none 0 0] 38) := by
  go_enter Ybad.func11, Ybad.ntmps11
  go_wp2
  go_ret
  exact ⟨rfl, rfl⟩

set_option maxHeartbeats 4000000 in
set_option maxRecDepth 1000000 in
theorem text_any {p : Option Addr} {len cap b off : Nat} {zs : List Int} {w : World} {a : Addr} (hlen : len ≤ 4096) (hg : w.cell? ⟨0, 0, none⟩ = some (.iface 53 (.pointer (some a))))
    (hp : 0 < len → p = some ⟨b, off, none⟩) (hc : ∀ j, j < len → w.cell? ⟨b, off + j, none⟩ = some (.int .u8 (zs.getD j 0))) :
    Calls Ybad.prog 4 #[.slice p len cap] w fun e w' => e = .returned (.bool true) ∧ Below w.heap.size w w' := by
  have h0 := World.block_lt_of_cell? _ _ hg
  have hz : (0 : Nat) < w.heap.size := h0
  clear h0
  have h4 : decide ((4096 : Int) < (len : Int)) = false := decide_eq_false (by omega)
  go_enter Ybad.func4, Ybad.ntmps4
  go_wp2_with fail
  refine (newText_any hg).mono ?_
  rintro e w1 ⟨rfl, hw⟩
  subst hw
  go_wp2_with fail
  go_loopw [4] (fun v wr => ∃ i : Nat, i ≤ len ∧ v = .int .i64 i ∧ Scn w w.heap.size p len cap a i wr) (fun v _ => len - (intOf v).toNat)
  case atStart => exact ⟨0, Nat.zero_le _, rfl, scn_new w p len cap a⟩
  case round =>
    obtain ⟨i, hi, rfl, hS⟩ := hrel
    by_cases hlt : i < len
    · obtain rfl := hp (by omega)
      have c0 : wr.cell? ⟨b, off + i, none⟩ = some (.int .u8 (zs.getD i 0)) := (hS.below.cell (World.block_lt_of_cell? _ _ (hc i hlt))).trans (hc i hlt)
      clear hp hc
      generalize zs.getD i 0 = z at c0
      go_wp2_with fail
      refine (peek_in hS.buf hS.place hlt c0).mono ?_
      rintro e w1 ⟨rfl, q, hw⟩
      subst hw
      have hl : (i : Int) < (len : Int) := by omega
      go_wp2_with fail
      refine (offset_any (hS.drewN q).base (hS.drewN q).place).mono ?_
      rintro e w1 ⟨rfl, q', hw⟩
      subst hw
      have p2 := hS.place
      have f2 := hS.free
      have hwr : wrap64 (0 + (i : Int)) = (i : Int) := by unfold wrap64; omega
      rw [hwr]
      clear hwr
      go_wp2_with fail
      go_roundw
      case rel => exact ⟨i + 1, by omega, by go_num, (hS.drewN (q + q')).step (j := i + 1) (v := (i : Int) + 1) (by omega)⟩
      case measure => simp [intOf]; omega
    · have hil : i = len := by omega
      subst hil
      clear hp hc
      go_wp2_with fail
      refine (peek_end hS.buf hS.place hS.err).mono ?_
      rintro e w1 ⟨rfl, q, hw⟩
      subst hw
      have hE := eql_same a
      have p4 := hS.err
      have g0 : wr.cell? ⟨0, 0, none⟩ = some (.iface 53 (.pointer (some a))) := (hS.below.cell (p := ⟨0, 0, none⟩) hz).trans hg
      clear hg
      go_wp2_with fail
      go_quiet (fail)
      go_wp2
      go_ret
      exact ⟨rfl, ((hS.drewN _).drewN _).below⟩
end Go.Proofs.YbulkhpaDoor
