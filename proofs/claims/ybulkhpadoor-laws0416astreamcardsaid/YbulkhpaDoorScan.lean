/-
  The scanner's small methods, by their contracts: peek where a byte is at hand, peek where the text has ended, offset. And '==' , '!=' between two errors that are one pointer.
-/
import Derived.Test.YbulkhpaDoorProg
import Derived.WalkKit
import Derived.ProofKit
import Derived.WalkSpells
import Derived.WalkLawsBesides
import Derived.Deep.QuietTactic
import Derived.BigQuiet
import Derived.LaidEql
namespace Go.Proofs.YbulkhpaDoor
open Go.RowKit

theorem comp53 : (Ybad.prog.info? 53).map (·.comparable) = some true := by kernel_rfl
theorem size55 : (Ybad.prog.info? 55).map (·.size) = some 1 := by kernel_rfl

theorem eql_same (a : Addr) (w : World) : (binOp .eql 25 (.iface 53 (.pointer (some a))) (.iface 53 (.pointer (some a)))).run Ybad.prog w = .ok (.bool true) w := by
  obtain ⟨i, hi, hc⟩ := Option.map_eq_some_iff.1 comp53
  obtain ⟨j, hj, _⟩ := Option.map_eq_some_iff.1 size55
  exact run_eql_iface_ptr_same w a Ybad.underlying25 Ybad.underlying53 hi hc hj
theorem neq_same (a : Addr) (w : World) : (binOp .neq 25 (.iface 53 (.pointer (some a))) (.iface 53 (.pointer (some a)))).run Ybad.prog w = .ok (.bool false) w := by
  obtain ⟨i, hi, hc⟩ := Option.map_eq_some_iff.1 comp53
  obtain ⟨j, hj, _⟩ := Option.map_eq_some_iff.1 size55
  simp only [binOp]
  simp [Op.equal, Op.maxDepth, run_equalIn_iface_ptr_same w 9998 a Ybad.underlying25 Ybad.underlying53 hi hc hj]

set_option maxHeartbeats 2000000 in
set_option maxRecDepth 1000000 in
theorem peek_in {B b off len cap i : Nat} {z : Int} {w : World} (h1 : w.cell? ⟨B, 1, none⟩ = some (.slice (some ⟨b, off, none⟩) len cap)) (h2 : w.cell? ⟨B, 2, none⟩ = some (.int .i64 i)) (hlt : i < len)
    (hc : w.cell? ⟨b, off + i, none⟩ = some (.int .u8 z)) :
    Calls Ybad.prog 9 #[.pointer (some ⟨B, 0, none⟩)] w fun e w' => e = .returned (.tuple #[.int .u8 z, .bool true]) ∧ ∃ q, w' = w.drewN q := by
  have hne : ((i : Int) == (len : Int)) = false := beq_eq_false_iff_ne.2 (by omega)
  have hl : (i : Int) < (len : Int) := by omega
  go_enter Ybad.func9, Ybad.ntmps9
  go_wp2
  refine wp_loop_rounds 1 ?_
  rw [rounds_succ]
  go_wp2
  go_quiet (fail)
  go_wp2
  go_quiet (fail)
  go_wp2
  go_ret2
  refine ⟨rfl, ?_⟩
  rw [World.drewN_drewN]
  exact ⟨_, rfl⟩

set_option maxHeartbeats 2000000 in
set_option maxRecDepth 1000000 in
theorem peek_end {B len cap : Nat} {p : Option Addr} {t : TypeId} {v : Value} {w : World} (h1 : w.cell? ⟨B, 1, none⟩ = some (.slice p len cap)) (h2 : w.cell? ⟨B, 2, none⟩ = some (.int .i64 len)) (h4 : w.cell? ⟨B, 4, none⟩ = some (.iface t v)) :
    Calls Ybad.prog 9 #[.pointer (some ⟨B, 0, none⟩)] w fun e w' => e = .returned (.tuple #[.int .u8 0, .bool false]) ∧ ∃ q, w' = w.drewN q := by
  go_enter Ybad.func9, Ybad.ntmps9
  go_wp2
  refine wp_loop_rounds 1 ?_
  rw [rounds_succ]
  go_wp2
  go_quiet (fail)
  go_wp2
  go_ret2
  exact ⟨rfl, _, rfl⟩

set_option maxHeartbeats 2000000 in
set_option maxRecDepth 1000000 in
theorem offset_any {B : Nat} {base i : Int} {w : World} (h3 : w.cell? ⟨B, 3, none⟩ = some (.int .i64 base)) (h2 : w.cell? ⟨B, 2, none⟩ = some (.int .i64 i)) :
    Calls Ybad.prog 10 #[.pointer (some ⟨B, 0, none⟩)] w fun e w' => e = .returned (.int .i64 (wrap64 (base + i))) ∧ ∃ q, w' = w.drewN q := by
  go_enter Ybad.func10, Ybad.ntmps10
  go_wp2
  go_quiet (fail)
  go_wp2
  go_ret
  exact ⟨rfl, _, rfl⟩
end Go.Proofs.YbulkhpaDoor
