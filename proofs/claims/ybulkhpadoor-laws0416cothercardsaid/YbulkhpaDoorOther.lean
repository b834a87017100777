/-
  The walk of LawS0416COther.
-/
import Derived.Test.YbulkhpaDoorWithin2
namespace Go.Proofs.YbulkhpaDoor
open Go.RowKit Go.Extern.Stop Go.Stop Go.Extern

theorem comp53' : (Ybad.prog.info? 53).map (·.comparable) = some true := by kernel_rfl
theorem comp45 : (Ybad.prog.info? 45).map (·.comparable) = some true := by kernel_rfl
theorem size55' : (Ybad.prog.info? 55).map (·.size) = some 1 := by kernel_rfl
theorem size47 : (Ybad.prog.info? 47).map (·.size) = some 1 := by kernel_rfl
theorem eql53 (a : Addr) (w : World) : (binOp .eql 25 (.iface 53 (.pointer (some a))) (.iface 53 (.pointer (some a)))).run Ybad.prog w = .ok (.bool true) w := by
  obtain ⟨i, hi, hc⟩ := Option.map_eq_some_iff.1 comp53'
  obtain ⟨j, hj, _⟩ := Option.map_eq_some_iff.1 size55'
  exact run_eql_iface_ptr_same w a Ybad.underlying25 Ybad.underlying53 hi hc hj
theorem eql45 (a : Addr) (w : World) : (binOp .eql 25 (.iface 45 (.pointer (some a))) (.iface 45 (.pointer (some a)))).run Ybad.prog w = .ok (.bool true) w := by
  obtain ⟨i, hi, hc⟩ := Option.map_eq_some_iff.1 comp45
  obtain ⟨j, hj, _⟩ := Option.map_eq_some_iff.1 size47
  exact run_eql_iface_ptr_same w a Ybad.underlying25 Ybad.underlying45 hi hc hj

theorem errNew (t : ByteArray) (w : World) :
    Calls Ybad.prog 7 #[.string t] w fun e w' => e = .returned (.iface 53 (.pointer (some ⟨w.heap.size, 0, none⟩))) ∧ w' = w.alloc (.cells #[.string t] 55) := by
  go_enter Ybad.func7, Ybad.ntmps7
  go_wp2
  go_ret
  exact ⟨rfl, rfl⟩

set_option maxHeartbeats 4000000 in
set_option maxRecDepth 1000000 in
theorem other_any {outer text : ByteArray} {wrap : Bool} {w : World} (hg : w.cell? ⟨1, 0, none⟩ = some (.iface 75 (.agg #[.pointer (some ⟨2, 25, none⟩)]))) :
    Calls Ybad.prog 6 #[.string outer, .string text, .bool wrap] w fun e w' => e = .returned (.bool true) ∧ Below w.heap.size w w' := by
  have b1 : Below w.heap.size w (w.alloc (.cells #[.string text] 55)) := (Below.refl _ w).alloc (Nat.le_refl _) _
  cases wrap
  · have hg1 := cell_later b1 hg
    have h53 := eql53
    go_enter Ybad.func6, Ybad.ntmps6
    go_wp2_with fail
    refine within_nil.mono ?_
    rintro e w0 ⟨rfl, hw0⟩
    rw [hw0]
    clear hw0
    go_wp2_with fail
    refine (errNew _ _).mono ?_
    rintro e w1 ⟨rfl, hw1⟩
    subst hw1
    go_wp2_with fail
    refine (within_miss (n := 0) hg1 rfl).mono ?_
    rintro e w2 ⟨rfl, h2⟩
    have H2 : Hid (Below w.heap.size w w2) := b1.trans (h2.mono (by simp))
    clear h2 b1 hg1 hg
    go_wp2
    go_ret
    exact ⟨rfl, H2.out⟩
  · have b2 : Below w.heap.size w ((w.alloc (.cells #[.string text] 55)).alloc (.cells #[.iface 53 (.pointer (some ⟨w.heap.size, 0, none⟩))] 47)) := b1.alloc (by simp) _
    have hg2 := cell_later b2 hg
    have hch : Chain ((w.alloc (.cells #[.string text] 55)).alloc (.cells #[.iface 53 (.pointer (some ⟨w.heap.size, 0, none⟩))] 47)) 1 (.iface 45 (.pointer (some ⟨w.heap.size + 1, 0, none⟩))) (.iface 53 (.pointer (some ⟨w.heap.size, 0, none⟩))) :=
      ⟨w.heap.size + 1, _, rfl, by rw [World.cell?_alloc_at _ _ _ _ (by simp)]; rfl, rfl⟩
    have h45 := eql45
    go_enter Ybad.func6, Ybad.ntmps6
    go_wp2_with fail
    refine within_nil.mono ?_
    rintro e w0 ⟨rfl, hw0⟩
    rw [hw0]
    clear hw0
    go_wp2_with fail
    refine (errNew _ _).mono ?_
    rintro e w1 ⟨rfl, hw1⟩
    subst hw1
    go_wp2_with fail
    refine (within_miss (n := 1) hg2 hch).mono ?_
    rintro e w2 ⟨rfl, h2⟩
    have H2 : Hid (Below w.heap.size w w2) := b2.trans (h2.mono (by simp; omega))
    clear h2 b1 b2 hg2 hg hch
    go_wp2
    go_ret
    exact ⟨rfl, H2.out⟩
end Go.Proofs.YbulkhpaDoor
