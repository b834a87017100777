/-
  The walk of LawS0416CPath.
-/
import Derived.Test.YbulkhpaDoorWithin3
import Derived.LaidEqlPtr
namespace Go.Proofs.YbulkhpaDoor
open Go.RowKit Go.Extern.Stop Go.Stop Go.Extern

theorem assert42 (a : Addr) (w : World) : (Instr.typeAssert (.iface 42 (.pointer (some a))) 25 42 true).run Ybad.prog w = .ok (.tuple #[.pointer (some a), .bool true]) w := by kernel_rfl
theorem size44 : (Ybad.prog.info? 44).map (·.size) = some 2 := by kernel_rfl
theorem neq42 (a : Addr) (w : World) : (binOp .neq 42 (.pointer (some a)) (.pointer (some a))).run Ybad.prog w = .ok (.bool false) w := by
  obtain ⟨j, hj, _⟩ := Option.map_eq_some_iff.1 size44
  have h : ∀ d : Nat, (Op.equalIn (d + 1) 42 (.pointer (some a)) (.pointer (some a))).run Ybad.prog w = .ok true w := fun d => by
    simp [Op.equalIn, run_underlying Ybad.underlying42, sizeOf, typeInfo, hj, run_sameAddr_same]
  simp only [binOp]
  simp [Op.equal, Op.maxDepth, h 9999]

set_option maxHeartbeats 8000000 in
set_option maxRecDepth 1000000 in
theorem path_0 {outer path msg : ByteArray} {mode : Int} {w : World} (hg : w.cell? ⟨1, 0, none⟩ = some (.iface 75 (.agg #[.pointer (some ⟨2, 25, none⟩)])))
    (ho : outer.size ≤ 140737488355328) (hp : path.size ≤ 140737488355328) (m0 : 0 ≤ mode) (m1 : mode ≤ 255) (hm : mode % 3 = 0) :
    Calls Ybad.prog 5 #[.string outer, .string path, .string msg, .int .u8 mode] w fun e w' => e = .returned (.bool true) ∧ Below w.heap.size w w' := by
  have b1 : Below w.heap.size w (w.alloc (.cells #[.string path, .string msg] 44)) := (Below.refl _ w).alloc (Nat.le_refl _) _
  have bb : Below (w.alloc (.cells #[.string path, .string msg] 44)).heap.size (w.alloc (.cells #[.string path, .string msg] 44)) (w.alloc (.cells #[.string path, .string msg] 44)) := Below.refl _ _
  have hch : Chain (w.alloc (.cells #[.string path, .string msg] 44)) 0 (.iface 42 (.pointer (some ⟨w.heap.size, 0, none⟩))) (.iface 42 (.pointer (some ⟨w.heap.size, 0, none⟩))) := rfl
  have b2 : Below w.heap.size w (w.alloc (.cells #[.string path, .string msg] 44)) := b1.trans (bb.mono (by simp))
  have hg1 := cell_later b2 hg
  have e1 : ((mode % 3) == 1) = false := beq_eq_false_iff_ne.2 (by omega)
  have e2 : ((mode % 3) == 2) = false := beq_eq_false_iff_ne.2 (by omega)
  have j0 : (w.alloc (.cells #[.string path, .string msg] 44)).cell? ⟨w.heap.size, 0, none⟩ = some (.string path) := by simp
  have j1 : (w.alloc (.cells #[.string path, .string msg] 44)).cell? ⟨w.heap.size, 1, none⟩ = some (.string msg) := by simp
  have jf : (w.alloc (.cells #[.string path, .string msg] 44)).frozen? ⟨w.heap.size, 0, none⟩ = false := by simp
  have k0 := cell_later bb j0
  have k1 := cell_later bb j1
  have kf := (bb.frozen (p := ⟨w.heap.size, 0, none⟩) (by simp)).trans jf
  clear hm j0 j1 jf bb b1
  have hta := assert42
  have hnq := neq42
  go_enter Ybad.func5, Ybad.ntmps5
  go_wp2_with fail
  refine (within_hit (n := 0) (k := w.heap.size) hg1 hch k0 k1 kf ho hp).mono ?_
  rintro e w1 ⟨rfl, h1⟩
  have c0 := h1.path
  have c1 := h1.msg
  have HB : Hid (Below w.heap.size w w1) := b2.trans (h1.below.mono (Nat.le_refl _))
  clear hg1 hg k0 k1 kf hch b2 h1
  go_wp2_with fail
  go_quiet ((go_at_call 13; exact Calls.quiet_of_same (want_any ho hp)))
  go_wp2
  go_ret
  exact ⟨rfl, ⟨HB.out.os, HB.out.tape, HB.out.output, HB.out.size, HB.out.block⟩⟩

set_option maxHeartbeats 8000000 in
set_option maxRecDepth 1000000 in
theorem path_1 {outer path msg : ByteArray} {mode : Int} {w : World} (hg : w.cell? ⟨1, 0, none⟩ = some (.iface 75 (.agg #[.pointer (some ⟨2, 25, none⟩)])))
    (ho : outer.size ≤ 140737488355328) (hp : path.size ≤ 140737488355328) (m0 : 0 ≤ mode) (m1 : mode ≤ 255) (hm : mode % 3 = 1) :
    Calls Ybad.prog 5 #[.string outer, .string path, .string msg, .int .u8 mode] w fun e w' => e = .returned (.bool true) ∧ Below w.heap.size w w' := by
  have b1 : Below w.heap.size w (w.alloc (.cells #[.string path, .string msg] 44)) := (Below.refl _ w).alloc (Nat.le_refl _) _
  have bb : Below (w.alloc (.cells #[.string path, .string msg] 44)).heap.size (w.alloc (.cells #[.string path, .string msg] 44)) ((w.alloc (.cells #[.string path, .string msg] 44)).alloc (.cells #[.iface 42 (.pointer (some ⟨w.heap.size, 0, none⟩))] 47)) := (Below.refl _ _).alloc (Nat.le_refl _) _
  have hch : Chain ((w.alloc (.cells #[.string path, .string msg] 44)).alloc (.cells #[.iface 42 (.pointer (some ⟨w.heap.size, 0, none⟩))] 47)) 1 (.iface 45 (.pointer (some ⟨w.heap.size + 1, 0, none⟩))) (.iface 42 (.pointer (some ⟨w.heap.size, 0, none⟩))) :=
    ⟨w.heap.size + 1, _, rfl, by rw [World.cell?_alloc_at _ _ _ _ (by simp)]; rfl, rfl⟩
  have b2 : Below w.heap.size w ((w.alloc (.cells #[.string path, .string msg] 44)).alloc (.cells #[.iface 42 (.pointer (some ⟨w.heap.size, 0, none⟩))] 47)) := b1.trans (bb.mono (by simp))
  have hg1 := cell_later b2 hg
  have e1 : ((mode % 3) == 1) = true := beq_iff_eq.2 hm
  have j0 : (w.alloc (.cells #[.string path, .string msg] 44)).cell? ⟨w.heap.size, 0, none⟩ = some (.string path) := by simp
  have j1 : (w.alloc (.cells #[.string path, .string msg] 44)).cell? ⟨w.heap.size, 1, none⟩ = some (.string msg) := by simp
  have jf : (w.alloc (.cells #[.string path, .string msg] 44)).frozen? ⟨w.heap.size, 0, none⟩ = false := by simp
  have k0 := cell_later bb j0
  have k1 := cell_later bb j1
  have kf := (bb.frozen (p := ⟨w.heap.size, 0, none⟩) (by simp)).trans jf
  clear hm j0 j1 jf bb b1
  have hta := assert42
  have hnq := neq42
  go_enter Ybad.func5, Ybad.ntmps5
  go_wp2_with fail
  refine (within_hit (n := 1) (k := w.heap.size) hg1 hch k0 k1 kf ho hp).mono ?_
  rintro e w1 ⟨rfl, h1⟩
  have c0 := h1.path
  have c1 := h1.msg
  have HB : Hid (Below w.heap.size w w1) := b2.trans (h1.below.mono (Nat.le_refl _))
  clear hg1 hg k0 k1 kf hch b2 h1
  go_wp2_with fail
  go_quiet ((go_at_call 13; exact Calls.quiet_of_same (want_any ho hp)))
  go_wp2
  go_ret
  exact ⟨rfl, ⟨HB.out.os, HB.out.tape, HB.out.output, HB.out.size, HB.out.block⟩⟩

set_option maxHeartbeats 8000000 in
set_option maxRecDepth 1000000 in
theorem path_2 {outer path msg : ByteArray} {mode : Int} {w : World} (hg : w.cell? ⟨1, 0, none⟩ = some (.iface 75 (.agg #[.pointer (some ⟨2, 25, none⟩)])))
    (ho : outer.size ≤ 140737488355328) (hp : path.size ≤ 140737488355328) (m0 : 0 ≤ mode) (m1 : mode ≤ 255) (hm : mode % 3 = 2) :
    Calls Ybad.prog 5 #[.string outer, .string path, .string msg, .int .u8 mode] w fun e w' => e = .returned (.bool true) ∧ Below w.heap.size w w' := by
  have b1 : Below w.heap.size w (w.alloc (.cells #[.string path, .string msg] 44)) := (Below.refl _ w).alloc (Nat.le_refl _) _
  have bb : Below (w.alloc (.cells #[.string path, .string msg] 44)).heap.size (w.alloc (.cells #[.string path, .string msg] 44)) (((w.alloc (.cells #[.string path, .string msg] 44)).alloc (.cells #[.iface 42 (.pointer (some ⟨w.heap.size, 0, none⟩))] 47)).alloc (.cells #[.iface 45 (.pointer (some ⟨w.heap.size + 1, 0, none⟩))] 47)) := ((Below.refl _ _).alloc (Nat.le_refl _) _).alloc (by simp) _
  have hc1 : ((w.alloc (.cells #[.string path, .string msg] 44)).alloc (.cells #[.iface 42 (.pointer (some ⟨w.heap.size, 0, none⟩))] 47)).cell? ⟨w.heap.size + 1, 0, none⟩ = some (.iface 42 (.pointer (some ⟨w.heap.size, 0, none⟩))) := by
    rw [World.cell?_alloc_at _ _ _ _ (by simp)]; rfl
  have hch : Chain (((w.alloc (.cells #[.string path, .string msg] 44)).alloc (.cells #[.iface 42 (.pointer (some ⟨w.heap.size, 0, none⟩))] 47)).alloc (.cells #[.iface 45 (.pointer (some ⟨w.heap.size + 1, 0, none⟩))] 47)) 2 (.iface 45 (.pointer (some ⟨w.heap.size + 1 + 1, 0, none⟩))) (.iface 42 (.pointer (some ⟨w.heap.size, 0, none⟩))) :=
    ⟨w.heap.size + 1 + 1, _, rfl, by rw [World.cell?_alloc_at _ _ _ _ (by simp)]; rfl, w.heap.size + 1, _, rfl, cell_later ((Below.refl _ _).alloc (Nat.le_refl _) _) hc1, rfl⟩
  clear hc1
  have b2 : Below w.heap.size w (((w.alloc (.cells #[.string path, .string msg] 44)).alloc (.cells #[.iface 42 (.pointer (some ⟨w.heap.size, 0, none⟩))] 47)).alloc (.cells #[.iface 45 (.pointer (some ⟨w.heap.size + 1, 0, none⟩))] 47)) := b1.trans (bb.mono (by simp))
  have hg1 := cell_later b2 hg
  have e1 : ((mode % 3) == 1) = false := beq_eq_false_iff_ne.2 (by omega)
  have e2 : ((mode % 3) == 2) = true := beq_iff_eq.2 hm
  have j0 : (w.alloc (.cells #[.string path, .string msg] 44)).cell? ⟨w.heap.size, 0, none⟩ = some (.string path) := by simp
  have j1 : (w.alloc (.cells #[.string path, .string msg] 44)).cell? ⟨w.heap.size, 1, none⟩ = some (.string msg) := by simp
  have jf : (w.alloc (.cells #[.string path, .string msg] 44)).frozen? ⟨w.heap.size, 0, none⟩ = false := by simp
  have k0 := cell_later bb j0
  have k1 := cell_later bb j1
  have kf := (bb.frozen (p := ⟨w.heap.size, 0, none⟩) (by simp)).trans jf
  clear hm j0 j1 jf bb b1
  have hta := assert42
  have hnq := neq42
  go_enter Ybad.func5, Ybad.ntmps5
  go_wp2_with fail
  refine (within_hit (n := 2) (k := w.heap.size) hg1 hch k0 k1 kf ho hp).mono ?_
  rintro e w1 ⟨rfl, h1⟩
  have c0 := h1.path
  have c1 := h1.msg
  have HB : Hid (Below w.heap.size w w1) := b2.trans (h1.below.mono (Nat.le_refl _))
  clear hg1 hg k0 k1 kf hch b2 h1
  go_wp2_with fail
  go_quiet ((go_at_call 13; exact Calls.quiet_of_same (want_any ho hp)))
  go_wp2
  go_ret
  exact ⟨rfl, ⟨HB.out.os, HB.out.tape, HB.out.output, HB.out.size, HB.out.block⟩⟩
end Go.Proofs.YbulkhpaDoor
