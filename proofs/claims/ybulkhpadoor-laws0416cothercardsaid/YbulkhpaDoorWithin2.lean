/-
  strings.HasPrefix at "[", zzs0416cwant and within, by their contracts.
-/
import Derived.Test.YbulkhpaDoorWithin
namespace Go.Proofs.YbulkhpaDoor
open Go.RowKit Go.Extern.Stop Go.Stop Go.Extern

theorem cut1 (s : ByteArray) (h : 0 < s.size) : (s.extract 0 1).toList = [s[0]] := by
  have hl : 0 < s.data.toList.length := by rw [← Lib.size_eq]; exact h
  rw [Lib.extract_toList, List.drop_eq_getElem_cons hl]
  rfl

set_option maxHeartbeats 2000000 in
set_option maxRecDepth 1000000 in
theorem bracket_yes {s : ByteArray} {w : World} (h0 : 0 < s.size) (hm : s.size ≤ 140737488355328) (h : s[0].toNat = 91) :
    Calls Ybad.prog 16 #[.string s, .string ⟨#[91]⟩] w fun e w' => e = .returned (.bool true) ∧ w' = w := by
  have hc : ((s.extract 0 1).toList == [91]) = true := by
    have : s[0] = 91 := UInt8.toNat_inj.1 h
    rw [cut1 s h0, this]; rfl
  have hl : (1 : Int) ≤ (s.size : Int) := by omega
  clear h
  go_enter Ybad.func16, Ybad.ntmps16
  go_wp2
  go_ret
  exact ⟨rfl, rfl⟩

set_option maxHeartbeats 2000000 in
set_option maxRecDepth 1000000 in
theorem bracket_no {s : ByteArray} {w : World} (h0 : 0 < s.size) (hm : s.size ≤ 140737488355328) (h : ¬ s[0].toNat = 91) :
    Calls Ybad.prog 16 #[.string s, .string ⟨#[91]⟩] w fun e w' => e = .returned (.bool false) ∧ w' = w := by
  have hc : ((s.extract 0 1).toList == [91]) = false := by
    have : (s[0] == 91) = false := beq_eq_false_iff_ne.2 (fun e => h (by rw [e]; rfl))
    rw [cut1 s h0]; simp [this]
  have hl : (1 : Int) ≤ (s.size : Int) := by omega
  clear h
  go_enter Ybad.func16, Ybad.ntmps16
  go_wp2
  go_ret
  exact ⟨rfl, rfl⟩

/-- the path that within is to lay -/
def wantPath (outer path : ByteArray) : ByteArray :=
  if h : 0 < path.size then (if path[0].toNat = 91 then outer ++ path else outer ++ ⟨#[46]⟩ ++ path) else outer

set_option maxHeartbeats 2000000 in
set_option maxRecDepth 1000000 in
theorem want_any {outer path : ByteArray} {w : World} (ho : outer.size ≤ 140737488355328) (hp : path.size ≤ 140737488355328) :
    Calls Ybad.prog 13 #[.string outer, .string path] w fun e w' => e = .returned (.string (wantPath outer path)) ∧ w' = w := by
  by_cases h0 : 0 < path.size
  · have hz : ((path.size : Int) == 0) = false := beq_eq_false_iff_ne.2 (by omega)
    by_cases h91 : path[0].toNat = 91
    · have e : wantPath outer path = outer ++ path := by unfold wantPath; rw [dif_pos h0, if_pos h91]
      rw [e]
      have hb : (((path[0].toNat : Nat) : Int) == 91) = true := by rw [h91]; rfl
      clear e h91
      go_enter Ybad.func13, Ybad.ntmps13
      go_wp2
      go_ret
      exact ⟨rfl, rfl⟩
    · have e : wantPath outer path = outer ++ ⟨#[46]⟩ ++ path := by unfold wantPath; rw [dif_pos h0, if_neg h91]
      rw [e]
      have hb : (((path[0].toNat : Nat) : Int) == 91) = false := beq_eq_false_iff_ne.2 (by omega)
      clear e h91
      go_enter Ybad.func13, Ybad.ntmps13
      go_wp2
      go_ret
      exact ⟨rfl, rfl⟩
  · have e : wantPath outer path = outer := by unfold wantPath; rw [dif_neg h0]
    rw [e]
    have hz : ((path.size : Int) == 0) = true := beq_iff_eq.2 (by omega)
    clear e
    go_enter Ybad.func13, Ybad.ntmps13
    go_wp2
    go_ret
    exact ⟨rfl, rfl⟩

theorem within_nil {outer : ByteArray} {w : World} : Calls Ybad.prog 12 #[.string outer, .nilIface] w fun e w' => e = .returned .nilIface ∧ w' = w := by
  go_enter Ybad.func12, Ybad.ntmps12
  go_wp2
  go_ret
  exact ⟨rfl, rfl⟩

set_option maxHeartbeats 4000000 in
set_option maxRecDepth 1000000 in
theorem within_miss {outer : ByteArray} {T : TypeId} {v u : Value} {n : Nat} {w : World} (hg : w.cell? ⟨1, 0, none⟩ = some (.iface 75 (.agg #[.pointer (some ⟨2, 25, none⟩)]))) (hch : Chain w n (.iface T v) (.iface 53 u)) :
    Calls Ybad.prog 12 #[.string outer, .iface T v] w fun e w' => e = .returned (.iface T v) ∧ Below w.heap.size w w' := by
  have b1 : Below w.heap.size w (w.alloc (.cells #[.pointer none] 42)) := (Below.refl _ w).alloc (Nat.le_refl _) _
  have hg1 := cell_later b1 hg
  have hc1 := hch.later b1
  have HA : Hid (Calls Ybad.prog 15 #[.iface T v, .iface 57 (.pointer (some ⟨w.heap.size, 0, none⟩))] (w.alloc (.cells #[.pointer none] 42)) fun ev w' => ev = .returned (.bool false) ∧ Below w.heap.size w w') := by
    refine As_core hg1 ?_
    have b2 : Below (w.alloc (.cells #[.pointer none] 42)).heap.size (w.alloc (.cells #[.pointer none] 42)) (((w.alloc (.cells #[.pointer none] 42)).alloc (.cells #[.pointer (some ⟨w.heap.size, 0, none⟩)] 57)).alloc (.cells #[.pointer (some ⟨2, 57, none⟩), .pointer (some ⟨(w.alloc (.cells #[.pointer none] 42)).heap.size, 0, none⟩), .int .u64 150] 64)) :=
      ((Below.refl _ _).alloc (Nat.le_refl _) _).alloc (by simp) _
    exact (as_miss (hc1.later b2)).mono fun e w' ⟨he, hb⟩ => ⟨he, b1.trans ((b2.trans (hb.mono (by simp))).mono (by simp))⟩
  clear b1 hg1 hc1 hg hch
  go_enter Ybad.func12, Ybad.ntmps12
  go_wp2_with fail
  refine HA.out.mono ?_
  rintro e w1 ⟨rfl, h1⟩
  go_wp2
  go_ret
  exact ⟨rfl, h1⟩
end Go.Proofs.YbulkhpaDoor
