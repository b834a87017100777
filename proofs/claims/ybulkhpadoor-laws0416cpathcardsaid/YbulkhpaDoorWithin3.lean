/-
  within over a keyError under n wrappers.
-/
import Derived.Test.YbulkhpaDoorWithin2
namespace Go.Proofs.YbulkhpaDoor
open Go.RowKit Go.Extern.Stop Go.Stop Go.Extern

/-- what within leaves of the keyError in block k -/
structure Laid (k : Nat) (p m : ByteArray) (w w' : World) : Prop where
  below : Below k w w'
  path : w'.cell? ⟨k, 0, none⟩ = some (.string p)
  msg : w'.cell? ⟨k, 1, none⟩ = some (.string m)

theorem laid_set {k : Nat} {p p0 m : ByteArray} {w w1 : World} (hk : k < w.heap.size) (hb : Below w.heap.size w w1) (h0 : w1.cell? ⟨k, 0, none⟩ = some (.string p0)) (h1 : w1.cell? ⟨k, 1, none⟩ = some (.string m)) :
    Laid k p m w (w1.setCell ⟨k, 0, none⟩ (.string p)) :=
  ⟨(hb.mono (Nat.le_of_lt hk)).setCell (Nat.le_refl _) _, World.cell?_setCell_same _ _ _ h0, by rw [World.cell?_setCell_other _ _ _ _ (by simp)]; exact h1⟩

theorem Laid.drew {k : Nat} {p m : ByteArray} {w w' : World} (h : Laid k p m w w') : Laid k p m w w'.drew := ⟨h.below.drew, h.path, h.msg⟩

set_option maxHeartbeats 8000000 in
set_option maxRecDepth 1000000 in
theorem within_hit {outer path msg : ByteArray} {T : TypeId} {v : Value} {n k : Nat} {w : World} (hg : w.cell? ⟨1, 0, none⟩ = some (.iface 75 (.agg #[.pointer (some ⟨2, 25, none⟩)])))
    (hch : Chain w n (.iface T v) (.iface 42 (.pointer (some ⟨k, 0, none⟩)))) (h0 : w.cell? ⟨k, 0, none⟩ = some (.string path)) (h1 : w.cell? ⟨k, 1, none⟩ = some (.string msg)) (hf : w.frozen? ⟨k, 0, none⟩ = false)
    (ho : outer.size ≤ 140737488355328) (hp : path.size ≤ 140737488355328) :
    Calls Ybad.prog 12 #[.string outer, .iface T v] w fun e w' => e = .returned (.iface 42 (.pointer (some ⟨k, 0, none⟩))) ∧ Laid k (wantPath outer path) msg w w' := by
  have b1 : Below w.heap.size w (w.alloc (.cells #[.pointer none] 42)) := (Below.refl _ w).alloc (Nat.le_refl _) _
  have hg1 := cell_later b1 hg
  have hc1 := hch.later b1
  have HA : Hid (Calls Ybad.prog 15 #[.iface T v, .iface 57 (.pointer (some ⟨w.heap.size, 0, none⟩))] (w.alloc (.cells #[.pointer none] 42)) fun ev w' => ev = .returned (.bool true) ∧ (Below w.heap.size w w' ∧ w'.cell? ⟨w.heap.size, 0, none⟩ = some (.pointer (some ⟨k, 0, none⟩)))) := by
    refine As_core hg1 ?_
    have b2 : Below (w.alloc (.cells #[.pointer none] 42)).heap.size (w.alloc (.cells #[.pointer none] 42)) (((w.alloc (.cells #[.pointer none] 42)).alloc (.cells #[.pointer (some ⟨w.heap.size, 0, none⟩)] 57)).alloc (.cells #[.pointer (some ⟨2, 57, none⟩), .pointer (some ⟨(w.alloc (.cells #[.pointer none] 42)).heap.size, 0, none⟩), .int .u64 150] 64)) :=
      ((Below.refl _ _).alloc (Nat.le_refl _) _).alloc (by simp) _
    have ht : (w.alloc (.cells #[.pointer none] 42)).cell? ⟨w.heap.size, 0, none⟩ = some (.pointer none) := by simp
    have hfz : (w.alloc (.cells #[.pointer none] 42)).frozen? ⟨w.heap.size, 0, none⟩ = false := by simp
    have hlt : w.heap.size < (w.alloc (.cells #[.pointer none] 42)).heap.size := by simp
    refine (as_hit (t := ⟨w.heap.size, 0, none⟩) (hc1.later b2) ?_ (cell_later b2 ht) ((b2.frozen (p := ⟨w.heap.size, 0, none⟩) hlt).trans hfz)).mono fun e w' ⟨he, hb, hc⟩ => ⟨he, b1.trans ((b2.mono (Nat.le_of_lt hlt)).trans hb), hc⟩
    rw [World.cell?_alloc_lt _ _ ⟨(w.alloc (.cells #[.pointer none] 42)).heap.size, 0, none⟩ (by simp)]
    simp
  have hk := World.block_lt_of_cell? _ _ h0
  have hkw : k < w.heap.size := hk
  clear b1 hg1 hc1 hg hch hk
  by_cases hz : 0 < path.size
  · have hE : path.toList.isEmpty = false := by
      rw [Lib.toList_data]
      cases hd : path.data.toList with
      | nil => rw [Lib.size_eq, hd] at hz; simp at hz
      | cons _ _ => rfl
    by_cases h91 : path[0].toNat = 91
    · have e : wantPath outer path = outer ++ path := by unfold wantPath; rw [dif_pos hz, if_pos h91]
      rw [e]
      clear e
      go_enter Ybad.func12, Ybad.ntmps12
      go_wp2_with fail
      refine HA.out.mono ?_
      rintro e w1 ⟨rfl, hb, hv⟩
      have c0 := cell_later hb h0
      have c1 := cell_later hb h1
      have cf := (hb.frozen (p := ⟨k, 0, none⟩) hkw).trans hf
      clear h0 h1 hf HA
      go_wp2_with fail
      refine (bracket_yes hz hp h91).mono ?_
      rintro e w2 ⟨rfl, hw2⟩
      subst hw2
      have H91 : Hid (path[0].toNat = 91) := h91
      clear h91
      go_wp2_with fail
      go_region
      go_wp2
      go_ret
      exact ⟨rfl, (laid_set hkw hb c0 c1).drew⟩
    · have e : wantPath outer path = outer ++ ⟨#[46]⟩ ++ path := by unfold wantPath; rw [dif_pos hz, if_neg h91]
      rw [e]
      clear e
      go_enter Ybad.func12, Ybad.ntmps12
      go_wp2_with fail
      refine HA.out.mono ?_
      rintro e w1 ⟨rfl, hb, hv⟩
      have c0 := cell_later hb h0
      have c1 := cell_later hb h1
      have cf := (hb.frozen (p := ⟨k, 0, none⟩) hkw).trans hf
      clear h0 h1 hf HA
      go_wp2_with fail
      refine (bracket_no hz hp h91).mono ?_
      rintro e w2 ⟨rfl, hw2⟩
      subst hw2
      clear h91
      go_wp2_with fail
      go_region
      go_wp2
      go_ret
      exact ⟨rfl, (laid_set hkw hb c0 c1).drew⟩
  · have e : wantPath outer path = outer := by unfold wantPath; rw [dif_neg hz]
    rw [e]
    have hE : path.toList.isEmpty = true := by
      rw [Lib.toList_data]
      cases hd : path.data.toList with
      | nil => rfl
      | cons _ _ => rw [Lib.size_eq, hd] at hz; simp at hz
    clear e
    go_enter Ybad.func12, Ybad.ntmps12
    go_wp2_with fail
    refine HA.out.mono ?_
    rintro e w1 ⟨rfl, hb, hv⟩
    have c0 := cell_later hb h0
    have c1 := cell_later hb h1
    have cf := (hb.frozen (p := ⟨k, 0, none⟩) hkw).trans hf
    clear h0 h1 hf HA
    go_wp2
    go_ret
    exact ⟨rfl, laid_set hkw hb c0 c1⟩
end Go.Proofs.YbulkhpaDoor
