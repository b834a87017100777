/-
  newScanner, errors.New; the scanner's first state; its step to the next byte.
-/
import Derived.Test.YbulkhpaDoorPeek2
import Derived.Deep.OwnRows
namespace Go.Proofs.YbulkhpaDoor
open Go.RowKit

theorem Ybad.info5 : (Ybad.prog.info? 5).map (fun i => (i.zero, i.size, i.bytes)) = some (some (.int .u8 0), 1, 1) := by kernel_rfl

/-- the window: 65536 bytes -/
def bigRow : Obj := .cells (madeCells #[.int .u8 0] 65536) 5

theorem make_window (w : World) : (Instr.makeSlice 23 (.int .i64 0) (.int .i64 65536)).run Ybad.prog w = .ok (.slice (some ⟨w.heap.size, 0, none⟩) 0 65536) (w.alloc bigRow) := by
  obtain ⟨i, hi, hzz⟩ := Option.map_eq_some_iff.1 Ybad.info5
  simp only [Prod.mk.injEq] at hzz
  obtain ⟨hz, hs, hb⟩ := hzz
  have h := run_make (P := Ybad.prog) w 23 5 i _ Ybad.underlying23 hi hz .i64 .i64 0 65536 (by omega) (by omega) (by rw [hb]; omega) (by omega)
  rw [hs] at h
  exact h

theorem newScanner_any (src : Value) (hsrc : IsIface src) (bo : Int) (w : World) :
    Calls Ybad.prog 8 #[src, .int .i64 bo] w fun e w' => e = .returned (.pointer (some ⟨w.heap.size + 1, 0, none⟩)) ∧
      w' = (w.alloc bigRow).alloc (.cells #[src, .slice (some ⟨w.heap.size, 0, none⟩) 0 65536, .int .i64 0, .int .i64 bo, .nilIface, .int .i64 0, .bool false, .bool false, .int .i64 0, .slice none 0 0] 38) := by
  have hmk := make_window
  cases src <;> simp only [IsIface] at hsrc
  all_goals go_enter Ybad.func8, Ybad.ntmps8
  all_goals go_wp2
  all_goals go_ret
  all_goals exact ⟨rfl, rfl⟩

theorem errNew_any (t : ByteArray) (w : World) :
    Calls Ybad.prog 7 #[.string t] w fun e w' => e = .returned (.iface 53 (.pointer (some ⟨w.heap.size, 0, none⟩))) ∧ w' = w.alloc (.cells #[.string t] 55) := by
  go_enter Ybad.func7, Ybad.ntmps7
  go_wp2
  go_ret
  exact ⟨rfl, rfl⟩

theorem wrap64_wf {bo : Int} (h : (Lit.int .i64 bo).wf = true) : wrap64 bo = bo := by
  simp [Lit.wf, IntKind.min, IntKind.max, IntKind.signed, IntKind.bits] at h
  unfold wrap64; omega

theorem big_cell (w : World) (j : Nat) (hj : j < 65536) : (w.alloc bigRow).cell? ⟨w.heap.size, j, none⟩ = some (.int .u8 0) := by
  unfold bigRow
  rw [World.cell?_alloc_at _ _ _ _ rfl]
  simp [madeCells, hj, Nat.mod_one]
theorem frozen_new (w : World) (cs : Array Value) (t : TypeId) (x : Addr) (h : x.block = w.heap.size) : (w.alloc (.cells cs t)).frozen? x = false := by
  have hn : w.heap[x.block]? = none := by rw [h]; simp
  rw [frozen?_alloc_cells]
  simp [World.frozen?, hn]

theorem str_new {V : World} {p : Option Addr} {n cp : Nat} {fe : Addr} {X : Nat → List Int} {bo : Int} (hbo : wrap64 bo = bo) :
    St V p n cp fe X bo 0 (((V.alloc (.cells #[.slice p n cp, .int .i64 0, .iface 53 (.pointer (some fe)), .int .i64 0] 29)).alloc bigRow).alloc
      (.cells #[.iface 27 (.pointer (some ⟨V.heap.size, 0, none⟩)), .slice (some ⟨V.heap.size + 1, 0, none⟩) 0 65536, .int .i64 0, .int .i64 bo, .nilIface, .int .i64 0, .bool false, .bool false, .int .i64 0, .slice none 0 0] 38)) := by
  obtain ⟨V1, h1⟩ : ∃ V1, V1 = V.alloc (.cells #[.slice p n cp, .int .i64 0, .iface 53 (.pointer (some fe)), .int .i64 0] 29) := ⟨_, rfl⟩
  have z1 : V1.heap.size = V.heap.size + 1 := by rw [h1]; simp
  obtain ⟨V2, h2⟩ : ∃ V2, V2 = V1.alloc bigRow := ⟨_, rfl⟩
  have z2 : V2.heap.size = V.heap.size + 2 := by rw [h2]; simp [z1]
  rw [← h1, ← h2]
  have a1 : ∀ (o : Obj) (x : Addr), x.block < V2.heap.size → (V2.alloc o).cell? x = V2.cell? x := fun o x hx => World.cell?_alloc_lt _ _ x hx
  have a2 : ∀ x : Addr, x.block < V1.heap.size → V2.cell? x = V1.cell? x := fun x hx => by rw [h2]; exact World.cell?_alloc_lt _ _ x hx
  have f1 : ∀ (o : Obj) (x : Addr), x.block < V2.heap.size → (V2.alloc o).frozen? x = V2.frozen? x := fun o x hx => World.frozen?_alloc_old _ _ x (Nat.ne_of_lt hx)
  have f2 : ∀ x : Addr, x.block < V1.heap.size → V2.frozen? x = V1.frozen? x := fun x hx => by rw [h2]; exact World.frozen?_alloc_old _ _ x (Nat.ne_of_lt hx)
  refine ⟨0, 0, 0, 0, ?_, Nat.le_refl _, rfl, Nat.zero_le _, by omega, rfl⟩
  have hr : ∀ i, i < 4 → (V2.alloc (.cells #[.iface 27 (.pointer (some ⟨V.heap.size, 0, none⟩)), .slice (some ⟨V.heap.size + 1, 0, none⟩) 0 65536, .int .i64 0, .int .i64 bo, .nilIface, .int .i64 0, .bool false, .bool false, .int .i64 0, .slice none 0 0] 38)).cell? ⟨V.heap.size, i, none⟩ = V1.cell? ⟨V.heap.size, i, none⟩ := fun i _ => by
    rw [a1 _ _ (by simp [z2]), a2 _ (by simp [z1])]
  have hc : ∀ i, (V2.alloc (.cells #[.iface 27 (.pointer (some ⟨V.heap.size, 0, none⟩)), .slice (some ⟨V.heap.size + 1, 0, none⟩) 0 65536, .int .i64 0, .int .i64 bo, .nilIface, .int .i64 0, .bool false, .bool false, .int .i64 0, .slice none 0 0] 38)).cell? ⟨V.heap.size + 2, i, none⟩
      = (#[.iface 27 (.pointer (some ⟨V.heap.size, 0, none⟩)), .slice (some ⟨V.heap.size + 1, 0, none⟩) 0 65536, .int .i64 0, .int .i64 bo, .nilIface, .int .i64 0, .bool false, .bool false, .int .i64 0, .slice none 0 0] : Array Value)[i]? := fun i => by
    rw [World.cell?_alloc_at _ _ _ _ (by simp [z2])]
  have hb0 : Below V.heap.size V V1 := by rw [h1]; exact (Below.refl _ _).alloc (Nat.le_refl _) _
  have hb1 : Below V.heap.size V V2 := by rw [h2]; exact hb0.alloc (by omega) _
  refine ⟨hb1.alloc (by omega) _, by simp [z2], ?_, ?_, ?_, ?_, ?_, ?_, ?_, ?_, ?_, ?_, ?_, ?_, ?_, ?_, ?_, ?_⟩
  · rw [hr 0 (by omega), h1]; simp
  · rw [hr 1 (by omega), h1]; simp
  · rw [hr 2 (by omega), h1]; simp
  · rw [hr 3 (by omega), h1]; simp
  · intro i; rw [f1 _ _ (by simp [z2]), f2 _ (by simp [z1]), h1]; exact frozen_new _ _ _ _ rfl
  · rw [hc]; rfl
  · rw [hc]; rfl
  · rw [hc]; rfl
  · rw [hc, show bo + ((0 : Nat) : Int) = bo by simp, hbo]; rfl
  · rw [hc]; rfl
  · rw [hc]; rfl
  · rw [hc]; rfl
  · intro i; exact frozen_new _ _ _ _ (by simp [z2])
  · intro j hj
    rw [a1 _ _ (by simp [z2]), h2, ← z1, big_cell V1 j hj]; rfl
  · intro i
    rw [f1 _ _ (by simp [z2]), h2, ← z1]; exact frozen_new _ _ _ _ rfl
  · intro j hj; omega

/-- the step past a byte -/
theorem at_step {V : World} {p : Option Addr} {n cp : Nat} {fe : Addr} {fl : List Int} {bo : Int} {s m c k : Nat} {w : World} (h : Str V p n cp fe fl bo s m c k .nilIface k w) {v : Int} (hv : v = (c : Int) + 1) :
    Str V p n cp fe fl bo s m (c + 1) k .nilIface k (w.setCell ⟨V.heap.size + 2, 2, none⟩ (.int .i64 v)) := by
  subst hv
  have ko : ∀ x : Addr, x ≠ ⟨V.heap.size + 2, 2, none⟩ → (w.setCell ⟨V.heap.size + 2, 2, none⟩ (.int .i64 ((c : Int) + 1))).cell? x = w.cell? x := fun x hx => World.cell?_setCell_other _ _ _ _ (fun e => hx e.symm)
  refine ⟨h.below.setCell (by simp) _, by simpa [World.setCell] using h.size, (ko _ (by simp)).trans h.r0, (ko _ (by simp)).trans h.r1, (ko _ (by simp)).trans h.r2, (ko _ (by simp)).trans h.r3, fun i => by rw [World.frozen?_setCell]; exact h.rf i,
    (ko _ (by simp)).trans h.s0, (ko _ (by simp)).trans h.s1, ?_, (ko _ (by simp)).trans h.s3, (ko _ (by simp)).trans h.s4, (ko _ (by simp)).trans h.s6, (ko _ (by simp)).trans h.s8, fun i => by rw [World.frozen?_setCell]; exact h.sf i,
    fun j hj => by rw [ko _ (by simp)]; exact h.room j hj, fun i => by rw [World.frozen?_setCell]; exact h.gf i, fun j hj => (ko _ (by simp)).trans (h.head j hj)⟩
  rw [Int.natCast_add]
  exact World.cell?_setCell_same _ _ _ h.s2

theorem pre_le {X : Nat → List Int} : ∀ k, (∀ r, r < k → (X r).length ≤ 1024) → pre X k ≤ 1024 * k
  | 0, _ => by simp [pre_zero]
  | k + 1, h => by
    have := pre_le k (fun r hr => h r (by omega))
    have := h k (by omega)
    rw [pre_succ]; omega

/-- what the gathered bytes give the comparison -/
theorem want_cells {w : World} {B N : Nat} {v : Value} {ys : List Int} (h : w.ownsRow B 5 1 v N (ys.map (Value.int .u8))) (hN : 0 < N) :
    ∃ g cap, v = .slice (some ⟨g, 0, none⟩) N cap ∧ g < w.heap.size ∧ ∀ j, j < N → w.cell? ⟨g, j, none⟩ = some (.int .u8 (ys.getD j 0)) := by
  obtain ⟨hl, h2⟩ := h
  rcases h2 with ⟨_, h0⟩ | ⟨g, cap, cur, rfl, _, hg, _, _, _, ht⟩
  · omega
  · have hlen : ys.length = N := by simpa using hl
    have hlt : g < w.heap.size := by
      rcases Nat.lt_or_ge g w.heap.size with h | h
      · exact h
      · simp [Array.getElem?_eq_none h] at hg
    refine ⟨g, cap, rfl, hlt, fun j hj => ?_⟩
    have hy : (ys.map (Value.int .u8))[j]? = some (.int .u8 (ys.getD j 0)) := by
      simp [List.getD, List.getElem?_eq_getElem (show j < ys.length by omega)]
    rw [← ht, List.getElem?_take, if_pos (by omega)] at hy
    simp only [World.cell?, hg]
    simpa using hy

end Go.Proofs.YbulkhpaDoor
