/-
  The walk of LawS0413CModel: a text made out of the codes, then the check.
-/
import Derived.Test.YbulkhnkFmtCheck
import Derived.Deep.OwnRows
import Derived.Laws.BytesArg
namespace Go.Proofs.YbulkhnkFmt
open Go.RowKit Go.Extern.Stop Go.Stop Go.Extern

theorem Ybaf.info5 : (Ybaf.prog.info? 5).map (fun i => (i.zero, i.size, i.bytes)) = some (some (.int .u8 0), 1, 1) := by kernel_rfl

set_option maxHeartbeats 4000000 in
set_option maxRecDepth 1000000 in
theorem mlaw_long {p : Option Addr} {len cap : Nat} {k d : Int} {w : World} (hs : 1024 < len) (hm : len ≤ maxLen) :
    Calls Ybaf.prog 3 #[.slice p len cap, .int .u64 k, .int .i64 d] w fun e w' => e = .returned (.bool true) ∧ Below w.heap.size w w' := by
  unfold maxLen at hm
  go_enter Ybaf.func3, Ybaf.ntmps3
  go_wp2
  go_ret
  exact ⟨rfl, Below.refl _ _⟩

/-- the call's own row of n bytes, in block B, whatever they are -/
def Row (B n : Nat) (w wr : World) : Prop := Below B w wr ∧ B < wr.heap.size ∧ ∃ cs : List Int, cs.length = n ∧ (∀ j, j < n → wr.cell? ⟨B, j, none⟩ = some (.int .u8 (cs.getD j 0))) ∧ (∀ j, j < n → wr.frozen? ⟨B, j, none⟩ = false)

theorem row_new (w : World) (n : Nat) : Row w.heap.size n w (w.alloc (.cells (madeCells #[.int .u8 0] n) 5)) := by
  refine ⟨(Below.refl _ _).alloc (Nat.le_refl _) _, by simp, List.replicate n 0, by simp, ?_, ?_⟩
  · intro j hj
    rw [World.cell?_alloc_at _ _ _ _ rfl]
    simp [madeCells, hj, Nat.mod_one]
  · intro j hj
    simp

theorem row_set {B n : Nat} {w wr : World} (h : Row B n w wr) (k : Nat) (v : Int) : Row B n w (wr.setCell ⟨B, k, none⟩ (.int .u8 v)) := by
  obtain ⟨hb, hz, cs, hl, hc, hf⟩ := h
  refine ⟨hb.setCell (Nat.le_refl _) _, by simpa [World.setCell] using hz, cs.set k v, by simpa using hl, ?_, ?_⟩
  · intro j hj
    by_cases e : j = k
    · subst e
      rw [World.cell?_setCell_same _ _ _ (hc j hj)]
      simp [List.getD, hl, hj]
    · rw [World.cell?_setCell_other _ _ _ _ (by simp), hc j hj]
      simp [List.getD, Ne.symm e]
  · intro j hj
    simp [hf j hj]

set_option maxHeartbeats 4000000 in
set_option maxRecDepth 1000000 in
theorem mlaw_any (F : Interp) {p : Option Addr} {len cap : Nat} {k d : Int} {w : World} {a : Addr} {t : ByteArray} {b off : Nat} {zs : List Int} (S : Sent F w w.heap.size a t) (hlen : len ≤ 1024) (hk0 : 0 ≤ k) (hk1 : k < 18446744073709551616)
    (hp : 0 < len → p = some ⟨b, off, none⟩) (hc : ∀ j, j < len → w.cell? ⟨b, off + j, none⟩ = some (.int .u8 (zs.getD j 0))) (hz : ∀ j, j < len → 0 ≤ zs.getD j 0 ∧ zs.getD j 0 ≤ 255) :
    Calls Ybaf.prog 3 #[.slice p len cap, .int .u64 k, .int .i64 d] w fun e w' => e = .returned (.bool true) ∧ Below w.heap.size w w' := by
  have hmk := run_make_row' (P := Ybaf.prog) 22 5 (.int .u8 0) 1 Ybaf.underlying22 Ybaf.info5 rfl .i64 .i64 len (by omega) (by omega)
  go_enter Ybaf.func3, Ybaf.ntmps3
  go_wp2
  clear hmk
  go_loopw [8] (fun v wr => ∃ i : Nat, i ≤ len ∧ v = .int .i64 i ∧ Row w.heap.size len w wr) (fun v _ => len - (intOf v).toNat)
  case atStart => exact ⟨0, Nat.zero_le _, rfl, row_new w len⟩
  case round =>
    obtain ⟨i, hi, rfl, hrow⟩ := hrel
    by_cases hlt : i < len
    · obtain rfl := hp (by omega)
      obtain ⟨hb, hsz, cs, hl, hcc, hff⟩ := hrow
      have c1 := hcc i hlt
      have f1 := hff i hlt
      have c0 : wr.cell? ⟨b, off + i, none⟩ = some (.int .u8 (zs.getD i 0)) := (hb.cell (World.block_lt_of_cell? _ _ (hc i hlt))).trans (hc i hlt)
      have HR : Hid (Row w.heap.size len w wr) := ⟨hb, hsz, cs, hl, hcc, hff⟩
      have z1 := hz i hlt
      clear hb hcc hff hc hz hp
      generalize zs.getD i 0 = z at c0 z1
      generalize cs.getD i 0 = old at c1
      obtain ⟨z2, z3⟩ := z1
      go_wp2
      exact ⟨⟨i + 1, by omega, by go_num, row_set HR.out _ _⟩, by simp [intOf]; omega⟩
    · obtain ⟨hb, hsz, cs, hl, hcc, hff⟩ := hrow
      have hcv := run_convert_bytes_arg (P := Ybaf.prog) wr 22 5 Ybaf.underlying22 Ybaf.underlying5 w.heap.size 0 len len cs hl (fun j hj => by rw [Nat.zero_add]; exact hcc j hj) 9 Ybaf.underlying9
      have hss : (strOfNums cs).size ≤ 1024 := by rw [strOfNums_size, hl]; exact hlen
      have HB : Hid (Below w.heap.size w wr) := hb
      clear hb hcc hff hc hz hp hl
      go_wp2_with fail
      refine (check_any F (S.later HB.out HB.out.size) hss hk0 hk1).mono ?_
      rintro e w1 ⟨rfl, h1⟩
      clear hcv
      go_wp2
      go_ret
      exact ⟨rfl, HB.out.trans (h1.mono (by omega))⟩
end Go.Proofs.YbulkhnkFmt
