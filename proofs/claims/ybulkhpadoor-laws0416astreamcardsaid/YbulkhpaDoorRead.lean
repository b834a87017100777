/-
  keep (nothing is captured) and the stand-in reader's Read, by their contracts.
-/
import Derived.Test.YbulkhpaDoorScan
import Derived.Laws.IdiomCopy
namespace Go.Proofs.YbulkhpaDoor
open Go.RowKit

set_option maxHeartbeats 2000000 in
set_option maxRecDepth 1000000 in
theorem keep_any {S g m : Nat} {w : World} (h1 : w.cell? ⟨S, 1, none⟩ = some (.slice (some ⟨g, 0, none⟩) m 65536)) (h2 : w.cell? ⟨S, 2, none⟩ = some (.int .i64 m)) (h6 : w.cell? ⟨S, 6, none⟩ = some (.bool false))
    (h8 : w.cell? ⟨S, 8, none⟩ = some (.int .i64 0)) (f8 : w.frozen? ⟨S, 8, none⟩ = false) (hm : m ≤ 65536) :
    Calls Ybad.prog 17 #[.pointer (some ⟨S, 0, none⟩)] w fun e w' => e = .returned (.tuple #[]) ∧ ∃ q, w' = (w.drewN q).setCell ⟨S, 8, none⟩ (.int .i64 m) := by
  go_enter Ybad.func17, Ybad.ntmps17
  go_wp2
  go_quiet (fail)
  go_wp2
  go_end0
  exact ⟨rfl, _, rfl⟩

set_option maxHeartbeats 2000000 in
set_option maxRecDepth 1000000 in
theorem read_last {R n cp : Nat} {p : Option Addr} {fe : Addr} {reads : Nat} {w : World} {q : Option Addr} (h0 : w.cell? ⟨R, 0, none⟩ = some (.slice p n cp)) (h1 : w.cell? ⟨R, 1, none⟩ = some (.int .i64 n)) (h2 : w.cell? ⟨R, 2, none⟩ = some (.iface 53 (.pointer (some fe))))
    (h3 : w.cell? ⟨R, 3, none⟩ = some (.int .i64 reads)) (f3 : w.frozen? ⟨R, 3, none⟩ = false) (hr : reads ≤ 1000) :
    Calls Ybad.prog 43 #[.pointer (some ⟨R, 0, none⟩), .slice q 65536 65536] w fun e w' => e = .returned (.tuple #[.int .i64 0, .iface 53 (.pointer (some fe))]) ∧ ∃ q, w' = (w.setCell ⟨R, 3, none⟩ (.int .i64 (reads + 1))).drewN q := by
  have hd : decide ((n : Int) < (n : Int)) = false := decide_eq_false (by omega)
  go_enter Ybad.func43, Ybad.ntmps43
  go_wp2
  go_quiet (fail)
  go_wp2
  go_quiet (fail)
  go_wp2
  go_ret2
  refine ⟨rfl, ?_⟩
  rw [World.drewN_drewN]
  exact ⟨_, rfl⟩

theorem add_block (a : Addr) (j : Nat) : (a.add j).block = a.block := by unfold Addr.add; split <;> simp_all
theorem Ybad.one5 : (Ybad.prog.info? 5).map (·.size) = some 1 := by kernel_rfl

/-- what goes over: nothing, or the chunk's bytes -/
theorem run_copy_chunk {g L C : Nat} {A : Option Addr} {X : List Int} {w : World} (hX : X.length = L) (hL : L ≤ 1024) (hN : A = none → L = 0)
    (hsrc : ∀ a, A = some a → ∀ j, j < L → w.cell? (a.add j) = some (.int .u8 (X.getD j 0)))
    (hb : ∀ j, j < 65536 → (w.cell? ⟨g, j, none⟩).isSome = true) (hf : ∀ j, j < 65536 → w.frozen? ⟨g, j, none⟩ = false) (q : Nat) :
    (Builtin.copy_ #[23, 23] 3 #[.slice (some ⟨g, 0, none⟩) 65536 65536, .slice A L C]).run Ybad.prog (w.drewN q) = .ok (.int .i64 L) ((w.drewN q).setCells g 0 (X.map (Value.int .u8))) := by
  have hmin : Nat.min L 65536 = L := Nat.min_eq_left (by omega)
  cases A with
  | none =>
    have h0 := hN rfl
    subst h0
    obtain rfl : X = [] := List.eq_nil_of_length_eq_zero hX
    exact run_copy_none (P := Ybad.prog) (w.drewN q) 23 23 3 5 _ _ _ _ _ _ Ybad.underlying23 Ybad.one5 (by rfl)
  | some a =>
    have h := run_copy_cells (P := Ybad.prog) (w.drewN q) 23 23 3 5 g 0 65536 65536 a L C (X.map (Value.int .u8)) Ybad.underlying23 Ybad.one5 (by rw [hmin]; simpa using hX)
      (fun j v hj => by
        have hjl : j < X.length := by
          rcases Nat.lt_or_ge j X.length with h | h
          · exact h
          · simp [List.getElem?_eq_none h] at hj
        have := hsrc a rfl j (by omega)
        simp [List.getElem?_eq_getElem hjl] at hj
        subst hj
        simpa [List.getD, List.getElem?_eq_getElem hjl] using this)
      (fun j hj => by simpa using hb j (by simp at hj; omega)) (fun j hj => by simpa using hf j (by simp at hj; omega))
      (fun v hv => by simp at hv; obtain ⟨n, _, rfl⟩ := hv; rfl)
    simpa [goInt, hX] using h

set_option maxHeartbeats 4000000 in
set_option maxRecDepth 1000000 in
theorem read_next {R g n cp k b off L C : Nat} {A : Option Addr} {X : List Int} {reads : Nat} {w : World} (h0 : w.cell? ⟨R, 0, none⟩ = some (.slice (some ⟨b, off, none⟩) n cp)) (h1 : w.cell? ⟨R, 1, none⟩ = some (.int .i64 k))
    (h3 : w.cell? ⟨R, 3, none⟩ = some (.int .i64 reads)) (f1 : w.frozen? ⟨R, 1, none⟩ = false) (f3 : w.frozen? ⟨R, 3, none⟩ = false) (hr : reads ≤ 1000) (hk : k < n) (hn : n ≤ 256)
    (hc : w.cell? ⟨b, off + k, none⟩ = some (.slice A L C)) (hbR : b ≠ R) (hgR : g ≠ R) (hX : X.length = L) (hL : L ≤ 1024) (hN : A = none → L = 0)
    (hsrc : ∀ a, A = some a → ∀ j, j < L → w.cell? (a.add j) = some (.int .u8 (X.getD j 0))) (hsR : ∀ a, A = some a → 0 < L → a.block ≠ R)
    (hb : ∀ j, j < 65536 → (w.cell? ⟨g, j, none⟩).isSome = true) (hf : ∀ j, j < 65536 → w.frozen? ⟨g, j, none⟩ = false) :
    Calls Ybad.prog 43 #[.pointer (some ⟨R, 0, none⟩), .slice (some ⟨g, 0, none⟩) 65536 65536] w fun e w' => e = .returned (.tuple #[.int .i64 L, .nilIface]) ∧
      ∃ q, w' = (((w.setCell ⟨R, 3, none⟩ (.int .i64 (reads + 1))).drewN q).setCells g 0 (X.map (Value.int .u8))).setCell ⟨R, 1, none⟩ (.int .i64 (k + 1)) := by
  obtain ⟨w1, hw1⟩ : ∃ w1, w1 = w.setCell ⟨R, 3, none⟩ (.int .i64 (reads + 1)) := ⟨_, rfl⟩
  have ko : ∀ x : Addr, x ≠ ⟨R, 3, none⟩ → w1.cell? x = w.cell? x := fun x hx => by rw [hw1, World.cell?_setCell_other _ _ _ _ (fun e => hx e.symm)]
  have kf : ∀ x : Addr, w1.frozen? x = w.frozen? x := fun x => by rw [hw1]; simp
  have hcp := run_copy_chunk (w := w1) (g := g) (C := C) hX hL hN
    (fun a ha j hj => by rw [ko _ (fun e => hsR a ha (by omega) (by have := congrArg Addr.block e; rwa [add_block] at this))]; exact hsrc a ha j hj)
    (fun j hj => by rw [ko _ (fun e => hgR (congrArg Addr.block e))]; exact hb j hj) (fun j hj => by rw [kf]; exact hf j hj)
  have kk : ∀ q, ((w1.drewN q).setCells g 0 (X.map (Value.int .u8))).cell? ⟨R, 1, none⟩ = some (.int .i64 k) := fun q => by
    rw [World.cell?_setCells_out _ _ _ _ _ (fun e _ => absurd e.symm hgR), World.cell?_drewN, ko _ (by simp)]; exact h1
  have kz : ∀ q, ((w1.drewN q).setCells g 0 (X.map (Value.int .u8))).frozen? ⟨R, 1, none⟩ = false := fun q => by
    rw [World.frozen?_setCells, World.frozen?_drewN, kf]; exact f1
  have HW : Hid (w1 = w.setCell ⟨R, 3, none⟩ (.int .i64 (reads + 1))) := hw1
  have k0 : w1.cell? ⟨R, 0, none⟩ = some (.slice (some ⟨b, off, none⟩) n cp) := (ko _ (by simp)).trans h0
  have k1 : w1.cell? ⟨R, 1, none⟩ = some (.int .i64 k) := (ko _ (by simp)).trans h1
  have kc : w1.cell? ⟨b, off + k, none⟩ = some (.slice A L C) := (ko _ (fun e => hbR (congrArg Addr.block e))).trans hc
  have hd : decide ((k : Int) < (n : Int)) = true := decide_eq_true (by omega)
  have hki : (k : Int) < (n : Int) := by omega
  clear hw1 ko kf hb hf hsrc hsR hN hc f1 h0 h1
  go_enter Ybad.func43, Ybad.ntmps43
  go_wp2
  rw [← HW.out]
  go_quiet (fail)
  go_wp2
  go_region
  go_wp2
  go_ret2
  refine ⟨rfl, ?_⟩
  rw [← HW.out]
  exact ⟨_, rfl⟩
end Go.Proofs.YbulkhpaDoor
