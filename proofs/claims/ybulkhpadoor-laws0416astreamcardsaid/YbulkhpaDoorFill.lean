/-
  The scanner's state over the stand-in reader, and fill, by its contract.
-/
import Derived.Test.YbulkhpaDoorRead
import Derived.Test.YbulkhpaDoorFlat
import Derived.Deep.RegionHeld3
namespace Go.Proofs.YbulkhpaDoor
open Go.RowKit

theorem method_read (a : Addr) (w : World) : (method 224 27 (.pointer (some a)) "Read").run Ybad.prog w = .ok (43, .pointer (some a)) w := by kernel_rfl

/-- WHAT A Read LEAVES: the reader (block R) at k', so many reads, X at the head of the buffer (block g); all else as it was. -/
structure Rd (R g k' reads' : Nat) (X : List Int) (w w' : World) : Prop where
  below : ∀ B, B ≤ R → B ≤ g → Below B w w'
  size : w'.heap.size = w.heap.size
  else_ : ∀ x : Addr, x.block ≠ R → x.block ≠ g → w'.cell? x = w.cell? x
  frozen : ∀ x : Addr, w'.frozen? x = w.frozen? x
  r0 : w'.cell? ⟨R, 0, none⟩ = w.cell? ⟨R, 0, none⟩
  r2 : w'.cell? ⟨R, 2, none⟩ = w.cell? ⟨R, 2, none⟩
  r1 : w'.cell? ⟨R, 1, none⟩ = some (.int .i64 k')
  r3 : w'.cell? ⟨R, 3, none⟩ = some (.int .i64 reads')
  head : ∀ j, j < X.length → w'.cell? ⟨g, j, none⟩ = some (.int .u8 (X.getD j 0))
  room : (∀ j, j < 65536 → (w.cell? ⟨g, j, none⟩).isSome = true) → ∀ j, j < 65536 → (w'.cell? ⟨g, j, none⟩).isSome = true

/-- THE SCANNER OVER THE READER. V: the world ahead of the three blocks (reader, buffer, scanner). s: where in the text the buffer begins; m: its length; c: the place in it; k: chunks read. -/
structure Str (V : World) (p : Option Addr) (n cp : Nat) (fe : Addr) (fl : List Int) (bo : Int) (s m c k : Nat) (err : Value) (reads : Nat) (w : World) : Prop where
  below : Below V.heap.size V w
  size : V.heap.size + 2 < w.heap.size
  r0 : w.cell? ⟨V.heap.size, 0, none⟩ = some (.slice p n cp)
  r1 : w.cell? ⟨V.heap.size, 1, none⟩ = some (.int .i64 k)
  r2 : w.cell? ⟨V.heap.size, 2, none⟩ = some (.iface 53 (.pointer (some fe)))
  r3 : w.cell? ⟨V.heap.size, 3, none⟩ = some (.int .i64 reads)
  rf : ∀ i, w.frozen? ⟨V.heap.size, i, none⟩ = false
  s0 : w.cell? ⟨V.heap.size + 2, 0, none⟩ = some (.iface 27 (.pointer (some ⟨V.heap.size, 0, none⟩)))
  s1 : w.cell? ⟨V.heap.size + 2, 1, none⟩ = some (.slice (some ⟨V.heap.size + 1, 0, none⟩) m 65536)
  s2 : w.cell? ⟨V.heap.size + 2, 2, none⟩ = some (.int .i64 c)
  s3 : w.cell? ⟨V.heap.size + 2, 3, none⟩ = some (.int .i64 (wrap64 (bo + s)))
  s4 : w.cell? ⟨V.heap.size + 2, 4, none⟩ = some err
  s6 : w.cell? ⟨V.heap.size + 2, 6, none⟩ = some (.bool false)
  s8 : w.cell? ⟨V.heap.size + 2, 8, none⟩ = some (.int .i64 0)
  sf : ∀ i, w.frozen? ⟨V.heap.size + 2, i, none⟩ = false
  room : ∀ j, j < 65536 → (w.cell? ⟨V.heap.size + 1, j, none⟩).isSome = true
  gf : ∀ i, w.frozen? ⟨V.heap.size + 1, i, none⟩ = false
  head : ∀ j, j < m → w.cell? ⟨V.heap.size + 1, j, none⟩ = some (.int .u8 (fl.getD (s + j) 0))

theorem wrap64_add (a b : Int) : wrap64 (wrap64 a + b) = wrap64 (a + b) := by unfold wrap64; omega

theorem str_fill {V : World} {p : Option Addr} {n cp : Nat} {fe : Addr} {fl : List Int} {bo : Int} {s m k reads : Nat} {w W w3 : World} (h : Str V p n cp fe fl bo s m m k .nilIface reads w)
    {L k' reads' : Nat} {X : List Int} (hX : X.length = L) (hfl : ∀ j, j < L → X.getD j 0 = fl.getD (s + m + j) 0) (errv : Value)
    (KO : ∀ x : Addr, x ≠ ⟨V.heap.size + 2, 8, none⟩ → x ≠ ⟨V.heap.size + 2, 3, none⟩ → W.cell? x = w.cell? x) (KF : ∀ x : Addr, W.frozen? x = w.frozen? x) (hZ : W.heap.size = w.heap.size) (hB : Below V.heap.size V W)
    (c3 : W.cell? ⟨V.heap.size + 2, 3, none⟩ = some (.int .i64 (wrap64 (bo + s + m)))) (c8 : W.cell? ⟨V.heap.size + 2, 8, none⟩ = some (.int .i64 m)) (hrd : Rd V.heap.size (V.heap.size + 1) k' reads' X W.drew w3) :
    Str V p n cp fe fl bo (s + m) L 0 k' errv reads' ((((w3.setCell ⟨V.heap.size + 2, 1, none⟩ (.slice (some ⟨V.heap.size + 1, 0, none⟩) L 65536)).setCell ⟨V.heap.size + 2, 2, none⟩ (.int .i64 0)).setCell ⟨V.heap.size + 2, 8, none⟩ (.int .i64 0)).setCell ⟨V.heap.size + 2, 4, none⟩ errv) := by
  have hb2 : V.heap.size + 2 ≠ V.heap.size := by omega
  have hb3 : V.heap.size + 2 ≠ V.heap.size + 1 := by omega
  obtain ⟨Z, hZd⟩ : ∃ Z, Z = ((((w3.setCell ⟨V.heap.size + 2, 1, none⟩ (.slice (some ⟨V.heap.size + 1, 0, none⟩) L 65536)).setCell ⟨V.heap.size + 2, 2, none⟩ (.int .i64 0)).setCell ⟨V.heap.size + 2, 8, none⟩ (.int .i64 0)).setCell ⟨V.heap.size + 2, 4, none⟩ errv) := ⟨_, rfl⟩
  rw [← hZd]
  -- the scanner's block ahead of the four stores
  have us : ∀ i, i ≠ 8 → i ≠ 3 → w3.cell? ⟨V.heap.size + 2, i, none⟩ = w.cell? ⟨V.heap.size + 2, i, none⟩ := fun i h8 h3 =>
    (hrd.else_ ⟨V.heap.size + 2, i, none⟩ hb2 hb3).trans (KO _ (by simp) (by simp))
  have u3 : w3.cell? ⟨V.heap.size + 2, 3, none⟩ = some (.int .i64 (wrap64 (bo + s + m))) := (hrd.else_ ⟨V.heap.size + 2, 3, none⟩ hb2 hb3).trans c3
  have u8 : w3.cell? ⟨V.heap.size + 2, 8, none⟩ = some (.int .i64 m) := (hrd.else_ ⟨V.heap.size + 2, 8, none⟩ hb2 hb3).trans c8
  have zo : ∀ x : Addr, x ≠ ⟨V.heap.size + 2, 1, none⟩ → x ≠ ⟨V.heap.size + 2, 2, none⟩ → x ≠ ⟨V.heap.size + 2, 8, none⟩ → x ≠ ⟨V.heap.size + 2, 4, none⟩ → Z.cell? x = w3.cell? x := fun x h1 h2 h8 h4 => by
    rw [hZd, World.cell?_setCell_other _ _ _ _ (fun e => h4 e.symm), World.cell?_setCell_other _ _ _ _ (fun e => h8 e.symm), World.cell?_setCell_other _ _ _ _ (fun e => h2 e.symm), World.cell?_setCell_other _ _ _ _ (fun e => h1 e.symm)]
  have zn : ∀ x : Addr, x.block ≠ V.heap.size + 2 → Z.cell? x = w3.cell? x := fun x hx => zo x (fun e => hx (by rw [e])) (fun e => hx (by rw [e])) (fun e => hx (by rw [e])) (fun e => hx (by rw [e]))
  have zf : ∀ x : Addr, Z.frozen? x = w.frozen? x := fun x => by
    rw [hZd]; simp only [World.frozen?_setCell]; exact (hrd.frozen x).trans (KF x)
  have z1 : Z.cell? ⟨V.heap.size + 2, 1, none⟩ = some (.slice (some ⟨V.heap.size + 1, 0, none⟩) L 65536) := by
    rw [hZd, World.cell?_setCell_other _ _ _ _ (by simp), World.cell?_setCell_other _ _ _ _ (by simp), World.cell?_setCell_other _ _ _ _ (by simp)]
    exact World.cell?_setCell_same _ _ _ ((us 1 (by omega) (by omega)).trans h.s1)
  have z2 : Z.cell? ⟨V.heap.size + 2, 2, none⟩ = some (.int .i64 0) := by
    rw [hZd, World.cell?_setCell_other _ _ _ _ (by simp), World.cell?_setCell_other _ _ _ _ (by simp)]
    refine World.cell?_setCell_same _ _ _ (u := .int .i64 m) ?_
    rw [World.cell?_setCell_other _ _ _ _ (by simp)]
    exact (us 2 (by omega) (by omega)).trans h.s2
  have z8 : Z.cell? ⟨V.heap.size + 2, 8, none⟩ = some (.int .i64 0) := by
    rw [hZd, World.cell?_setCell_other _ _ _ _ (by simp)]
    refine World.cell?_setCell_same _ _ _ (u := .int .i64 m) ?_
    rw [World.cell?_setCell_other _ _ _ _ (by simp), World.cell?_setCell_other _ _ _ _ (by simp)]
    exact u8
  have z4 : Z.cell? ⟨V.heap.size + 2, 4, none⟩ = some errv := by
    rw [hZd]
    refine World.cell?_setCell_same _ _ _ (u := .nilIface) ?_
    rw [World.cell?_setCell_other _ _ _ _ (by simp), World.cell?_setCell_other _ _ _ _ (by simp), World.cell?_setCell_other _ _ _ _ (by simp)]
    exact (us 4 (by omega) (by omega)).trans h.s4
  have zs : ∀ i, i ≠ 1 → i ≠ 2 → i ≠ 8 → i ≠ 4 → Z.cell? ⟨V.heap.size + 2, i, none⟩ = w3.cell? ⟨V.heap.size + 2, i, none⟩ := fun i h1 h2 h8 h4 => zo _ (by simp) (by simp) (by simp) (by simp)
  refine ⟨?_, ?_, ?_, ?_, ?_, ?_, ?_, ?_, z1, z2, ?_, z4, ?_, z8, ?_, ?_, ?_, ?_⟩
  · have hb := (hB.drew.trans (hrd.below V.heap.size (Nat.le_refl _) (by omega)))
    rw [hZd]
    exact (((hb.setCell (by simp) _).setCell (by simp) _).setCell (by simp) _).setCell (by simp) _
  · have hz : Z.heap.size = w.heap.size := by
      rw [hZd]; simp only [World.setCell, Array.size_modify]; rw [hrd.size]; exact hZ
    rw [hz]; exact h.size
  · rw [zn _ (by simp), hrd.r0]; exact (KO _ (by simp) (by simp)).trans h.r0
  · rw [zn _ (by simp)]; exact hrd.r1
  · rw [zn _ (by simp), hrd.r2]; exact (KO _ (by simp) (by simp)).trans h.r2
  · rw [zn _ (by simp)]; exact hrd.r3
  · intro i; rw [zf]; exact h.rf i
  · rw [zs 0 (by omega) (by omega) (by omega) (by omega), us 0 (by omega) (by omega)]; exact h.s0
  · rw [zs 3 (by omega) (by omega) (by omega) (by omega), u3, Int.natCast_add, Int.add_assoc]
  · rw [zs 6 (by omega) (by omega) (by omega) (by omega), us 6 (by omega) (by omega)]; exact h.s6
  · intro i; rw [zf]; exact h.sf i
  · intro j hj
    rw [zn _ (by simp)]
    exact hrd.room (fun i hi => by
      show (W.cell? ⟨V.heap.size + 1, i, none⟩).isSome = true
      rw [KO _ (by simp) (by simp)]; exact h.room i hi) j hj
  · intro i; rw [zf]; exact h.gf i
  · intro j hj
    rw [zn _ (by simp), hrd.head j (by omega), hfl j hj]

set_option maxHeartbeats 4000000 in
set_option maxRecDepth 1000000 in
theorem fill_core {V : World} {p : Option Addr} {n cp : Nat} {fe : Addr} {fl : List Int} {bo : Int} {s m k reads : Nat} {w : World} (h : Str V p n cp fe fl bo s m m k .nilIface reads w) (hm : m ≤ 65536)
    {L k' reads' : Nat} {errv : Value} {X : List Int} (hX : X.length = L) (hL : L ≤ 1024) (herr : IsIface errv) (hfl : ∀ j, j < L → X.getD j 0 = fl.getD (s + m + j) 0)
    (HC : ∀ W : World, (∀ x : Addr, x.block ≠ V.heap.size + 2 → W.cell? x = w.cell? x) → (∀ x : Addr, W.frozen? x = w.frozen? x) →
      Calls Ybad.prog 43 #[.pointer (some ⟨V.heap.size, 0, none⟩), .slice (some ⟨V.heap.size + 1, 0, none⟩) 65536 65536] W fun e w' => e = .returned (.tuple #[.int .i64 L, errv]) ∧ Rd V.heap.size (V.heap.size + 1) k' reads' X W w') :
    Calls Ybad.prog 14 #[.pointer (some ⟨V.heap.size + 2, 0, none⟩)] w fun e w' => e = .returned (.tuple #[]) ∧ Str V p n cp fe fl bo (s + m) L 0 k' errv reads' w' := by
  have s1 := h.s1
  have s3 := h.s3
  have g3 := h.sf 3
  go_enter Ybad.func14, Ybad.ntmps14
  go_wp2_with fail
  refine (keep_any h.s1 h.s2 h.s6 h.s8 (h.sf 8) hm).mono ?_
  rintro e w1 ⟨rfl, q, hw⟩
  subst hw
  go_wp2_with fail
  go_region
  go_wp2_with fail
  rw [wrap64_add]
  obtain ⟨W, HW⟩ : ∃ W, Hid (W = (((w.drewN q).setCell ⟨V.heap.size + 2, 8, none⟩ (.int .i64 m)).setCell ⟨V.heap.size + 2, 3, none⟩ (.int .i64 (wrap64 (bo + s + m)))).drew) := ⟨_, rfl⟩
  rw [← HW.out]
  have ko : ∀ x : Addr, x ≠ ⟨V.heap.size + 2, 8, none⟩ → x ≠ ⟨V.heap.size + 2, 3, none⟩ → W.cell? x = w.cell? x := fun x hx hy => by
    rw [HW.out, World.cell?_drew, World.cell?_setCell_other _ _ _ _ (fun e => hy e.symm), World.cell?_setCell_other _ _ _ _ (fun e => hx e.symm)]; rfl
  have kf : ∀ x : Addr, W.frozen? x = w.frozen? x := fun x => by rw [HW.out]; simp
  have hB : Below V.heap.size V W := by
    rw [HW.out]
    exact (((h.below.trans ⟨rfl, rfl, rfl, Nat.le_refl _, fun _ _ => rfl⟩ : Below V.heap.size V (w.drewN q)).setCell (by simp) _).setCell (by simp) _).drew
  have hZ : W.heap.size = w.heap.size := by rw [HW.out]; simp [World.setCell]
  have c3 : W.cell? ⟨V.heap.size + 2, 3, none⟩ = some (.int .i64 (wrap64 (bo + s + m))) := by
    rw [HW.out, World.cell?_drew]
    refine World.cell?_setCell_same _ _ _ (u := .int .i64 (wrap64 (bo + s))) ?_
    rw [World.cell?_setCell_other _ _ _ _ (by simp)]; exact h.s3
  have c8 : W.cell? ⟨V.heap.size + 2, 8, none⟩ = some (.int .i64 m) := by
    rw [HW.out, World.cell?_drew, World.cell?_setCell_other _ _ _ _ (by simp)]
    exact World.cell?_setCell_same _ _ _ (u := .int .i64 0) h.s8
  have t0 : W.cell? ⟨V.heap.size + 2, 0, none⟩ = some (.iface 27 (.pointer (some ⟨V.heap.size, 0, none⟩))) := (ko _ (by simp) (by simp)).trans h.s0
  have t1 : W.cell? ⟨V.heap.size + 2, 1, none⟩ = some (.slice (some ⟨V.heap.size + 1, 0, none⟩) m 65536) := (ko _ (by simp) (by simp)).trans h.s1
  have HD := HC W.drew (fun x hx => ko x (fun e => hx (by rw [e])) (fun e => hx (by rw [e]))) kf
  have HD' : Hid _ := HD
  have KO : Hid (∀ x : Addr, x ≠ ⟨V.heap.size + 2, 8, none⟩ → x ≠ ⟨V.heap.size + 2, 3, none⟩ → W.cell? x = w.cell? x) := ko
  have KF : Hid (∀ x : Addr, W.frozen? x = w.frozen? x) := kf
  have HZ : Hid (W.heap.size = w.heap.size) := hZ
  have HFL : Hid (∀ j, j < L → X.getD j 0 = fl.getD (s + m + j) 0) := hfl
  clear HD HC s1 s3 g3 ko kf hZ hfl
  have hmr := method_read
  have hb2 : V.heap.size + 2 ≠ V.heap.size := by omega
  have hb3 : V.heap.size + 2 ≠ V.heap.size + 1 := by omega
  have e4 := herr
  go_region_held3 (fun w' => w'.cell? ⟨V.heap.size + 2, 0, none⟩ = some (.iface 27 (.pointer (some ⟨V.heap.size, 0, none⟩))) ∧ w'.cell? ⟨V.heap.size + 2, 1, none⟩ = some (.slice (some ⟨V.heap.size + 1, 0, none⟩) m 65536)) (go_keep) (first | (go_at_call 43; refine (Calls.mono HD'.out ?_); rintro e w3 ⟨rfl, hrd⟩; have u0 := (hrd.else_ ⟨V.heap.size + 2, 0, none⟩ hb2 hb3).trans t0; have u1 := (hrd.else_ ⟨V.heap.size + 2, 1, none⟩ hb2 hb3).trans t1))
  have u4 := (hrd.else_ ⟨V.heap.size + 2, 4, none⟩ hb2 hb3).trans ((KO.out _ (by simp) (by simp)).trans h.s4)
  have u2 := (hrd.else_ ⟨V.heap.size + 2, 2, none⟩ hb2 hb3).trans ((KO.out _ (by simp) (by simp)).trans h.s2)
  have u8 := (hrd.else_ ⟨V.heap.size + 2, 8, none⟩ hb2 hb3).trans c8
  have x1 : w3.frozen? ⟨V.heap.size + 2, 1, none⟩ = false := (hrd.frozen _).trans ((KF.out _).trans (h.sf 1))
  have x2 : w3.frozen? ⟨V.heap.size + 2, 2, none⟩ = false := (hrd.frozen _).trans ((KF.out _).trans (h.sf 2))
  have x4 : w3.frozen? ⟨V.heap.size + 2, 4, none⟩ = false := (hrd.frozen _).trans ((KF.out _).trans (h.sf 4))
  have x8 : w3.frozen? ⟨V.heap.size + 2, 8, none⟩ = false := (hrd.frozen _).trans ((KF.out _).trans (h.sf 8))
  cases errv <;> simp only [IsIface] at herr
  all_goals go_wp2
  all_goals go_end0
  all_goals exact ⟨rfl, str_fill h hX HFL.out _ KO.out KF.out HZ.out hB c3 c8 hrd⟩
end Go.Proofs.YbulkhpaDoor
