/-
  fill over the chunks, and peek over the reader, by their contracts.
-/
import Derived.Test.YbulkhpaDoorFill
namespace Go.Proofs.YbulkhpaDoor
open Go.RowKit

/-- THE CHUNKS as they lie in V: chunk r is the slice (A r, L r, C r), its bytes X r. -/
structure Chk (V : World) (p : Option Addr) (n b off : Nat) (A : Nat → Option Addr) (L C : Nat → Nat) (X : Nat → List Int) : Prop where
  pt : 0 < n → p = some ⟨b, off, none⟩
  out : ∀ r, r < n → V.cell? ⟨b, off + r, none⟩ = some (.slice (A r) (L r) (C r))
  len : ∀ r, r < n → (X r).length = L r
  max : ∀ r, r < n → L r ≤ 1024
  nil : ∀ r, r < n → A r = none → L r = 0
  src : ∀ r, r < n → ∀ a, A r = some a → ∀ j, j < L r → V.cell? (a.add j) = some (.int .u8 ((X r).getD j 0))

theorem drewN_below {B : Nat} {a w : World} (h : Below B a w) (q : Nat) : Below B a (w.drewN q) := ⟨h.os, h.tape, h.output, h.size, h.block⟩
theorem setCells_below {B : Nat} (g : Nat) (hg : B ≤ g) : ∀ (vs : List Value) (o : Nat) (a w : World), Below B a w → Below B a (w.setCells g o vs)
  | [], _, _, _, h => h
  | _ :: r, o, _, _, h => setCells_below g hg r (o + 1) _ _ (h.setCell hg _)
theorem setCells_size (g : Nat) : ∀ (vs : List Value) (o : Nat) (w : World), (w.setCells g o vs).heap.size = w.heap.size
  | [], _, _ => rfl
  | _ :: r, o, w => by rw [World.setCells, setCells_size g r]; simp [World.setCell]
theorem setCells_some (g : Nat) : ∀ (vs : List Value) (o : Nat) (w : World) (x : Addr), (w.cell? x).isSome = true → ((w.setCells g o vs).cell? x).isSome = true
  | [], _, _, _, h => h
  | v :: r, o, w, x, h => by
    rw [World.setCells]
    refine setCells_some g r (o + 1) _ x ?_
    by_cases e : (⟨g, o, none⟩ : Addr) = x
    · subst e
      obtain ⟨u, hu⟩ := Option.isSome_iff_exists.1 h
      rw [World.cell?_setCell_same _ _ _ hu]; rfl
    · rw [World.cell?_setCell_other _ _ _ _ e]; exact h

theorem rd_last {R g n reads q : Nat} {w : World} (hgR : g ≠ R) (h1 : w.cell? ⟨R, 1, none⟩ = some (.int .i64 n)) (h3 : w.cell? ⟨R, 3, none⟩ = some (.int .i64 reads)) :
    Rd R g n (reads + 1) [] w ((w.setCell ⟨R, 3, none⟩ (.int .i64 (reads + 1))).drewN q) := by
  have ko : ∀ x : Addr, x ≠ ⟨R, 3, none⟩ → ((w.setCell ⟨R, 3, none⟩ (.int .i64 (reads + 1))).drewN q).cell? x = w.cell? x := fun x hx => by
    rw [World.cell?_drewN, World.cell?_setCell_other _ _ _ _ (fun e => hx e.symm)]
  refine ⟨fun B hR _ => drewN_below ((Below.refl _ _).setCell hR _) q, by simp [World.setCell], fun x hx _ => ko x (fun e => hx (by rw [e])), fun x => by simp, ko _ (by simp), ko _ (by simp), (ko _ (by simp)).trans h1, ?_, ?_, ?_⟩
  · rw [World.cell?_drewN]; exact World.cell?_setCell_same _ _ _ h3
  · intro j hj; simp at hj
  · intro hr j hj; rw [ko _ (fun e => hgR (congrArg Addr.block e))]; exact hr j hj

theorem rd_next {R g k reads q : Nat} {X : List Int} {w : World} (hgR : g ≠ R) (hX : X.length ≤ 1024) (h1 : w.cell? ⟨R, 1, none⟩ = some (.int .i64 k)) (h3 : w.cell? ⟨R, 3, none⟩ = some (.int .i64 reads))
    (hroom : ∀ j, j < 65536 → (w.cell? ⟨g, j, none⟩).isSome = true) :
    Rd R g (k + 1) (reads + 1) X w ((((w.setCell ⟨R, 3, none⟩ (.int .i64 (reads + 1))).drewN q).setCells g 0 (X.map (Value.int .u8))).setCell ⟨R, 1, none⟩ (.int .i64 (k + 1))) := by
  obtain ⟨w1, hw1⟩ : ∃ w1, w1 = (w.setCell ⟨R, 3, none⟩ (.int .i64 (reads + 1))).drewN q := ⟨_, rfl⟩
  rw [← hw1]
  have k1 : ∀ x : Addr, x ≠ ⟨R, 3, none⟩ → w1.cell? x = w.cell? x := fun x hx => by
    rw [hw1, World.cell?_drewN, World.cell?_setCell_other _ _ _ _ (fun e => hx e.symm)]
  have k3 : w1.cell? ⟨R, 3, none⟩ = some (.int .i64 (reads + 1)) := by rw [hw1, World.cell?_drewN]; exact World.cell?_setCell_same _ _ _ h3
  obtain ⟨w2, hw2⟩ : ∃ w2, w2 = w1.setCells g 0 (X.map (Value.int .u8)) := ⟨_, rfl⟩
  rw [← hw2]
  have m1 : ∀ x : Addr, x.block ≠ g → w2.cell? x = w1.cell? x := fun x hx => by rw [hw2]; exact World.cell?_setCells_out _ _ _ _ _ (fun e _ => absurd e hx)
  have n1 : ∀ x : Addr, x ≠ ⟨R, 1, none⟩ → (w2.setCell ⟨R, 1, none⟩ (.int .i64 (k + 1))).cell? x = w2.cell? x := fun x hx => World.cell?_setCell_other _ _ _ _ (fun e => hx e.symm)
  have room1 : ∀ j, j < 65536 → (w1.cell? ⟨g, j, none⟩).isSome = true := fun j hj => by rw [k1 _ (fun e => hgR (congrArg Addr.block e))]; exact hroom j hj
  refine ⟨fun B hR hg => ?_, ?_, fun x hx hy => ?_, fun x => ?_, ?_, ?_, ?_, ?_, fun j hj => ?_, fun _ j hj => ?_⟩
  · have b1 : Below B w w1 := by rw [hw1]; exact drewN_below ((Below.refl _ _).setCell hR _) q
    have b2 : Below B w w2 := by rw [hw2]; exact setCells_below g hg _ _ _ _ b1
    exact b2.setCell hR _
  · have : w2.heap.size = w.heap.size := by rw [hw2, setCells_size, hw1]; simp [World.setCell]
    simpa [World.setCell] using this
  · rw [n1 _ (fun e => hx (by rw [e])), m1 x hy, k1 _ (fun e => hx (by rw [e]))]
  · rw [World.frozen?_setCell, hw2, World.frozen?_setCells, hw1, World.frozen?_drewN, World.frozen?_setCell]
  · rw [n1 _ (by simp), m1 _ (fun e => hgR e.symm), k1 _ (by simp)]
  · rw [n1 _ (by simp), m1 _ (fun e => hgR e.symm), k1 _ (by simp)]
  · refine World.cell?_setCell_same _ _ _ (u := .int .i64 k) ?_
    rw [m1 _ (fun e => hgR e.symm), k1 _ (by simp)]; exact h1
  · rw [n1 _ (by simp), m1 _ (fun e => hgR e.symm)]; exact k3
  · rw [n1 _ (fun e => hgR (congrArg Addr.block e)), hw2]
    have := World.cell?_setCells_in g (X.map (Value.int .u8)) 0 w1 (fun i hi => by rw [Nat.zero_add]; exact room1 i (by simp at hi; omega)) j (by simpa using hj)
    rw [Nat.zero_add] at this
    rw [this]
    simp [List.getD, List.getElem?_eq_getElem hj]
  · rw [n1 _ (fun e => hgR (congrArg Addr.block e)), hw2]
    exact setCells_some g _ _ _ _ (room1 j hj)

theorem fill_last {V : World} {p : Option Addr} {n cp : Nat} {fe : Addr} {fl : List Int} {bo : Int} {s m reads : Nat} {w : World} (h : Str V p n cp fe fl bo s m m n .nilIface reads w) (hm : m ≤ 65536) (hr : reads ≤ 1000) :
    Calls Ybad.prog 14 #[.pointer (some ⟨V.heap.size + 2, 0, none⟩)] w fun e w' => e = .returned (.tuple #[]) ∧ Str V p n cp fe fl bo (s + m) 0 0 n (.iface 53 (.pointer (some fe))) (reads + 1) w' := by
  refine fill_core h hm (X := []) rfl (by omega) trivial (fun j hj => by omega) ?_
  intro W hW hF
  have h1 : W.cell? ⟨V.heap.size, 1, none⟩ = some (.int .i64 n) := (hW _ (by simp)).trans h.r1
  have h3 : W.cell? ⟨V.heap.size, 3, none⟩ = some (.int .i64 reads) := (hW _ (by simp)).trans h.r3
  refine (read_last ((hW _ (by simp)).trans h.r0) h1 ((hW _ (by simp)).trans h.r2) h3 ((hF _).trans (h.rf 3)) hr).mono ?_
  rintro e w' ⟨rfl, q, rfl⟩
  exact ⟨rfl, rd_last (by omega) h1 h3⟩

theorem fill_next {V : World} {p : Option Addr} {n b off cp : Nat} {fe : Addr} {A : Nat → Option Addr} {L C : Nat → Nat} {X : Nat → List Int} {bo : Int} {s m k reads : Nat} {w : World} (D : Chk V p n b off A L C X)
    (h : Str V p n cp fe (flat X n) bo s m m k .nilIface reads w) (hm : m ≤ 65536) (hr : reads ≤ 1000) (hk : k < n) (hn : n ≤ 256) (hs : s + m = pre X k) :
    Calls Ybad.prog 14 #[.pointer (some ⟨V.heap.size + 2, 0, none⟩)] w fun e w' => e = .returned (.tuple #[]) ∧ Str V p n cp fe (flat X n) bo (s + m) (L k) 0 (k + 1) .nilIface (reads + 1) w' := by
  have hXk := D.len k hk
  have hLk := D.max k hk
  refine fill_core h hm (X := X k) hXk hLk trivial (fun j hj => ?_) ?_
  · rw [hs]; exact (flat_get X hk (by omega)).symm
  intro W hW hF
  have old : ∀ (x : Addr) (v : Value), V.cell? x = some v → W.cell? x = some v := fun x v hx => by
    have hlt := World.block_lt_of_cell? _ _ hx
    rw [hW x (by omega), h.below.cell hlt]; exact hx
  have hlt := World.block_lt_of_cell? _ _ (D.out k hk)
  have h1 : W.cell? ⟨V.heap.size, 1, none⟩ = some (.int .i64 k) := (hW _ (by simp)).trans h.r1
  have h3 : W.cell? ⟨V.heap.size, 3, none⟩ = some (.int .i64 reads) := (hW _ (by simp)).trans h.r3
  have h0 := (hW ⟨V.heap.size, 0, none⟩ (by simp)).trans h.r0
  rw [D.pt (by omega)] at h0
  have hroom : ∀ j, j < 65536 → (W.cell? ⟨V.heap.size + 1, j, none⟩).isSome = true := fun j hj => by rw [hW _ (by simp)]; exact h.room j hj
  refine (read_next (R := V.heap.size) (g := V.heap.size + 1) (X := X k) h0 h1 h3 ((hF _).trans (h.rf 1)) ((hF _).trans (h.rf 3)) hr hk hn (old _ _ (D.out k hk)) (by simp at hlt; omega) (by omega) hXk hLk (D.nil k hk)
    (fun a ha j hj => old _ _ (D.src k hk a ha j hj))
    (fun a ha h0 e => by
      have := World.block_lt_of_cell? _ _ (D.src k hk a ha 0 h0)
      rw [add_block] at this; omega)
    hroom (fun j _ => (hF _).trans (h.gf j))).mono ?_
  rintro e w' ⟨rfl, q, rfl⟩
  exact ⟨rfl, rd_next (by omega) (by omega) h1 h3 hroom⟩
end Go.Proofs.YbulkhpaDoor
