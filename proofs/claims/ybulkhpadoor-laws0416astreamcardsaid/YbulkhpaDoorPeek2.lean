/-
  peek over the reader: where a byte is to come; where the text ends.
-/
import Derived.Test.YbulkhpaDoorPeek
namespace Go.Proofs.YbulkhpaDoor
open Go.RowKit

/-- the scanner has given i bytes -/
def St (V : World) (p : Option Addr) (n cp : Nat) (fe : Addr) (X : Nat → List Int) (bo : Int) (i : Nat) (w : World) : Prop :=
  ∃ s m c k, Str V p n cp fe (flat X n) bo s m c k .nilIface k w ∧ c ≤ m ∧ s + m = pre X k ∧ k ≤ n ∧ m ≤ 1024 ∧ s + c = i
/-- .. and the next one lies in its window -/
def At (V : World) (p : Option Addr) (n cp : Nat) (fe : Addr) (X : Nat → List Int) (bo : Int) (i : Nat) (w : World) : Prop :=
  ∃ s m c k, Str V p n cp fe (flat X n) bo s m c k .nilIface k w ∧ c < m ∧ s + m = pre X k ∧ k ≤ n ∧ m ≤ 1024 ∧ s + c = i
/-- the text has ended -/
def Done (V : World) (p : Option Addr) (n cp : Nat) (fe : Addr) (X : Nat → List Int) (bo : Int) (w : World) : Prop :=
  ∃ s, Str V p n cp fe (flat X n) bo s 0 0 n (.iface 53 (.pointer (some fe))) (n + 1) w

theorem Str.drewN {V : World} {p : Option Addr} {n cp : Nat} {fe : Addr} {fl : List Int} {bo : Int} {s m c k : Nat} {err : Value} {reads : Nat} {w : World} (h : Str V p n cp fe fl bo s m c k err reads w) (q : Nat) : Str V p n cp fe fl bo s m c k err reads (w.drewN q) :=
  ⟨drewN_below h.below q, h.size, h.r0, h.r1, h.r2, h.r3, h.rf, h.s0, h.s1, h.s2, h.s3, h.s4, h.s6, h.s8, h.sf, h.room, h.gf, h.head⟩

set_option maxHeartbeats 4000000 in
set_option maxRecDepth 1000000 in
theorem speek_in {V : World} {p : Option Addr} {n b off cp : Nat} {fe : Addr} {A : Nat → Option Addr} {L C : Nat → Nat} {X : Nat → List Int} {bo : Int} {i : Nat} {w : World} (D : Chk V p n b off A L C X) (hn : n ≤ 256)
    (h : St V p n cp fe X bo i w) (hi : i < pre X n) :
    Calls Ybad.prog 9 #[.pointer (some ⟨V.heap.size + 2, 0, none⟩)] w fun e w' => e = .returned (.tuple #[.int .u8 ((flat X n).getD i 0), .bool true]) ∧ At V p n cp fe X bo i w' := by
  go_enter Ybad.func9, Ybad.ntmps9
  go_wp2
  go_loopw [] (fun wr => St V p n cp fe X bo i wr) (fun wr => n + 1 - (intOf ((wr.cell? ⟨V.heap.size, 3, none⟩).getD undef)).toNat)
  case atStart => exact h
  case round =>
    obtain ⟨s, m, c, k, hS, hcm, hsm, hkn, hm, hsc⟩ := hrel
    have HSM : Hid (s + m = pre X k) := hsm
    have HSC : Hid (s + c = i) := hsc
    clear hsc
    have s1 := hS.s1
    have s2 := hS.s2
    have s4 := hS.s4
    by_cases he : c = m
    · have hk : k < n := by
        have := HSC.out
        rcases Nat.lt_or_ge k n with h | h
        · exact h
        · obtain rfl : k = n := by omega
          omega
      clear hsm h
      subst he
      have hb : ((c : Int) == (c : Int)) = true := by simp
      go_wp2
      go_quiet (fail)
      go_wp2_with fail
      refine (fill_next D (hS.drewN _) (by omega) (by omega) hk hn HSM.out).mono ?_
      rintro e w1 ⟨rfl, h1⟩
      clear s1 s2 s4
      go_wp2_with fail
      refine ⟨⟨s + c, L k, 0, k + 1, h1, by omega, ?_, by omega, D.max k hk, ?_⟩, ?_⟩
      · rw [pre_succ, D.len k hk, HSM.out]
      · have := HSC.out; omega
      · rw [h1.r3, hS.r3]; simp [intOf]; omega
    · have hlt : c < m := by omega
      have hb : ((c : Int) == (m : Int)) = false := beq_eq_false_iff_ne.2 (by omega)
      have hl : (c : Int) < (m : Int) := by omega
      have hc := hS.head c hlt
      rw [HSC.out] at hc
      clear hsm h he
      go_wp2
      go_quiet (fail)
      go_wp2
      go_quiet (fail)
      go_wp2
      go_ret2
      refine ⟨rfl, s, m, c, k, ?_, hlt, HSM.out, hkn, hm, HSC.out⟩
      rw [World.drewN_drewN]
      exact hS.drewN _

set_option maxHeartbeats 4000000 in
set_option maxRecDepth 1000000 in
theorem speek_end {V : World} {p : Option Addr} {n b off cp : Nat} {fe : Addr} {A : Nat → Option Addr} {L C : Nat → Nat} {X : Nat → List Int} {bo : Int} {w : World} (D : Chk V p n b off A L C X) (hn : n ≤ 256)
    (h : St V p n cp fe X bo (pre X n) w) :
    Calls Ybad.prog 9 #[.pointer (some ⟨V.heap.size + 2, 0, none⟩)] w fun e w' => e = .returned (.tuple #[.int .u8 0, .bool false]) ∧ Done V p n cp fe X bo w' := by
  go_enter Ybad.func9, Ybad.ntmps9
  go_wp2
  go_loopw [] (fun wr => St V p n cp fe X bo (pre X n) wr ∨ Done V p n cp fe X bo wr) (fun wr => n + 1 - (intOf ((wr.cell? ⟨V.heap.size, 3, none⟩).getD undef)).toNat)
  case atStart => exact Or.inl h
  case round =>
    rcases hrel with ⟨s, m, c, k, hS, hcm, hsm, hkn, hm, hsc⟩ | ⟨s, hS⟩
    · have he : c = m := by
        have := pre_mono X hkn
        omega
      subst he
      have HSM : Hid (s + c = pre X k) := hsm
      have HSC : Hid (s + c = pre X n) := hsc
      clear hsc hsm h
      have s1 := hS.s1
      have s2 := hS.s2
      have s4 := hS.s4
      have hb : ((c : Int) == (c : Int)) = true := by simp
      by_cases hk : k < n
      · go_wp2
        go_quiet (fail)
        go_wp2_with fail
        refine (fill_next D (hS.drewN _) (by omega) (by omega) hk hn HSM.out).mono ?_
        rintro e w1 ⟨rfl, h1⟩
        clear s1 s2 s4
        go_wp2_with fail
        refine ⟨Or.inl ⟨s + c, L k, 0, k + 1, h1, by omega, ?_, by omega, D.max k hk, ?_⟩, ?_⟩
        · rw [pre_succ, D.len k hk, HSM.out]
        · have := HSC.out; omega
        · rw [h1.r3, hS.r3]; simp [intOf]; omega
      · obtain rfl : k = n := by omega
        go_wp2
        go_quiet (fail)
        go_wp2_with fail
        refine (fill_last (hS.drewN _) (by omega) (by omega)).mono ?_
        rintro e w1 ⟨rfl, h1⟩
        clear s1 s2 s4
        go_wp2_with fail
        refine ⟨Or.inr ⟨s + c, h1⟩, ?_⟩
        rw [h1.r3, hS.r3]; simp [intOf]
    · have s1 := hS.s1
      have s2 := hS.s2
      have s4 := hS.s4
      clear h
      go_wp2
      go_quiet (fail)
      go_wp2
      go_ret2
      exact ⟨rfl, s, hS.drewN _⟩
end Go.Proofs.YbulkhpaDoor
