/-
  The walk of LawS0416AStream.
-/
import Derived.Test.YbulkhpaDoorNew
import Derived.Laws.AppendOwnNone
namespace Go.Proofs.YbulkhpaDoor
open Go.RowKit

set_option maxHeartbeats 4000000 in
set_option maxRecDepth 1000000 in
theorem stream_long {p : Option Addr} {n cp : Nat} {bo : Int} {fl : Bool} {w : World} (hs : 256 < n) (hm : n ≤ maxLen) :
    Calls Ybad.prog 3 #[.slice p n cp, .int .i64 bo, .bool fl] w fun e w' => e = .returned (.bool true) ∧ Below w.heap.size w w' := by
  unfold maxLen at hm
  go_enter Ybad.func3, Ybad.ntmps3
  go_wp2
  go_ret
  exact ⟨rfl, Below.refl _ _⟩

/-- the chunks as they come in: no bound on a chunk's length yet -/
structure In (w : World) (p : Option Addr) (n b off : Nat) (A : Nat → Option Addr) (L C : Nat → Nat) (X : Nat → List Int) : Prop where
  pt : 0 < n → p = some ⟨b, off, none⟩
  out : ∀ r, r < n → w.cell? ⟨b, off + r, none⟩ = some (.slice (A r) (L r) (C r))
  len : ∀ r, r < n → (X r).length = L r
  big : ∀ r, r < n → L r ≤ maxLen
  nil : ∀ r, r < n → A r = none → L r = 0 ∧ C r = 0
  src : ∀ r, r < n → ∀ a, A r = some a → ∀ j, j < L r → w.cell? (a.add j) = some (.int .u8 ((X r).getD j 0))

theorem In.chk {w V : World} {p : Option Addr} {n b off : Nat} {A : Nat → Option Addr} {L C : Nat → Nat} {X : Nat → List Int} (h : In w p n b off A L C X) (hmax : ∀ r, r < n → L r ≤ 1024) (hb : Below w.heap.size w V) : Chk V p n b off A L C X :=
  ⟨h.pt, fun r hr => cell_later hb (h.out r hr), h.len, hmax, fun r hr ha => (h.nil r hr ha).1, fun r hr a ha j hj => cell_later hb (h.src r hr a ha j hj)⟩

theorem make_want (N : Nat) (hN : N ≤ 4096) (w : World) : (Instr.makeSlice 23 (.int .i64 0) (.int .i64 (N : Int))).run Ybad.prog w = .ok (.slice (some ⟨w.heap.size, 0, none⟩) 0 N) (w.alloc (.cells (madeCells #[.int .u8 0] N) 5)) := by
  obtain ⟨i, hi, hzz⟩ := Option.map_eq_some_iff.1 Ybad.info5
  simp only [Prod.mk.injEq] at hzz
  obtain ⟨hz, hs, hb⟩ := hzz
  have h := run_make (P := Ybad.prog) w 23 5 i _ Ybad.underlying23 hi hz .i64 .i64 0 N (by omega) (by omega) (by rw [hb]; omega) (by omega)
  rw [hs] at h
  simp only [Int.toNat_zero, Int.toNat_natCast, Nat.mul_one] at h
  exact h

theorem want_none {wr : World} {B : Nat} {X : Nat → List Int} {j : Nat} {v : Value} (hX : (X j).length = 0) (hown : wr.ownsRow B 5 1 v (pre X j) ((flat X j).map (Value.int .u8))) :
    wr.ownsRow B 5 1 v (pre X (j + 1)) ((flat X (j + 1)).map (Value.int .u8)) := by
  have e : X j = [] := List.eq_nil_of_length_eq_zero hX
  rw [pre_succ, hX, flat, e, List.append_nil]; exact hown

theorem want_new (w : World) (N : Nat) (hN : N ≤ 4096) : (w.alloc (.cells (madeCells #[.int .u8 0] N) 5)).ownsRow w.heap.size 5 1 (.slice (some ⟨w.heap.size, 0, none⟩) 0 N) 0 [] :=
  World.ownsRow_made w _ N (Nat.le_refl _) (by unfold maxLen; omega) (by simp [size_madeCells])

theorem want_step {w wr w1 : World} {X : Nat → List Int} {j l : Nat} {v v' : Value} (hX : (X j).length = l) (hb : Below w.heap.size w wr) (hown : wr.ownsRow w.heap.size 5 1 v (pre X j) ((flat X j).map (Value.int .u8)))
    (hown' : w1.ownsRow w.heap.size 5 1 v' (pre X j + l) ((flat X j).map (Value.int .u8) ++ (X j).map (Value.int .u8))) (hgrow : wr.grownBy w1 v.ownBlock) :
    w1.ownsRow w.heap.size 5 1 v' (pre X (j + 1)) ((flat X (j + 1)).map (Value.int .u8)) ∧ Below w.heap.size w w1 := by
  refine ⟨?_, hb.grown hgrow hb.size (fun k hk => (hown.lt k hk).1)⟩
  rw [pre_succ, hX, flat, List.map_append]; exact hown'

set_option maxHeartbeats 8000000 in
set_option maxRecDepth 1000000 in
theorem stream_any {p : Option Addr} {n cp b off : Nat} {bo : Int} {fl : Bool} {A : Nat → Option Addr} {L C : Nat → Nat} {X : Nat → List Int} {w : World} {a : Addr} (hn : n ≤ 256) (I : In w p n b off A L C X) (hbo : wrap64 bo = bo)
    (hg : w.cell? ⟨0, 0, none⟩ = some (.iface 53 (.pointer (some a)))) :
    Calls Ybad.prog 3 #[.slice p n cp, .int .i64 bo, .bool fl] w fun e w' => e = .returned (.bool true) ∧ Below w.heap.size w w' := by
  have h256 : decide ((256 : Int) < (n : Int)) = false := decide_eq_false (by omega)
  go_enter Ybad.func3, Ybad.ntmps3
  go_wp2
  go_loop [7, 9, 26] (fun v7 _ v26 => ∃ k : Nat, k ≤ n ∧ v26 = .int .i64 k ∧ v7 = .int .i64 (pre X k) ∧ ∀ r, r < k → L r ≤ 1024) (fun _ _ v => n - (intOf v).toNat)
  case atStart => exact ⟨0, Nat.zero_le _, rfl, rfl, by omega⟩
  case round =>
    obtain ⟨k, hk, rfl, rfl, hle⟩ := hrel
    have hpk := pre_le (X := X) k (fun r hr => by rw [I.len r (by omega)]; exact hle r hr)
    by_cases hlt : k < n
    · obtain rfl := I.pt (by omega)
      have c0 := I.out k hlt
      have hLk := I.big k hlt
      have hXk := I.len k hlt
      unfold maxLen at hLk
      have hkn : (k : Int) < (n : Int) := by omega
      by_cases hbig : L k ≤ 1024
      · have HX : Hid ((X k).length = L k) := hXk
        have HL : Hid (∀ r, r < k → L r ≤ 1024) := hle
        clear hXk hle
        go_wp2
        go_round
        case rel => exact ⟨k + 1, by omega, by go_num, by rw [pre_succ, HX.out]; go_num, fun r hr => by
          by_cases e : r = k
          · subst e; exact hbig
          · exact HL.out r (by omega)⟩
        case measure => simp [intOf]; omega
      · clear hXk hle
        go_wp2
        go_ret
        exact ⟨rfl, Below.refl _ _⟩
    · obtain rfl : k = n := by omega
      by_cases hbig : pre X k ≤ 4096
      · have H4 : decide ((4096 : Int) < (pre X k : Int)) = false := decide_eq_false (by omega)
        have HL : Hid (∀ r, r < k → L r ≤ 1024) := hle
        clear hle
        have hmk := make_want (pre X k) hbig
        go_wp2_with fail
        clear hmk
        go_loopw [10, 12, 44] (fun v10 _ v44 wr => ∃ j : Nat, j ≤ k ∧ v44 = .int .i64 j ∧ wr.ownsRow w.heap.size 5 1 v10 (pre X j) ((flat X j).map (Value.int .u8)) ∧ Below w.heap.size w wr) (fun _ _ v _ => k - (intOf v).toNat)
        case atStart => exact ⟨0, Nat.zero_le _, rfl, want_new w _ hbig, (Below.refl _ _).alloc (Nat.le_refl _) _⟩
        case round =>
          obtain ⟨j, hj, rfl, hown, hb⟩ := hrel
          by_cases hjk : j < k
          · obtain rfl := I.pt (by omega)
            have c0 : wr.cell? ⟨b, off + j, none⟩ = some (.slice (A j) (L j) (C j)) := cell_later hb (I.out j hjk)
            have hXj := I.len j hjk
            have hLj := HL.out j hjk
            have hji : (j : Int) < (k : Int) := by omega
            have hpm := pre_mono X hj
            obtain ⟨i0, hi0, hz0, hz1, hz2⟩ := info_parts Ybad.info5
            have hbz := hb.size
            cases hA : A j with
            | none =>
              obtain ⟨h1, h2⟩ := I.nil j hjk hA
              rw [hA, h1, h2] at c0
              have HX : Hid ((X j).length = 0) := hXj.trans h1
              have HO := hown
              clear hXj hA h1 h2
              go_wp2_with (at_builtin; refine wpList_append_own_none rfl (.tmp 48) (.tmp 49) 23 rfl w.heap.size 5 i0 1 Ybad.underlying23 hi0 _ _ _ rfl hown rfl ?_)
              exact ⟨⟨j + 1, by omega, by go_num, want_none HX.out HO, hb⟩, by simp [intOf]; omega⟩
            | some aa =>
              have hsrc := I.src j hjk aa hA
              have c1 : ((X j).map (Value.int .u8)).length = L j * 1 := by simpa using hXj
              have c2 : ∀ i u, ((X j).map (Value.int .u8))[i]? = some u → wr.cell? (aa.add i) = some u := fun i u hi => by
                have hil : i < (X j).length := by
                  rcases Nat.lt_or_ge i (X j).length with h | h
                  · exact h
                  · simp [List.getElem?_eq_none h] at hi
                have := cell_later hb (hsrc i (by omega))
                simp [List.getElem?_eq_getElem hil] at hi
                subst hi
                simpa [List.getD, List.getElem?_eq_getElem hil] using this
              have c3 : ∀ u ∈ (X j).map (Value.int .u8), u.oneCell' = true := fun u hu => by simp at hu; obtain ⟨q, _, rfl⟩ := hu; rfl
              have c4 : pre X j + L j ≤ maxLen := by unfold maxLen; omega
              have c5 : (pre X j + L j) * 1 ≤ 140737488355328 := by omega
              rw [hA] at c0
              have HX : Hid ((X j).length = L j) := hXj
              have HO : Hid (wr.ownsRow w.heap.size 5 1 u10 (pre X j) ((flat X j).map (Value.int .u8))) := hown
              have H1 : Hid (((X j).map (Value.int .u8)).length = L j * 1) := c1
              have H2 : Hid (∀ i u, ((X j).map (Value.int .u8))[i]? = some u → wr.cell? (aa.add i) = some u) := c2
              have H3 : Hid (∀ u ∈ (X j).map (Value.int .u8), u.oneCell' = true) := c3
              clear hXj hA hsrc c1 c2 c3 hown
              go_wp2_with (at_builtin; refine wpList_append_own _ rfl (.tmp 48) (.tmp 49) 23 rfl w.heap.size 5 i0 (.int .u8 0) 1 1 Ybad.underlying23 hi0 hz0 hz1 hz2 rfl (by decide) _ _ _ rfl HO.out aa (L j) (C j) _ rfl H1.out H2.out H3.out c4 c5 hbz ?_; intro v' w1 hown' hgrow _)
              have R := want_step HX.out hb HO.out hown' hgrow
              exact ⟨⟨j + 1, by omega, by go_num, R.1, R.2⟩, by simp [intOf]; omega⟩
          · obtain rfl : j = k := by omega
            cases fl
            · skip
              have g0 : wr.cell? ⟨0, 0, none⟩ = some (.iface 53 (.pointer (some a))) := cell_later hb hg
              have hwant := want_cells hown
              have D := I.chk HL.out hb
              have hbV := hb
              clear hown hg hb I
              obtain ⟨V, hV⟩ : ∃ V, V = wr := ⟨_, rfl⟩
              subst hV

              go_wp2_with fail
              refine (newScanner_any (.iface 27 (.pointer (some ⟨V.heap.size, 0, none⟩))) trivial bo _).mono ?_
              rintro e w2 ⟨rfl, hw2⟩
              subst hw2
              go_wp2_with fail
              go_loopw [16, 17, 18] (fun v16 _ _ wx => ∃ i : Nat, i ≤ pre X j ∧ v16 = .int .i64 i ∧ St V p j cp a X bo i wx) (fun v _ _ _ => pre X j - (intOf v).toNat)
              case atStart => exact ⟨0, Nat.zero_le _, rfl, str_new hbo⟩
              case round =>
                obtain ⟨i, hi, rfl, hSt⟩ := hrel
                by_cases hlt3 : i < pre X j
                · obtain ⟨gw, cw, hu, hgw, hcw⟩ := hwant (by omega)
                  subst hu
                  have hcz := hcw i hlt3
                  have hii : (i : Int) < (pre X j : Int) := by omega
                  clear hcw hwant
                  go_wp2_with fail
                  refine (speek_in D hn hSt hlt3).mono ?_
                  rintro e w3 ⟨rfl, s, m, c, kk, hS, hcm, hsm, hkn2, hm3, hsc⟩
                  have HSM : Hid (s + m = pre X kk) := hsm
                  have HSC : Hid (s + c = i) := hsc
                  have c1 := (hS.below.cell (p := ⟨gw, i, none⟩) hgw).trans hcz
                  clear hcz hsm hsc
                  generalize (flat X j).getD i 0 = z at c1 ⊢
                  go_wp2_with fail
                  refine (offset_any hS.s3 hS.s2).mono ?_
                  rintro e w4 ⟨rfl, q, hw4⟩
                  subst hw4
                  have hoff : wrap64 (wrap64 (bo + (s : Int)) + (c : Int)) = wrap64 (bo + (i : Int)) := by
                    rw [wrap64_add, show bo + (s : Int) + (c : Int) = bo + (i : Int) by have := HSC.out; omega]
                  rw [hoff]
                  have p2 := hS.s2
                  have f2 := hS.sf 2
                  have hcb : c ≤ 1024 := by omega
                  clear hoff c1
                  go_wp2_with fail
                  go_roundw
                  case rel => exact ⟨i + 1, by omega, by go_num, s, m, c + 1, kk, at_step (hS.drewN q) rfl, by omega, HSM.out, hkn2, hm3, by have := HSC.out; omega⟩
                  case measure => simp [intOf]; omega
                · obtain rfl : i = pre X j := by omega
                  clear hwant
                  go_wp2_with fail
                  refine (speek_end D hn hSt).mono ?_
                  rintro e w3 ⟨rfl, s, hS⟩
                  have s4 := hS.s4
                  have r3 : w3.cell? ⟨V.heap.size, 3, none⟩ = some (.int .i64 ((j : Int) + 1)) := hS.r3
                  have hne := neq_same a
                  go_wp2_with fail
                  refine (peek_end (len := 0) hS.s1 hS.s2 hS.s4).mono ?_
                  rintro e w4 ⟨rfl, q, hw4⟩
                  subst hw4
                  go_wp2
                  go_ret
                  exact ⟨rfl, hbV.trans (drewN_below (hS.below.mono hbV.size) q)⟩
            · skip
              have g0 : wr.cell? ⟨0, 0, none⟩ = some (.iface 53 (.pointer (some a))) := cell_later hb hg
              have hwant0 := want_cells hown
              clear hown hg
              go_wp2_with fail
              refine (errNew_any _ _).mono ?_
              rintro e w2 ⟨rfl, hw2⟩
              have hbW : Below wr.heap.size wr w2 := by rw [hw2]; exact (Below.refl _ _).alloc (Nat.le_refl _) _
              clear hw2
              have hbV : Below w.heap.size w w2 := hb.trans (hbW.mono hb.size)
              have D := I.chk HL.out hbV
              have hwant : 0 < pre X j → ∃ g cap, u10 = .slice (some ⟨g, 0, none⟩) (pre X j) cap ∧ g < w2.heap.size ∧ ∀ i, i < pre X j → w2.cell? ⟨g, i, none⟩ = some (.int .u8 ((flat X j).getD i 0)) := fun h => by
                obtain ⟨g, cap, h1, h2, h3⟩ := hwant0 h
                exact ⟨g, cap, h1, Nat.lt_of_lt_of_le h2 hbW.size, fun i hi => cell_later hbW (h3 i hi)⟩
              obtain ⟨fe, hfe⟩ : ∃ fe : Addr, fe = ⟨wr.heap.size, 0, none⟩ := ⟨_, rfl⟩
              rw [← hfe]
              clear hfe hwant0 hb I hbW g0
              obtain ⟨V, hV⟩ : ∃ V, V = w2 := ⟨_, rfl⟩
              subst hV

              go_wp2_with fail
              refine (newScanner_any (.iface 27 (.pointer (some ⟨V.heap.size, 0, none⟩))) trivial bo _).mono ?_
              rintro e w2 ⟨rfl, hw2⟩
              subst hw2
              go_wp2_with fail
              go_loopw [16, 17, 18] (fun v16 _ _ wx => ∃ i : Nat, i ≤ pre X j ∧ v16 = .int .i64 i ∧ St V p j cp fe X bo i wx) (fun v _ _ _ => pre X j - (intOf v).toNat)
              case atStart => exact ⟨0, Nat.zero_le _, rfl, str_new hbo⟩
              case round =>
                obtain ⟨i, hi, rfl, hSt⟩ := hrel
                by_cases hlt3 : i < pre X j
                · obtain ⟨gw, cw, hu, hgw, hcw⟩ := hwant (by omega)
                  subst hu
                  have hcz := hcw i hlt3
                  have hii : (i : Int) < (pre X j : Int) := by omega
                  clear hcw hwant
                  go_wp2_with fail
                  refine (speek_in D hn hSt hlt3).mono ?_
                  rintro e w3 ⟨rfl, s, m, c, kk, hS, hcm, hsm, hkn2, hm3, hsc⟩
                  have HSM : Hid (s + m = pre X kk) := hsm
                  have HSC : Hid (s + c = i) := hsc
                  have c1 := (hS.below.cell (p := ⟨gw, i, none⟩) hgw).trans hcz
                  clear hcz hsm hsc
                  generalize (flat X j).getD i 0 = z at c1 ⊢
                  go_wp2_with fail
                  refine (offset_any hS.s3 hS.s2).mono ?_
                  rintro e w4 ⟨rfl, q, hw4⟩
                  subst hw4
                  have hoff : wrap64 (wrap64 (bo + (s : Int)) + (c : Int)) = wrap64 (bo + (i : Int)) := by
                    rw [wrap64_add, show bo + (s : Int) + (c : Int) = bo + (i : Int) by have := HSC.out; omega]
                  rw [hoff]
                  have p2 := hS.s2
                  have f2 := hS.sf 2
                  have hcb : c ≤ 1024 := by omega
                  clear hoff c1
                  go_wp2_with fail
                  go_roundw
                  case rel => exact ⟨i + 1, by omega, by go_num, s, m, c + 1, kk, at_step (hS.drewN q) rfl, by omega, HSM.out, hkn2, hm3, by have := HSC.out; omega⟩
                  case measure => simp [intOf]; omega
                · obtain rfl : i = pre X j := by omega
                  clear hwant
                  go_wp2_with fail
                  refine (speek_end D hn hSt).mono ?_
                  rintro e w3 ⟨rfl, s, hS⟩
                  have s4 := hS.s4
                  have r3 : w3.cell? ⟨V.heap.size, 3, none⟩ = some (.int .i64 ((j : Int) + 1)) := hS.r3
                  have hne := neq_same fe
                  go_wp2_with fail
                  refine (peek_end (len := 0) hS.s1 hS.s2 hS.s4).mono ?_
                  rintro e w4 ⟨rfl, q, hw4⟩
                  subst hw4
                  go_wp2
                  go_ret
                  exact ⟨rfl, hbV.trans (drewN_below (hS.below.mono hbV.size) q)⟩
      · go_wp2
        go_ret
        exact ⟨rfl, Below.refl _ _⟩
end Go.Proofs.YbulkhpaDoor
