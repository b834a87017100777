/-
  errors.As at the target *keyError over a chain of wrappers, by its contracts.
-/
import Derived.Test.YbulkhpaDoorAsFacts
import Derived.Deep.LoopGhost
import Derived.WalkSpells
namespace Go.Proofs.YbulkhpaDoor
open Go.RowKit Go.Extern.Stop Go.Stop Go.Extern

/-- x is n wrappers round z, as they lie in w -/
def Chain (w : World) : Nat → Value → Value → Prop
  | 0, x, z => x = z
  | n + 1, x, z => ∃ (b : Nat) (y : Value), x = .iface 45 (.pointer (some ⟨b, 0, none⟩)) ∧ w.cell? ⟨b, 0, none⟩ = some y ∧ Chain w n y z

theorem Chain.held {w : World} {T : TypeId} {v : Value} : ∀ {n : Nat} {x : Value}, Chain w n x (.iface T v) → ∃ T' v', x = .iface T' v'
  | 0, _, h => ⟨T, v, h⟩
  | _ + 1, _, ⟨b, _, h, _⟩ => ⟨45, .pointer (some ⟨b, 0, none⟩), h⟩

theorem Chain.later {w w' : World} (hb : Below w.heap.size w w') {z : Value} : ∀ {n : Nat} {x : Value}, Chain w n x z → Chain w' n x z
  | 0, _, h => h
  | _ + 1, _, ⟨b, y, h1, h2, h3⟩ => ⟨b, y, h1, cell_later hb h2, Chain.later hb h3⟩

theorem unwrap_any {b : Nat} {T : TypeId} {v : Value} {w : World} (h : w.cell? ⟨b, 0, none⟩ = some (.iface T v)) :
    Calls Ybad.prog 47 #[.pointer (some ⟨b, 0, none⟩)] w fun e w' => e = .returned (.iface T v) ∧ w' = w := by
  go_enter Ybad.func47, Ybad.ntmps47
  go_wp2
  go_ret
  exact ⟨rfl, rfl⟩

set_option maxHeartbeats 4000000 in
set_option maxRecDepth 1000000 in
theorem as_miss {n : Nat} {x : Value} {v : Value} {t a : Addr} {w : World} (hch : Chain w n x (.iface 53 v)) :
    Calls Ybad.prog 21 #[x, .iface 57 (.pointer (some t)), .agg #[.pointer (some ⟨2, 57, none⟩), .pointer (some a), .int .u64 150], .iface 75 (.agg #[.pointer (some ⟨2, 42, none⟩)])] w
      fun ev w' => ev = .returned (.bool false) ∧ Below w.heap.size w w' := by
  have h23 := @run_callFunc_extern Ybad.prog 23 _ ReflectliteType.typeOf Ybad.func23 (by kernel_rfl) (by kernel_rfl) (by kernel_rfl) (by kernel_rfl)
  have h53 := @run_callFunc_extern Ybad.prog 53 _ (ReflectliteType.relation "AssignableTo" ReflectliteType.assignableTo) Ybad.func53 (by kernel_rfl) (by kernel_rfl) (by kernel_rfl) (by kernel_rfl)
  have t45 := typeOf45
  have t53 := typeOf53
  have mA := methodAssignableTo
  have mU := methodUnwrap
  have a45 := assignable45
  have a53 := assignable53
  have n1 := noAs45
  have n2 := hasUnwrap45
  have n3 := noAs53
  have n4 := noUnwrap53
  have n5 := noUnwraps53
  go_enter Ybad.func21, Ybad.ntmps21
  go_wp2
  go_loopg [0] n (fun g v0 wx => Chain w g v0 (.iface 53 v) ∧ wx = w.alloc (.cells #[.pointer (some ⟨2, 57, none⟩), .pointer (some a), .int .u64 150] 64))
  case atStart => exact ⟨hch, rfl⟩
  case round =>
    obtain ⟨hc, rfl⟩ := hrel
    cases gk with
    | zero =>
      have hx : _ = Value.iface 53 v := hc
      clear hc hch
      subst hx
      go_wp2
      go_ret
      exact ⟨rfl, (Below.refl _ _).alloc (Nat.le_refl _) _⟩
    | succ g =>
      obtain ⟨b, y, hx, hy, hc2⟩ := hc
      subst hx
      obtain ⟨T, u, hyy⟩ := hc2.held
      subst hyy
      clear hch
      go_wp2_with fail
      refine (unwrap_any (cell_later ((Below.refl _ w).alloc (Nat.le_refl _) _) hy)).mono ?_
      rintro e w1 ⟨rfl, hw1⟩
      subst hw1
      have HC : Hid (Chain w g (.iface T u) (.iface 53 v)) := hc2
      clear hc2 hy
      go_wp2_with fail
      go_roundg g
      case rel => exact ⟨HC.out, rfl⟩
      case measure => omega

set_option maxHeartbeats 4000000 in
set_option maxRecDepth 1000000 in
theorem as_hit {n : Nat} {x : Value} {e t a : Addr} {old : Value} {w : World} (hch : Chain w n x (.iface 42 (.pointer (some e)))) (ha : w.cell? a = some (.pointer (some t))) (ht : w.cell? t = some old) (hf : w.frozen? t = false) :
    Calls Ybad.prog 21 #[x, .iface 57 (.pointer (some t)), .agg #[.pointer (some ⟨2, 57, none⟩), .pointer (some a), .int .u64 150], .iface 75 (.agg #[.pointer (some ⟨2, 42, none⟩)])] w
      fun ev w' => ev = .returned (.bool true) ∧ Below t.block w w' ∧ w'.cell? t = some (.pointer (some e)) := by
  have h23 := @run_callFunc_extern Ybad.prog 23 _ ReflectliteType.typeOf Ybad.func23 (by kernel_rfl) (by kernel_rfl) (by kernel_rfl) (by kernel_rfl)
  have h53 := @run_callFunc_extern Ybad.prog 53 _ (ReflectliteType.relation "AssignableTo" ReflectliteType.assignableTo) Ybad.func53 (by kernel_rfl) (by kernel_rfl) (by kernel_rfl) (by kernel_rfl)
  have h24 := @run_callFunc_extern Ybad.prog 24 _ (ReflectliteValue.method (ReflectliteValue.valueError "reflectlite.Value.Elem" 0) ReflectliteValue.elem) Ybad.func24 (by kernel_rfl) (by kernel_rfl) (by kernel_rfl) (by kernel_rfl)
  have h18 := @run_callFunc_extern Ybad.prog 18 _ (fun args => ReflectliteValue.unpack (args.getD 0 (.tuple #[]))) Ybad.func18 (by kernel_rfl) (by kernel_rfl) (by kernel_rfl) (by kernel_rfl)
  have h25 := @run_callFunc_extern Ybad.prog 25 _ ReflectliteValue.set Ybad.func25 (by kernel_rfl) (by kernel_rfl) (by kernel_rfl) (by kernel_rfl)
  have t45 := typeOf45
  have t42 := typeOf42
  have mA := methodAssignableTo
  have mU := methodUnwrap
  have a45 := assignable45
  have a42 := assignable42
  have n1 := noAs45
  have n2 := hasUnwrap45
  have v42 := valueOf42
  have htl := World.block_lt_of_cell? _ _ ht
  have b1 : Below w.heap.size w (w.alloc (.cells #[.pointer (some ⟨2, 57, none⟩), .pointer (some a), .int .u64 150] 64)) := (Below.refl _ w).alloc (Nat.le_refl _) _
  have b2 : Below w.heap.size w ((w.alloc (.cells #[.pointer (some ⟨2, 57, none⟩), .pointer (some a), .int .u64 150] 64)).alloc (.cells #[.pointer (some e)] 42)) := b1.alloc (by simp) _
  have el := elemV57 a t (w.alloc (.cells #[.pointer (some ⟨2, 57, none⟩), .pointer (some a), .int .u64 150] 64)) (cell_later b1 ha)
  have st := set42 t ⟨w.heap.size + 1, 0, none⟩ e old ((w.alloc (.cells #[.pointer (some ⟨2, 57, none⟩), .pointer (some a), .int .u64 150] 64)).alloc (.cells #[.pointer (some e)] 42))
    (by rw [World.cell?_alloc_at _ _ _ _ (by simp)]; rfl) (cell_later b2 ht) ((b2.frozen htl).trans hf)
  go_enter Ybad.func21, Ybad.ntmps21
  go_wp2
  go_loopg [0] n (fun g v0 wx => Chain w g v0 (.iface 42 (.pointer (some e))) ∧ wx = w.alloc (.cells #[.pointer (some ⟨2, 57, none⟩), .pointer (some a), .int .u64 150] 64))
  case atStart => exact ⟨hch, rfl⟩
  case round =>
    obtain ⟨hc, rfl⟩ := hrel
    cases gk with
    | zero =>
      have hx : _ = Value.iface 42 (.pointer (some e)) := hc
      clear hc hch
      subst hx
      have B2 : Hid (Below w.heap.size w ((w.alloc (.cells #[.pointer (some ⟨2, 57, none⟩), .pointer (some a), .int .u64 150] 64)).alloc (.cells #[.pointer (some e)] 42))) := b2
      clear b1 b2
      go_wp2
      go_ret
      exact ⟨rfl, (B2.out.mono (Nat.le_of_lt htl)).setCell (Nat.le_refl _) _, World.cell?_setCell_same _ _ _ (cell_later B2.out ht)⟩
    | succ g =>
      obtain ⟨b, y, hx, hy, hc2⟩ := hc
      subst hx
      obtain ⟨T, u, hyy⟩ := hc2.held
      subst hyy
      clear hch el st
      go_wp2_with fail
      refine (unwrap_any (cell_later b1 hy)).mono ?_
      rintro e1 w1 ⟨rfl, hw1⟩
      subst hw1
      have HC : Hid (Chain w g (.iface T u) (.iface 42 (.pointer (some e)))) := hc2
      clear hc2 hy b1 b2
      go_wp2_with fail
      go_roundg g
      case rel => exact ⟨HC.out, rfl⟩
      case measure => omega
end Go.Proofs.YbulkhpaDoor
