/-
  errors.As, strings.HasPrefix at "[", zzs0416cwant and within, by their contracts.
-/
import Derived.Test.YbulkhpaDoorAs
import Derived.ProofKit
import Derived.WalkLawsBesides
import Derived.Lib.Strings
import Derived.Deep.QuietTactic
import Derived.BigQuiet
import Derived.BigRegion
namespace Go.Proofs.YbulkhpaDoor
open Go.RowKit Go.Extern.Stop Go.Stop Go.Extern

set_option maxHeartbeats 4000000 in
set_option maxRecDepth 1000000 in
theorem As_core {T : TypeId} {v : Value} {t : Addr} {w : World} {b : Bool} {R : World → Prop} (hg : w.cell? ⟨1, 0, none⟩ = some (.iface 75 (.agg #[.pointer (some ⟨2, 25, none⟩)])))
    (HC : Calls Ybad.prog 21 #[.iface T v, .iface 57 (.pointer (some t)), .agg #[.pointer (some ⟨2, 57, none⟩), .pointer (some ⟨w.heap.size, 0, none⟩), .int .u64 150], .iface 75 (.agg #[.pointer (some ⟨2, 42, none⟩)])]
      ((w.alloc (.cells #[.pointer (some t)] 57)).alloc (.cells #[.pointer (some ⟨2, 57, none⟩), .pointer (some ⟨w.heap.size, 0, none⟩), .int .u64 150] 64)) fun ev w' => ev = .returned (.bool b) ∧ R w') :
    Calls Ybad.prog 15 #[.iface T v, .iface 57 (.pointer (some t))] w fun ev w' => ev = .returned (.bool b) ∧ R w' := by
  have h18 := @run_callFunc_extern Ybad.prog 18 _ (fun args => ReflectliteValue.unpack (args.getD 0 (.tuple #[]))) Ybad.func18 (by kernel_rfl) (by kernel_rfl) (by kernel_rfl) (by kernel_rfl)
  have h19 := @run_callFunc_extern Ybad.prog 19 _ (ReflectliteValue.methodAny (ReflectliteValue.valueError "reflectlite.Value.Type" 0) (fun t _ _ _ => ReflectliteType.toType t)) Ybad.func19 (by kernel_rfl) (by kernel_rfl) (by kernel_rfl) (by kernel_rfl)
  have h20 := @run_callFunc_extern Ybad.prog 20 _ (ReflectliteValue.method (ReflectliteValue.valueError "reflectlite.Value.IsNil" 0) ReflectliteValue.isNil) Ybad.func20 (by kernel_rfl) (by kernel_rfl) (by kernel_rfl) (by kernel_rfl)
  have h40 := @run_callFunc_extern Ybad.prog 40 _ (ReflectliteType.abiMethod fun t => do pure (.int .u8 (← Rtype.kind t))) Ybad.func40 (by kernel_rfl) (by kernel_rfl) (by kernel_rfl) (by kernel_rfl)
  have h55 := @run_callFunc_extern Ybad.prog 55 _ (ReflectliteType.method ReflectliteType.elem) Ybad.func55 (by kernel_rfl) (by kernel_rfl) (by kernel_rfl) (by kernel_rfl)
  have h56 := @run_callFunc_extern Ybad.prog 56 _ (ReflectliteType.relation "Implements" ReflectliteType.implements_) Ybad.func56 (by kernel_rfl) (by kernel_rfl) (by kernel_rfl) (by kernel_rfl)
  have f18 := valueOf57
  have f19 := type57
  have mK := methodKind
  have mE := methodElem
  have mI := methodImplements
  have k57 := kind57
  have k42 := kind42
  have e57 := elem57
  have i42 := implements42
  have b1 : Below w.heap.size w (w.alloc (.cells #[.pointer (some t)] 57)) := (Below.refl _ w).alloc (Nat.le_refl _) _
  have b2 : Below w.heap.size w ((w.alloc (.cells #[.pointer (some t)] 57)).alloc (.cells #[.pointer (some ⟨2, 57, none⟩), .pointer (some ⟨w.heap.size, 0, none⟩), .int .u64 150] 64)) := b1.alloc (by simp) _
  have n20 := isNil57 ⟨w.heap.size, 0, none⟩ t ((w.alloc (.cells #[.pointer (some t)] 57)).alloc (.cells #[.pointer (some ⟨2, 57, none⟩), .pointer (some ⟨w.heap.size, 0, none⟩), .int .u64 150] 64)) (by simp)
  have hg2 := cell_later b2 hg
  have HD : Hid _ := HC
  clear b1 b2 hg HC
  go_enter Ybad.func15, Ybad.ntmps15
  go_wp2_with fail
  refine (Calls.mono HD.out ?_)
  rintro e w1 ⟨rfl, h1⟩
  clear hg2 n20
  go_wp2
  go_ret
  exact ⟨rfl, h1⟩
end Go.Proofs.YbulkhpaDoor
