/-
  The walk of FnPlaceDecodesAStream (9) at empty slices.
-/
import Derived.Test.Qxb6000020aPut
import Derived.Test.Qxb6000020aIdle
namespace Go.Proofs.Qxb6000020a
open Go.ChangeShapes Go.WideShapes Go.ChangeAt Go.RowKit
set_option linter.unusedVariables false

set_option maxRecDepth 100000 in
set_option maxHeartbeats 4000000 in
theorem stream_zero (a0 a1 a2 a3 : Option Addr) (k0 k1 k2 k3 : Nat) (w : World) (o0 : NilOk a0 0 k0) (o1 : NilOk a1 0 k1) (o2 : NilOk a2 0 k2) (o3 : NilOk a3 0 k3) :
    Calls Try.prog 9 #[.slice a0 0 k0, .slice a1 0 k1, .slice a2 0 k2, .slice a3 0 k3] w fun e w' => e = .returned (.bool true) ∧ Below w.heap.size w w' := by
  obtain ⟨i0, hi, hz0, hz1, hz2⟩ := info_parts info5
  go_enter Try.func9, Try.ntmps9
  go_wp2_with (go_at_call 31; go_in)
  refine (cloneI_zero a0 k0 w o0).mono ?_
  rintro e w1 ⟨a0', rfl, hb1⟩
  go_wp2_with fail
  refine (clone64_zero a1 k1 w1 o1).mono ?_
  rintro e w2 ⟨a1', rfl, hb2⟩
  go_wp2_with fail
  refine (clone32_zero a2 k2 w2 o2).mono ?_
  rintro e w3 ⟨a2', rfl, hb3⟩
  go_wp2_with fail
  refine (cloneI_zero a3 k3 w3 o3).mono ?_
  rintro e w4 ⟨a3', rfl, hb4⟩
  have hb34 : Below w3.heap.size w3 w4 := hb4
  have hb24 : Below w2.heap.size w2 w4 := hb3.trans (hb34.mono hb3.size)
  have hb14 : Below w1.heap.size w1 w4 := hb2.trans (hb24.mono hb2.size)
  have hb04 : Below w.heap.size w w4 := hb1.trans (hb14.mono hb1.size)
  clear hb1 hb2 hb3 hb4 hb34 hb24 hb14
  go_wp2_with (at_make; refine wpList_make_own _ rfl _ _ 22 rfl w4.heap.size 5 i0 (.int .u8 0) 1 Try.underlying22 hi hz0 hz1 .i64 .i64 _ 0 rfl rfl (by omega) (by rw [hz2]; omega) (by unfold maxLen; omega) (Nat.le_refl _) ?_; intro w5 hown5 hgrow5)
  have hb5 : Below w4.heap.size w4 w5 := (Below.refl _ _).grown hgrow5 (Nat.le_refl _) (fun k h => by cases h)
  have hb05 := hb04.trans (hb5.mono hb04.size)
  clear hgrow5 hown5
  refine wp_loop_rounds 1 ?_
  rw [rounds_succ]
  go_wp2_with fail
  refine wp_loop_rounds 1 ?_
  rw [rounds_succ]
  go_wp2
  go_ret
  exact ⟨rfl, hb05⟩
end Go.Proofs.Qxb6000020a
