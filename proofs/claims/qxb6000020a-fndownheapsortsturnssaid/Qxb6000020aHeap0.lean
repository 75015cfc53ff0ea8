/-
  The walk of FnDownHeapSortsTurns (7) at empty slices.
-/
import Derived.Test.Qxb6000020aSortT
import Derived.Test.Qxb6000020aIdle
namespace Go.Proofs.Qxb6000020a
open Go.ChangeShapes Go.WideShapes Go.ChangeAt Go.RowKit
set_option linter.unusedVariables false

set_option maxHeartbeats 1000000 in
theorem from_zero (a0 a1 a2 a3 : Option Addr) (c0 c1 c2 c3 : Nat) (w : World) :
    Calls Try.prog 22 #[.slice a0 0 c0, .slice a1 0 c1, .slice a2 0 c2, .slice a3 0 c3] w fun e w' => (∃ a', e = .returned (.slice a' 0 0)) ∧ Below w.heap.size w w' := by
  obtain ⟨i0, hi, hz0, hz1, hz2⟩ := info_parts info43
  go_enter Try.func22, Try.ntmps22
  go_wp2_with (at_make; refine wpList_make_full _ rfl _ _ 37 rfl w.heap.size 43 i0 _ 4 Try.underlying37 hi hz0 hz1 .i64 .i64 _ _ 0 rfl rfl (by omega) (by omega) (by rw [hz2]; omega) (by unfold maxLen; omega) (Nat.le_refl _) ?_; intro w0 hown0 hgrow0)
  have hb0 : Below w.heap.size w w0 := (Below.refl _ _).grown hgrow0 (Nat.le_refl _) (fun k h => by cases h)
  clear hgrow0 hown0
  refine wp_loop_rounds 1 ?_
  rw [rounds_succ]
  go_wp2
  go_ret
  exact ⟨⟨_, rfl⟩, hb0⟩

theorem sort_zero (a : Option Addr) (w : World) : Calls Try.prog 27 #[.slice a 0 0] w fun e w' => e = .returned (.tuple #[]) ∧ w' = w := by
  go_enter Try.func27, Try.ntmps27
  go_wp2
  refine wp_loop_rounds 1 ?_
  rw [rounds_succ]
  go_wp2
  go_end0
  exact ⟨rfl, rfl⟩

set_option maxRecDepth 100000 in
set_option maxHeartbeats 4000000 in
theorem heap_zero (a0 a1 a2 a3 : Option Addr) (k0 k1 k2 k3 : Nat) (w : World) (o0 : NilOk a0 0 k0) (o1 : NilOk a1 0 k1) (o2 : NilOk a2 0 k2) (o3 : NilOk a3 0 k3) :
    Calls Try.prog 7 #[.slice a0 0 k0, .slice a1 0 k1, .slice a2 0 k2, .slice a3 0 k3] w fun e w' => e = .returned (.bool true) ∧ Below w.heap.size w w' := by
  go_enter Try.func7, Try.ntmps7
  go_wp2_with (go_at_call 26; go_in)
  refine (clone64_zero a0 k0 w o0).mono ?_
  rintro e w1 ⟨a0', rfl, hb1⟩
  go_wp2_with fail
  refine (clone32_zero a1 k1 w1 o1).mono ?_
  rintro e w2 ⟨a1', rfl, hb2⟩
  go_wp2_with fail
  refine (cloneI_zero a2 k2 w2 o2).mono ?_
  rintro e w3 ⟨a2', rfl, hb3⟩
  go_wp2_with fail
  refine (cloneI_zero a3 k3 w3 o3).mono ?_
  rintro e w4 ⟨a3', rfl, hb4⟩
  go_wp2_with fail
  refine (from_zero a0' a1' a2' a3' 0 0 0 0 w4).mono ?_
  rintro e w5 ⟨⟨a', rfl⟩, hb5⟩
  have hb45 : Below w4.heap.size w4 w5 := hb5
  have hb35 : Below w3.heap.size w3 w5 := hb4.trans (hb45.mono hb4.size)
  have hb25 : Below w2.heap.size w2 w5 := hb3.trans (hb35.mono hb3.size)
  have hb15 : Below w1.heap.size w1 w5 := hb2.trans (hb25.mono hb2.size)
  have hb05 : Below w.heap.size w w5 := hb1.trans (hb15.mono hb1.size)
  clear hb1 hb2 hb3 hb4 hb5 hb45 hb35 hb25 hb15
  go_wp2_with fail
  refine wp_loop_rounds 1 ?_
  rw [rounds_succ]
  go_wp2_with fail
  refine wp_loop_rounds 1 ?_
  rw [rounds_succ]
  go_wp2_with fail
  refine (sort_zero a' w5).mono ?_
  rintro e w6 ⟨rfl, rfl⟩
  go_wp2_with fail
  refine wp_loop_rounds 1 ?_
  rw [rounds_succ]
  go_wp2
  go_ret
  exact ⟨rfl, hb05⟩
end Go.Proofs.Qxb6000020a
