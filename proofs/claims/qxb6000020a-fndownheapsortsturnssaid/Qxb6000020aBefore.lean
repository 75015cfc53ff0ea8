/-
  The walks of Instant.Before (41), (*turn).before (39), zzHB1Less (35).
-/
import Derived.Test.Qxb6000020aProg
import Derived.Test.Qxb6000020aHeapPlain
import Derived.WalkKit
import Derived.Below
import Derived.WalkSpells
import Derived.WalkSmall
import Derived.BigQuiet
import Derived.Deep.QuietTactic
import Derived.Deep.RegionWith
import Derived.Deep.DeepCutAuto
import Derived.Laws.StructEq
namespace Go.Proofs.Qxb6000020a
open Go.RowKit Heap
set_option linter.unusedVariables false

def ib (s1 n1 s2 n2 : Int) : Bool := decide (s1 < s2 ∨ (s1 = s2 ∧ n1 < n2))

theorem ibefore (s1 n1 s2 n2 : Int) (w : World) :
    Calls Try.prog 41 #[.agg #[.int .i64 s1, .int .i32 n1], .agg #[.int .i64 s2, .int .i32 n2]] w fun e w' => e = .returned (.bool (ib s1 n1 s2 n2)) ∧ Below w.heap.size w w' := by
  have HB : ∀ o1 o2, Below w.heap.size w ((w.alloc o1).alloc o2) := fun o1 o2 => ((Below.refl _ _).alloc (Nat.le_refl _) o1).alloc (by simp) o2
  by_cases h1 : s1 < s2
  · have E : Hid (ib s1 n1 s2 n2 = true) := by unfold Hid ib; simp; omega
    go_enter Try.func41, Try.ntmps41
    go_wp2
    go_ret
    exact ⟨by rw [E.out]; rfl, HB _ _⟩
  · have d1 : decide (s1 < s2) = false := by simp; omega
    by_cases h2 : s1 = s2
    · have d2 : (s1 == s2) = true := by simp [h2]
      by_cases h3 : n1 < n2
      · have E : Hid (ib s1 n1 s2 n2 = true) := by unfold Hid ib; simp; omega
        clear h2
        go_enter Try.func41, Try.ntmps41
        go_wp2
        go_ret
        exact ⟨by rw [E.out]; rfl, HB _ _⟩
      · have E : Hid (ib s1 n1 s2 n2 = false) := by unfold Hid ib; simp; omega
        have d3 : decide (n1 < n2) = false := by simp; omega
        clear h2
        go_enter Try.func41, Try.ntmps41
        go_wp2
        go_ret
        exact ⟨by rw [E.out]; first | rfl | simp, HB _ _⟩
    · have E : Hid (ib s1 n1 s2 n2 = false) := by unfold Hid ib; simp; omega
      have d2 : (s1 == s2) = false := by simp [h2]
      clear h2
      go_enter Try.func41, Try.ntmps41
      go_wp2
      go_ret
      exact ⟨by rw [E.out]; first | rfl | simp, HB _ _⟩

/-- the four cells of a turn -/
def At (w : World) (g o : Nat) (t : Tn) : Prop :=
  w.cell? ⟨g, o, none⟩ = some (.int .i64 t.1) ∧ w.cell? ⟨g, o + 1, none⟩ = some (.int .i32 t.2.1) ∧ w.cell? ⟨g, o + 2, none⟩ = some (.int .i64 t.2.2.1) ∧ w.cell? ⟨g, o + 3, none⟩ = some (.int .i64 t.2.2.2)

theorem guard58 : Try.prog.eqGuardType Try.prog.depth 58 = false := by kernel_rfl
theorem stood58 : Try.prog.stoodInHeld 58 = false := by kernel_rfl
theorem under58 : Try.prog.underlying 58 = some (.struct (Try.prog.fieldsOf 58)) := by kernel_rfl
theorem neq58 (s1 n1 s2 n2 : Int) (W : World) : (binOp .neq 58 (.agg #[.int .i64 s1, .int .i32 n1]) (.agg #[.int .i64 s2, .int .i32 n2])).run Try.prog W = .ok (.bool (!((s1 == s2) && (n1 == n2)))) W := by
  rw [run_neq_struct, run_equalIn_agg W 9999 58 _ _ under58 stood58]
  simp only [Program.fieldsOf, Try.underlying58]
  cases h1 : (s1 == s2) <;> cases h2 : (n1 == n2) <;> simp [Op.eqFields, go_sem, h1, h2]

set_option maxHeartbeats 1000000 in
theorem before_any (g1 o1 g2 o2 : Nat) (s1 n1 r1 u1 s2 n2 r2 u2 : Int) (w : World) (h1 : At w g1 o1 (s1, n1, r1, u1)) (h2 : At w g2 o2 (s2, n2, r2, u2)) :
    Calls Try.prog 39 #[.pointer (some ⟨g1, o1, none⟩), .pointer (some ⟨g2, o2, none⟩)] w fun e w' => e = .returned (.bool (lt (s1, n1, r1, u1) (s2, n2, r2, u2))) ∧ Below w.heap.size w w' := by
  obtain ⟨a0, a1, a2, a3⟩ := h1
  obtain ⟨b0, b1, b2, b3⟩ := h2
  simp only at a0 a1 a2 a3 b0 b1 b2 b3
  have hg := guard58
  by_cases hsn : s1 = s2 ∧ n1 = n2
  · have hne : ∀ W, (binOp .neq 58 (.agg #[.int .i64 s1, .int .i32 n1]) (.agg #[.int .i64 s2, .int .i32 n2])).run Try.prog W = .ok (.bool false) W := by
      intro W; rw [neq58]; simp [hsn.1, hsn.2]
    by_cases hr : r1 = r2
    · have hrb : (r1 != r2) = false := by simp [hr]
      have E : Hid (lt (s1, n1, r1, u1) (s2, n2, r2, u2) = decide (u1 < u2)) := by unfold Hid lt; simp [hsn.1, hsn.2, hr]
      clear hsn hr
      go_enter Try.func39, Try.ntmps39
      go_wp2
      go_quiet (fail)
      go_wp2
      go_quiet (fail)
      go_wp2
      go_quiet (fail)
      go_wp2
      go_ret
      exact ⟨by rw [E.out]; rfl, below_drewN (below_drewN (below_drewN (Below.refl _ _) _) _) _⟩
    · have hrb : (r1 != r2) = true := by simp [hr]
      have E : Hid (lt (s1, n1, r1, u1) (s2, n2, r2, u2) = decide (r1 < r2)) := by unfold Hid lt; simp [hsn.1, hsn.2, hr]
      clear hsn hr
      go_enter Try.func39, Try.ntmps39
      go_wp2
      go_quiet (fail)
      go_wp2
      go_quiet (fail)
      go_wp2
      go_quiet (fail)
      go_wp2
      go_ret
      exact ⟨by rw [E.out]; rfl, below_drewN (below_drewN (below_drewN (Below.refl _ _) _) _) _⟩
  · have hne : ∀ W, (binOp .neq 58 (.agg #[.int .i64 s1, .int .i32 n1]) (.agg #[.int .i64 s2, .int .i32 n2])).run Try.prog W = .ok (.bool true) W := by
      intro W; rw [neq58]; simp only [Result.ok.injEq, Value.bool.injEq, and_true]; simp; omega
    have E : Hid (lt (s1, n1, r1, u1) (s2, n2, r2, u2) = ib s1 n1 s2 n2) := by
      unfold Hid; rw [Bool.eq_iff_iff, lt_iff]; unfold ib; simp; omega
    clear hsn
    go_enter Try.func39, Try.ntmps39
    go_wp2
    go_quiet (fail)
    go_wp2
    go_region_with (go_at_call 41; refine (ibefore _ _ _ _ _).mono ?_; rintro e w' ⟨rfl, hb⟩)
    all_goals
      go_wp2
      go_ret
      exact ⟨by rw [E.out]; rfl, (below_drewN (Below.refl _ _) _).drew.trans hb⟩

def tv (t : Tn) : Array Value := #[.int .i64 t.1, .int .i32 t.2.1, .int .i64 t.2.2.1, .int .i64 t.2.2.2]

theorem less_any (s1 n1 r1 u1 s2 n2 r2 u2 : Int) (w : World) :
    Calls Try.prog 35 #[.agg #[.int .i64 s1, .int .i32 n1, .int .i64 r1, .int .i64 u1], .agg #[.int .i64 s2, .int .i32 n2, .int .i64 r2, .int .i64 u2]] w fun e w' => e = .returned (.bool (lt (s1, n1, r1, u1) (s2, n2, r2, u2))) ∧ Below w.heap.size w w' := by
  have HB : ∀ o1 o2, Below w.heap.size w ((w.alloc o1).alloc o2) := fun o1 o2 => ((Below.refl _ _).alloc (Nat.le_refl _) o1).alloc (by simp) o2
  by_cases h1 : s1 = s2
  · have b1 : (s1 != s2) = false := by simp [h1]
    by_cases h2 : n1 = n2
    · have b2 : (n1 != n2) = false := by simp [h2]
      by_cases h3 : r1 = r2
      · have b3 : (r1 != r2) = false := by simp [h3]
        have E : Hid (lt (s1, n1, r1, u1) (s2, n2, r2, u2) = decide (u1 < u2)) := by unfold Hid lt; simp [h1, h2, h3]
        clear h1 h2 h3
        go_enter Try.func35, Try.ntmps35
        go_wp2
        go_ret
        exact ⟨by rw [E.out]; rfl, HB _ _⟩
      · have b3 : (r1 != r2) = true := by simp [h3]
        have E : Hid (lt (s1, n1, r1, u1) (s2, n2, r2, u2) = decide (r1 < r2)) := by unfold Hid lt; simp [h1, h2, h3]
        clear h1 h2 h3
        go_enter Try.func35, Try.ntmps35
        go_wp2
        go_ret
        exact ⟨by rw [E.out]; rfl, HB _ _⟩
    · have b2 : (n1 != n2) = true := by simp [h2]
      have E : Hid (lt (s1, n1, r1, u1) (s2, n2, r2, u2) = decide (n1 < n2)) := by unfold Hid lt; simp [h1, h2]
      clear h1 h2
      go_enter Try.func35, Try.ntmps35
      go_wp2
      go_ret
      exact ⟨by rw [E.out]; rfl, HB _ _⟩
  · have b1 : (s1 != s2) = true := by simp [h1]
    have E : Hid (lt (s1, n1, r1, u1) (s2, n2, r2, u2) = decide (s1 < s2)) := by unfold Hid lt; simp [h1]
    clear h1
    go_enter Try.func35, Try.ntmps35
    go_wp2
    go_ret
    exact ⟨by rw [E.out]; rfl, HB _ _⟩
end Go.Proofs.Qxb6000020a
