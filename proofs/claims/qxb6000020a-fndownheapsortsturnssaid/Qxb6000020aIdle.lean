/-
  The clones of empty slices; the inputs at which FnPlaceDecodesAStream (9) and FnDownHeapSortsTurns (7) return at once.
-/
import Derived.Test.Qxb6000020aClone
namespace Go.Proofs.Qxb6000020a
open Go.ChangeShapes Go.WideShapes Go.ChangeAt Go.RowKit
set_option linter.unusedVariables false

/-- a slice that came in: nil, or of some capacity -/
def NilOk (a : Option Addr) (len cap : Nat) : Prop := a = none → len = 0 ∧ cap = 0

theorem clone64_zero (a : Option Addr) (cap : Nat) (w : World) (h : NilOk a 0 cap) :
    Calls Try.prog 19 #[.slice a 0 cap] w fun e w' => ∃ a', e = .returned (.slice a' 0 0) ∧ Below w.heap.size w w' := by
  cases a with
  | none =>
    obtain ⟨_, rfl⟩ := h rfl
    refine (clone64_nil w).mono ?_
    rintro e w' ⟨rfl, rfl⟩
    exact ⟨none, rfl, Below.refl _ _⟩
  | some x =>
    refine (clone64 x 0 cap [] w (fun h => absurd h (by omega)) (by simp) (by omega)).mono ?_
    rintro e w' ⟨rfl, _, hb, _⟩
    exact ⟨_, rfl, hb⟩

theorem clone32_zero (a : Option Addr) (cap : Nat) (w : World) (h : NilOk a 0 cap) :
    Calls Try.prog 20 #[.slice a 0 cap] w fun e w' => ∃ a', e = .returned (.slice a' 0 0) ∧ Below w.heap.size w w' := by
  cases a with
  | none =>
    obtain ⟨_, rfl⟩ := h rfl
    refine (clone32_nil w).mono ?_
    rintro e w' ⟨rfl, rfl⟩
    exact ⟨none, rfl, Below.refl _ _⟩
  | some x =>
    refine (clone32 x 0 cap [] w (fun h => absurd h (by omega)) (by simp) (by omega)).mono ?_
    rintro e w' ⟨rfl, _, hb, _⟩
    exact ⟨_, rfl, hb⟩

theorem cloneI_zero (a : Option Addr) (cap : Nat) (w : World) (h : NilOk a 0 cap) :
    Calls Try.prog 21 #[.slice a 0 cap] w fun e w' => ∃ a', e = .returned (.slice a' 0 0) ∧ Below w.heap.size w w' := by
  cases a with
  | none =>
    obtain ⟨_, rfl⟩ := h rfl
    refine (cloneI_nil w).mono ?_
    rintro e w' ⟨rfl, rfl⟩
    exact ⟨none, rfl, Below.refl _ _⟩
  | some x =>
    refine (cloneI x 0 cap [] w (fun h => absurd h (by omega)) (by simp) (by omega)).mono ?_
    rintro e w' ⟨rfl, _, hb, _⟩
    exact ⟨_, rfl, hb⟩

set_option maxRecDepth 100000 in
set_option maxHeartbeats 2000000 in
theorem stream_idle0 (a0 a1 a2 a3 : Option Addr) (n0 n1 n2 n3 k0 k1 k2 k3 : Nat) (w : World) (m0 : n0 ≤ 9223372036854775807) (m1 : n1 ≤ 9223372036854775807) (m2 : n2 ≤ 9223372036854775807) (m3 : n3 ≤ 9223372036854775807) (h : 4096 < n0) :
    Calls Try.prog 9 #[.slice a0 n0 k0, .slice a1 n1 k1, .slice a2 n2 k2, .slice a3 n3 k3] w fun e w' => e = .returned (.bool true) ∧ w' = w := by
  go_enter Try.func9, Try.ntmps9
  go_wp2
  all_goals (go_ret; exact ⟨rfl, rfl⟩)

set_option maxRecDepth 100000 in
set_option maxHeartbeats 2000000 in
theorem stream_idle1 (a0 a1 a2 a3 : Option Addr) (n0 n1 n2 n3 k0 k1 k2 k3 : Nat) (w : World) (m0 : n0 ≤ 9223372036854775807) (m1 : n1 ≤ 9223372036854775807) (m2 : n2 ≤ 9223372036854775807) (m3 : n3 ≤ 9223372036854775807) (h0 : n0 ≤ 4096) (h : 4096 < n1) :
    Calls Try.prog 9 #[.slice a0 n0 k0, .slice a1 n1 k1, .slice a2 n2 k2, .slice a3 n3 k3] w fun e w' => e = .returned (.bool true) ∧ w' = w := by
  go_enter Try.func9, Try.ntmps9
  go_wp2
  all_goals (go_ret; exact ⟨rfl, rfl⟩)

set_option maxRecDepth 100000 in
set_option maxHeartbeats 2000000 in
theorem stream_idle2 (a0 a1 a2 a3 : Option Addr) (n0 n1 n2 n3 k0 k1 k2 k3 : Nat) (w : World) (m0 : n0 ≤ 9223372036854775807) (m1 : n1 ≤ 9223372036854775807) (m2 : n2 ≤ 9223372036854775807) (m3 : n3 ≤ 9223372036854775807) (h0 : n0 ≤ 4096) (h1 : n1 ≤ 4096) (h : 4096 < n2) :
    Calls Try.prog 9 #[.slice a0 n0 k0, .slice a1 n1 k1, .slice a2 n2 k2, .slice a3 n3 k3] w fun e w' => e = .returned (.bool true) ∧ w' = w := by
  go_enter Try.func9, Try.ntmps9
  go_wp2
  all_goals (go_ret; exact ⟨rfl, rfl⟩)

set_option maxRecDepth 100000 in
set_option maxHeartbeats 2000000 in
theorem stream_idle3 (a0 a1 a2 a3 : Option Addr) (n0 n1 n2 n3 k0 k1 k2 k3 : Nat) (w : World) (m0 : n0 ≤ 9223372036854775807) (m1 : n1 ≤ 9223372036854775807) (m2 : n2 ≤ 9223372036854775807) (m3 : n3 ≤ 9223372036854775807) (h0 : n0 ≤ 4096) (h1 : n1 ≤ 4096) (h2 : n2 ≤ 4096) (h : 4096 < n3) :
    Calls Try.prog 9 #[.slice a0 n0 k0, .slice a1 n1 k1, .slice a2 n2 k2, .slice a3 n3 k3] w fun e w' => e = .returned (.bool true) ∧ w' = w := by
  go_enter Try.func9, Try.ntmps9
  go_wp2
  all_goals (go_ret; exact ⟨rfl, rfl⟩)

set_option maxRecDepth 100000 in
set_option maxHeartbeats 2000000 in
theorem stream_diff0 (a0 a1 a2 a3 : Option Addr) (n0 n1 n2 n3 k0 k1 k2 k3 : Nat) (w : World) (h0 : n0 ≤ 4096) (h1 : n1 ≤ 4096) (h2 : n2 ≤ 4096) (h3 : n3 ≤ 4096) (b1 : ((n1 : Int) != (n0 : Int)) = true) :
    Calls Try.prog 9 #[.slice a0 n0 k0, .slice a1 n1 k1, .slice a2 n2 k2, .slice a3 n3 k3] w fun e w' => e = .returned (.bool true) ∧ w' = w := by
  go_enter Try.func9, Try.ntmps9
  go_wp2
  all_goals (go_ret; exact ⟨rfl, rfl⟩)

set_option maxRecDepth 100000 in
set_option maxHeartbeats 2000000 in
theorem stream_diff1 (a0 a1 a2 a3 : Option Addr) (n0 n1 n2 n3 k0 k1 k2 k3 : Nat) (w : World) (h0 : n0 ≤ 4096) (h1 : n1 ≤ 4096) (h2 : n2 ≤ 4096) (h3 : n3 ≤ 4096) (b1 : ((n1 : Int) != (n0 : Int)) = false) (b2 : ((n2 : Int) != (n0 : Int)) = true) :
    Calls Try.prog 9 #[.slice a0 n0 k0, .slice a1 n1 k1, .slice a2 n2 k2, .slice a3 n3 k3] w fun e w' => e = .returned (.bool true) ∧ w' = w := by
  go_enter Try.func9, Try.ntmps9
  go_wp2
  all_goals (go_ret; exact ⟨rfl, rfl⟩)

set_option maxRecDepth 100000 in
set_option maxHeartbeats 2000000 in
theorem stream_diff2 (a0 a1 a2 a3 : Option Addr) (n0 n1 n2 n3 k0 k1 k2 k3 : Nat) (w : World) (h0 : n0 ≤ 4096) (h1 : n1 ≤ 4096) (h2 : n2 ≤ 4096) (h3 : n3 ≤ 4096) (b1 : ((n1 : Int) != (n0 : Int)) = false) (b2 : ((n2 : Int) != (n0 : Int)) = false) (b3 : ((n3 : Int) != (n0 : Int)) = true) :
    Calls Try.prog 9 #[.slice a0 n0 k0, .slice a1 n1 k1, .slice a2 n2 k2, .slice a3 n3 k3] w fun e w' => e = .returned (.bool true) ∧ w' = w := by
  go_enter Try.func9, Try.ntmps9
  go_wp2
  all_goals (go_ret; exact ⟨rfl, rfl⟩)

theorem stream_idle (a0 a1 a2 a3 : Option Addr) (n0 n1 n2 n3 k0 k1 k2 k3 : Nat) (w : World) (m0 : n0 ≤ maxLen) (m1 : n1 ≤ maxLen) (m2 : n2 ≤ maxLen) (m3 : n3 ≤ maxLen) (h : ¬ (n0 ≤ 4096 ∧ n1 = n0 ∧ n2 = n0 ∧ n3 = n0)) :
    Calls Try.prog 9 #[.slice a0 n0 k0, .slice a1 n1 k1, .slice a2 n2 k2, .slice a3 n3 k3] w fun e w' => e = .returned (.bool true) ∧ w' = w := by
  unfold maxLen at m0 m1 m2 m3
  by_cases h0 : n0 ≤ 4096
  · by_cases h1 : n1 ≤ 4096
    · by_cases h2 : n2 ≤ 4096
      · by_cases h3 : n3 ≤ 4096
        · by_cases e1 : n1 = n0
          · by_cases e2 : n2 = n0
            · exact stream_diff2 a0 a1 a2 a3 n0 n1 n2 n3 k0 k1 k2 k3 w h0 h1 h2 h3 (by simp; omega) (by simp; omega) (by simp; omega)
            · exact stream_diff1 a0 a1 a2 a3 n0 n1 n2 n3 k0 k1 k2 k3 w h0 h1 h2 h3 (by simp; omega) (by simp; omega)
          · exact stream_diff0 a0 a1 a2 a3 n0 n1 n2 n3 k0 k1 k2 k3 w h0 h1 h2 h3 (by simp; omega)
        · exact stream_idle3 a0 a1 a2 a3 n0 n1 n2 n3 k0 k1 k2 k3 w m0 m1 m2 m3 h0 h1 h2 (by omega)
      · exact stream_idle2 a0 a1 a2 a3 n0 n1 n2 n3 k0 k1 k2 k3 w m0 m1 m2 m3 h0 h1 (by omega)
    · exact stream_idle1 a0 a1 a2 a3 n0 n1 n2 n3 k0 k1 k2 k3 w m0 m1 m2 m3 h0 (by omega)
  · exact stream_idle0 a0 a1 a2 a3 n0 n1 n2 n3 k0 k1 k2 k3 w m0 m1 m2 m3 (by omega)

set_option maxRecDepth 100000 in
set_option maxHeartbeats 2000000 in
theorem heap_idle0 (a0 a1 a2 a3 : Option Addr) (n0 n1 n2 n3 k0 k1 k2 k3 : Nat) (w : World) (m0 : n0 ≤ 9223372036854775807) (m1 : n1 ≤ 9223372036854775807) (m2 : n2 ≤ 9223372036854775807) (m3 : n3 ≤ 9223372036854775807) (h : 4096 < n0) :
    Calls Try.prog 7 #[.slice a0 n0 k0, .slice a1 n1 k1, .slice a2 n2 k2, .slice a3 n3 k3] w fun e w' => e = .returned (.bool true) ∧ w' = w := by
  go_enter Try.func7, Try.ntmps7
  go_wp2
  all_goals (go_ret; exact ⟨rfl, rfl⟩)

set_option maxRecDepth 100000 in
set_option maxHeartbeats 2000000 in
theorem heap_idle1 (a0 a1 a2 a3 : Option Addr) (n0 n1 n2 n3 k0 k1 k2 k3 : Nat) (w : World) (m0 : n0 ≤ 9223372036854775807) (m1 : n1 ≤ 9223372036854775807) (m2 : n2 ≤ 9223372036854775807) (m3 : n3 ≤ 9223372036854775807) (h0 : n0 ≤ 4096) (h : 4096 < n1) :
    Calls Try.prog 7 #[.slice a0 n0 k0, .slice a1 n1 k1, .slice a2 n2 k2, .slice a3 n3 k3] w fun e w' => e = .returned (.bool true) ∧ w' = w := by
  go_enter Try.func7, Try.ntmps7
  go_wp2
  all_goals (go_ret; exact ⟨rfl, rfl⟩)

set_option maxRecDepth 100000 in
set_option maxHeartbeats 2000000 in
theorem heap_idle2 (a0 a1 a2 a3 : Option Addr) (n0 n1 n2 n3 k0 k1 k2 k3 : Nat) (w : World) (m0 : n0 ≤ 9223372036854775807) (m1 : n1 ≤ 9223372036854775807) (m2 : n2 ≤ 9223372036854775807) (m3 : n3 ≤ 9223372036854775807) (h0 : n0 ≤ 4096) (h1 : n1 ≤ 4096) (h : 4096 < n2) :
    Calls Try.prog 7 #[.slice a0 n0 k0, .slice a1 n1 k1, .slice a2 n2 k2, .slice a3 n3 k3] w fun e w' => e = .returned (.bool true) ∧ w' = w := by
  go_enter Try.func7, Try.ntmps7
  go_wp2
  all_goals (go_ret; exact ⟨rfl, rfl⟩)

set_option maxRecDepth 100000 in
set_option maxHeartbeats 2000000 in
theorem heap_idle3 (a0 a1 a2 a3 : Option Addr) (n0 n1 n2 n3 k0 k1 k2 k3 : Nat) (w : World) (m0 : n0 ≤ 9223372036854775807) (m1 : n1 ≤ 9223372036854775807) (m2 : n2 ≤ 9223372036854775807) (m3 : n3 ≤ 9223372036854775807) (h0 : n0 ≤ 4096) (h1 : n1 ≤ 4096) (h2 : n2 ≤ 4096) (h : 4096 < n3) :
    Calls Try.prog 7 #[.slice a0 n0 k0, .slice a1 n1 k1, .slice a2 n2 k2, .slice a3 n3 k3] w fun e w' => e = .returned (.bool true) ∧ w' = w := by
  go_enter Try.func7, Try.ntmps7
  go_wp2
  all_goals (go_ret; exact ⟨rfl, rfl⟩)

set_option maxRecDepth 100000 in
set_option maxHeartbeats 2000000 in
theorem heap_diff0 (a0 a1 a2 a3 : Option Addr) (n0 n1 n2 n3 k0 k1 k2 k3 : Nat) (w : World) (h0 : n0 ≤ 4096) (h1 : n1 ≤ 4096) (h2 : n2 ≤ 4096) (h3 : n3 ≤ 4096) (b1 : ((n1 : Int) != (n0 : Int)) = true) :
    Calls Try.prog 7 #[.slice a0 n0 k0, .slice a1 n1 k1, .slice a2 n2 k2, .slice a3 n3 k3] w fun e w' => e = .returned (.bool true) ∧ w' = w := by
  go_enter Try.func7, Try.ntmps7
  go_wp2
  all_goals (go_ret; exact ⟨rfl, rfl⟩)

set_option maxRecDepth 100000 in
set_option maxHeartbeats 2000000 in
theorem heap_diff1 (a0 a1 a2 a3 : Option Addr) (n0 n1 n2 n3 k0 k1 k2 k3 : Nat) (w : World) (h0 : n0 ≤ 4096) (h1 : n1 ≤ 4096) (h2 : n2 ≤ 4096) (h3 : n3 ≤ 4096) (b1 : ((n1 : Int) != (n0 : Int)) = false) (b2 : ((n2 : Int) != (n0 : Int)) = true) :
    Calls Try.prog 7 #[.slice a0 n0 k0, .slice a1 n1 k1, .slice a2 n2 k2, .slice a3 n3 k3] w fun e w' => e = .returned (.bool true) ∧ w' = w := by
  go_enter Try.func7, Try.ntmps7
  go_wp2
  all_goals (go_ret; exact ⟨rfl, rfl⟩)

set_option maxRecDepth 100000 in
set_option maxHeartbeats 2000000 in
theorem heap_diff2 (a0 a1 a2 a3 : Option Addr) (n0 n1 n2 n3 k0 k1 k2 k3 : Nat) (w : World) (h0 : n0 ≤ 4096) (h1 : n1 ≤ 4096) (h2 : n2 ≤ 4096) (h3 : n3 ≤ 4096) (b1 : ((n1 : Int) != (n0 : Int)) = false) (b2 : ((n2 : Int) != (n0 : Int)) = false) (b3 : ((n3 : Int) != (n0 : Int)) = true) :
    Calls Try.prog 7 #[.slice a0 n0 k0, .slice a1 n1 k1, .slice a2 n2 k2, .slice a3 n3 k3] w fun e w' => e = .returned (.bool true) ∧ w' = w := by
  go_enter Try.func7, Try.ntmps7
  go_wp2
  all_goals (go_ret; exact ⟨rfl, rfl⟩)

theorem heap_idle (a0 a1 a2 a3 : Option Addr) (n0 n1 n2 n3 k0 k1 k2 k3 : Nat) (w : World) (m0 : n0 ≤ maxLen) (m1 : n1 ≤ maxLen) (m2 : n2 ≤ maxLen) (m3 : n3 ≤ maxLen) (h : ¬ (n0 ≤ 4096 ∧ n1 = n0 ∧ n2 = n0 ∧ n3 = n0)) :
    Calls Try.prog 7 #[.slice a0 n0 k0, .slice a1 n1 k1, .slice a2 n2 k2, .slice a3 n3 k3] w fun e w' => e = .returned (.bool true) ∧ w' = w := by
  unfold maxLen at m0 m1 m2 m3
  by_cases h0 : n0 ≤ 4096
  · by_cases h1 : n1 ≤ 4096
    · by_cases h2 : n2 ≤ 4096
      · by_cases h3 : n3 ≤ 4096
        · by_cases e1 : n1 = n0
          · by_cases e2 : n2 = n0
            · exact heap_diff2 a0 a1 a2 a3 n0 n1 n2 n3 k0 k1 k2 k3 w h0 h1 h2 h3 (by simp; omega) (by simp; omega) (by simp; omega)
            · exact heap_diff1 a0 a1 a2 a3 n0 n1 n2 n3 k0 k1 k2 k3 w h0 h1 h2 h3 (by simp; omega) (by simp; omega)
          · exact heap_diff0 a0 a1 a2 a3 n0 n1 n2 n3 k0 k1 k2 k3 w h0 h1 h2 h3 (by simp; omega)
        · exact heap_idle3 a0 a1 a2 a3 n0 n1 n2 n3 k0 k1 k2 k3 w m0 m1 m2 m3 h0 h1 h2 (by omega)
      · exact heap_idle2 a0 a1 a2 a3 n0 n1 n2 n3 k0 k1 k2 k3 w m0 m1 m2 m3 h0 h1 (by omega)
    · exact heap_idle1 a0 a1 a2 a3 n0 n1 n2 n3 k0 k1 k2 k3 w m0 m1 m2 m3 h0 (by omega)
  · exact heap_idle0 a0 a1 a2 a3 n0 n1 n2 n3 k0 k1 k2 k3 w m0 m1 m2 m3 (by omega)
end Go.Proofs.Qxb6000020a
