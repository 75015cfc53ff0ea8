/-
  The walks of FnLongUvarintAtMatchesModel (3) and FnUvarintAtAgreesWithLongUvarintAt (5).
-/
import Derived.Test.Qxb6000020aUv
import Derived.Test.Qxb6000020aClone
import Derived.Test.Qxb6000020aReadsBack
namespace Go.Proofs.Qxb6000020a
open Go.ChangeShapes Go.WideShapes Go.ChangeAt Go.RowKit

theorem law3_idle (a0 : Option Addr) (len0 cap0 : Nat) (i : Int) (w : World) (hm0 : len0 ≤ maxLen) (h : 1048576 < len0 ∨ (len0 ≤ 1048576 ∧ i < 0)) :
    Calls Try.prog 3 #[.slice a0 len0 cap0, .int .i64 i] w fun e w' => e = .returned (.bool true) ∧ w' = w := by
  unfold maxLen at hm0
  rcases h with h | ⟨h, h'⟩
  · go_enter Try.func3, Try.ntmps3
    go_wp2
    all_goals (go_ret; exact ⟨rfl, rfl⟩)
  · go_enter Try.func3, Try.ntmps3
    go_wp2
    all_goals (go_ret; exact ⟨rfl, rfl⟩)
theorem law5_idle (a0 : Option Addr) (len0 cap0 : Nat) (i : Int) (w : World) (hm0 : len0 ≤ maxLen) (h : 1048576 < len0 ∨ (len0 ≤ 1048576 ∧ i < 0)) :
    Calls Try.prog 5 #[.slice a0 len0 cap0, .int .i64 i] w fun e w' => e = .returned (.bool true) ∧ w' = w := by
  unfold maxLen at hm0
  rcases h with h | ⟨h, h'⟩
  · go_enter Try.func5, Try.ntmps5
    go_wp2
    all_goals (go_ret; exact ⟨rfl, rfl⟩)
  · go_enter Try.func5, Try.ntmps5
    go_wp2
    all_goals (go_ret; exact ⟨rfl, rfl⟩)

theorem law3_nil (i : Nat) (hi : i ≤ 9223372036854775807) (w : World) : Calls Try.prog 3 #[.slice none 0 0, .int .i64 i] w fun e w' => e = .returned (.bool true) ∧ w' = w := by
  go_enter Try.func3, Try.ntmps3
  go_wp2_with (first
    | (go_at_call 10; go_in)
    | (go_at_call 11; refine (clone8_nil _).mono ?_; rintro e w' ⟨rfl, rfl⟩)
    | (go_at_call 12; refine (zzlong_empty none 0 i _).mono ?_; rintro e w' ⟨rfl, rfl⟩)
    | (go_at_call 13; refine (model_empty none 0 i _ hi).mono ?_; rintro e w' ⟨rfl, rfl⟩))
  go_ret
  exact ⟨rfl, rfl⟩
theorem law5_nil (i : Nat) (w : World) : Calls Try.prog 5 #[.slice none 0 0, .int .i64 i] w fun e w' => e = .returned (.bool true) ∧ w' = w := by
  go_enter Try.func5, Try.ntmps5
  go_wp2_with (first
    | (go_at_call 16; go_in)
    | (go_at_call 11; refine (clone8_nil _).mono ?_; rintro e w' ⟨rfl, rfl⟩)
    | (go_at_call 12; refine (zzlong_empty none 0 i _).mono ?_; rintro e w' ⟨rfl, rfl⟩)
    | (go_at_call 17; refine (zzuv_empty none 0 i _).mono ?_; rintro e w' ⟨rfl, rfl⟩))
  go_ret
  exact ⟨rfl, rfl⟩

theorem law3_main (x : Addr) (len cap : Nat) (zs : List Int) (i : Nat) (w : World) (s0 : Seen .u8 w (some x) len zs) (l0 : len ≤ zs.length) (r0 : Rng zs) (hl : len ≤ 1048576) (hi : i ≤ 9223372036854775807) :
    Calls Try.prog 3 #[.slice (some x) len cap, .int .i64 i] w fun e w' => e = .returned (.bool true) ∧ Below w.heap.size w w' := by
  obtain ⟨v, t, hrd⟩ := rd_ex len (zs.take len) i
  have hrg : Rng (zs.take len) := rng_take r0 len
  have C := clone8 x len cap zs w s0 l0 hl
  clear s0
  go_enter Try.func3, Try.ntmps3
  go_wp2_with (first
    | (go_at_call 10; go_in)
    | (go_at_call 11; refine C.mono ?_; rintro e w1 ⟨rfl, ho, hb, hsz⟩; have A := zzlong_any _ 0 len len i _ v t w1 (by omega) (own_cells ho) hrg hrd; have M := model_any _ 0 len len i _ v t w1 (by omega) hi (own_cells ho) hrg hrd; clear ho)
    | (go_at_call 12; refine A.mono ?_; rintro e w' ⟨rfl, rfl⟩)
    | (go_at_call 13; refine M.mono ?_; rintro e w' ⟨rfl, rfl⟩))
  go_ret
  exact ⟨by simp, hb⟩
theorem law5_main (x : Addr) (len cap : Nat) (zs : List Int) (i : Nat) (w : World) (s0 : Seen .u8 w (some x) len zs) (l0 : len ≤ zs.length) (r0 : Rng zs) (hl : len ≤ 1048576) :
    Calls Try.prog 5 #[.slice (some x) len cap, .int .i64 i] w fun e w' => e = .returned (.bool true) ∧ Below w.heap.size w w' := by
  obtain ⟨v, t, hrd⟩ := rd_ex len (zs.take len) i
  have hrg : Rng (zs.take len) := rng_take r0 len
  have C := clone8 x len cap zs w s0 l0 hl
  clear s0
  go_enter Try.func5, Try.ntmps5
  go_wp2_with (first
    | (go_at_call 16; go_in)
    | (go_at_call 11; refine C.mono ?_; rintro e w1 ⟨rfl, ho, hb, hsz⟩; have A := zzlong_any _ 0 len len i _ v t w1 (by omega) (own_cells ho) hrg hrd; have M := zzuv_any _ 0 len len i _ v t w1 (by omega) (own_cells ho) hrg hrd; clear ho)
    | (go_at_call 12; refine A.mono ?_; rintro e w' ⟨rfl, rfl⟩)
    | (go_at_call 17; refine M.mono ?_; rintro e w' ⟨rfl, rfl⟩))
  go_ret
  exact ⟨by simp, hb⟩
end Go.Proofs.Qxb6000020a
