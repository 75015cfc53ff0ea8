/-
  The walk of ZZHB1CodecPlace (30), place (38) entered in place: the cases of the flags, part 4.
-/
import Derived.Test.Qxb6000020aReads
namespace Go.Proofs.Qxb6000020a
open Go.ChangeShapes Go.WideShapes Go.ChangeAt Go.RowKit
set_option linter.unusedVariables false

set_option maxRecDepth 100000 in
set_option maxHeartbeats 4000000 in
theorem codec_fftt (sec line series secStep step : Int) (b off len cap : Nat) (fl x0 x1 x2 : Int) (q : Nat → Nat) (w : World)
    (hbw : b < w.heap.size) (hlen : 0 < len) (hlm : len ≤ 9223372036854775000)
    (hc0 : w.cell? ⟨b, off, none⟩ = some (.int .u8 fl))
    (R0 : Reads w b off len cap 1 x0 (q 1)) (R1 : Reads w b off len cap (q 1) x1 (q 2)) (R2 : Reads w b off len cap (q 2) x2 (q 3)) (hq : q 3 ≤ len) 
    (H1 : (bits .and .u8 fl 64 == 0) = false) (H2 : (bits .and .u8 fl 128 == 0) = false) (H3 : (bits .and .u8 fl 8 == 0) = true) (H4 : (bits .and .u8 fl 4 != 0) = true) :
    Calls Try.prog 30 #[.int .i64 sec, .int .i64 line, .int .i64 series, .int .i64 secStep, .int .i64 step, .slice (some ⟨b, off, none⟩) len cap] w fun e w' =>
      e = .returned (.agg #[.int .i64 ((q 3 : Nat) : Int), .int .i64 (series), .int .i64 (wrap64 (line + step)), .int .i64 (wrap64 (sec + secStep)), .int .i32 (wrap32 x0), .int .i64 (wrap64 (wrap64 (sec + secStep) - wrap64 x1)), .int .i32 (wrap32 x2), .int .u8 fl, .int .i64 (wrap64 (sec + secStep)), .int .i64 (wrap64 (line + step)), .int .i64 (series), .int .i64 (secStep), .int .i64 (step)]) ∧ Below w.heap.size w w' := by
  have hl0 : ((len : Int) == 0) = false := by simp; omega
  have hl1 : (0 : Int) < (len : Int) := by omega
  have hb1 : b < w.heap.size + 1 := by omega
  have hb2 : b < w.heap.size + 1 + 1 := by omega
  go_enter Try.func30, Try.ntmps30
  go_wp2_with (first
    | (go_at_call 38; go_in)
    | (go_at_call 40; refine (unzig_any _ _ (by omega) (by omega)).mono ?_; rintro e w' ⟨rfl, rfl⟩)
    | (go_at_call_of 33 (Value.int IntKind.i64 1); refine (R0 _ (by repeat (first | exact Below.refl _ _ | refine Below.drew ?_ | refine Below.alloc ?_ (by simp <;> omega) _ | refine Below.setCell ?_ (by simp <;> omega) _))).mono ?_; rintro e w' ⟨rfl, rfl⟩)
    | (go_at_call_of 33 (Value.int IntKind.i64 ((q 1 : Nat) : Int)); refine (R1 _ (by repeat (first | exact Below.refl _ _ | refine Below.drew ?_ | refine Below.alloc ?_ (by simp <;> omega) _ | refine Below.setCell ?_ (by simp <;> omega) _))).mono ?_; rintro e w' ⟨rfl, rfl⟩)
    | (go_at_call_of 33 (Value.int IntKind.i64 ((q 2 : Nat) : Int)); refine (R2 _ (by repeat (first | exact Below.refl _ _ | refine Below.drew ?_ | refine Below.alloc ?_ (by simp <;> omega) _ | refine Below.setCell ?_ (by simp <;> omega) _))).mono ?_; rintro e w' ⟨rfl, rfl⟩))
  go_region
  go_wp2_with fail
  go_region
  go_wp2_with (first
    | (go_at_call 38; go_in)
    | (go_at_call 40; refine (unzig_any _ _ (by omega) (by omega)).mono ?_; rintro e w' ⟨rfl, rfl⟩)
    | (go_at_call_of 33 (Value.int IntKind.i64 1); refine (R0 _ (by repeat (first | exact Below.refl _ _ | refine Below.drew ?_ | refine Below.alloc ?_ (by simp <;> omega) _ | refine Below.setCell ?_ (by simp <;> omega) _))).mono ?_; rintro e w' ⟨rfl, rfl⟩)
    | (go_at_call_of 33 (Value.int IntKind.i64 ((q 1 : Nat) : Int)); refine (R1 _ (by repeat (first | exact Below.refl _ _ | refine Below.drew ?_ | refine Below.alloc ?_ (by simp <;> omega) _ | refine Below.setCell ?_ (by simp <;> omega) _))).mono ?_; rintro e w' ⟨rfl, rfl⟩)
    | (go_at_call_of 33 (Value.int IntKind.i64 ((q 2 : Nat) : Int)); refine (R2 _ (by repeat (first | exact Below.refl _ _ | refine Below.drew ?_ | refine Below.alloc ?_ (by simp <;> omega) _ | refine Below.setCell ?_ (by simp <;> omega) _))).mono ?_; rintro e w' ⟨rfl, rfl⟩))
  go_region
  go_wp2
  refine bodyPost_ret (v := .agg #[.int .i64 ((q 3 : Nat) : Int), .int .i64 (series), .int .i64 (wrap64 (line + step)), .int .i64 (wrap64 (sec + secStep)), .int .i32 (wrap32 x0), .int .i64 (wrap64 (wrap64 (sec + secStep) - wrap64 x1)), .int .i32 (wrap32 x2), .int .u8 fl, .int .i64 (wrap64 (sec + secStep)), .int .i64 (wrap64 (line + step)), .int .i64 (series), .int .i64 (secStep), .int .i64 (step)]) (by simp [results, Try.results30, go_sem]) rfl ⟨rfl, ?_⟩
  exact (by repeat (first | exact Below.refl _ _ | refine Below.drew ?_ | refine Below.alloc ?_ (by simp <;> omega) _ | refine Below.setCell ?_ (by simp <;> omega) _))

set_option maxRecDepth 100000 in
set_option maxHeartbeats 4000000 in
theorem codec_fftf (sec line series secStep step : Int) (b off len cap : Nat) (fl x0 : Int) (q : Nat → Nat) (w : World)
    (hbw : b < w.heap.size) (hlen : 0 < len) (hlm : len ≤ 9223372036854775000)
    (hc0 : w.cell? ⟨b, off, none⟩ = some (.int .u8 fl))
    (R0 : Reads w b off len cap 1 x0 (q 1)) (hq : q 1 ≤ len) 
    (H1 : (bits .and .u8 fl 64 == 0) = false) (H2 : (bits .and .u8 fl 128 == 0) = false) (H3 : (bits .and .u8 fl 8 == 0) = true) (H4 : (bits .and .u8 fl 4 != 0) = false) :
    Calls Try.prog 30 #[.int .i64 sec, .int .i64 line, .int .i64 series, .int .i64 secStep, .int .i64 step, .slice (some ⟨b, off, none⟩) len cap] w fun e w' =>
      e = .returned (.agg #[.int .i64 ((q 1 : Nat) : Int), .int .i64 (series), .int .i64 (wrap64 (line + step)), .int .i64 (wrap64 (sec + secStep)), .int .i32 (wrap32 x0), .int .i64 (wrap64 (sec + secStep)), .int .i32 (wrap32 x0), .int .u8 fl, .int .i64 (wrap64 (sec + secStep)), .int .i64 (wrap64 (line + step)), .int .i64 (series), .int .i64 (secStep), .int .i64 (step)]) ∧ Below w.heap.size w w' := by
  have hl0 : ((len : Int) == 0) = false := by simp; omega
  have hl1 : (0 : Int) < (len : Int) := by omega
  have hb1 : b < w.heap.size + 1 := by omega
  have hb2 : b < w.heap.size + 1 + 1 := by omega
  go_enter Try.func30, Try.ntmps30
  go_wp2_with (first
    | (go_at_call 38; go_in)
    | (go_at_call 40; refine (unzig_any _ _ (by omega) (by omega)).mono ?_; rintro e w' ⟨rfl, rfl⟩)
    | (go_at_call_of 33 (Value.int IntKind.i64 1); refine (R0 _ (by repeat (first | exact Below.refl _ _ | refine Below.drew ?_ | refine Below.alloc ?_ (by simp <;> omega) _ | refine Below.setCell ?_ (by simp <;> omega) _))).mono ?_; rintro e w' ⟨rfl, rfl⟩))
  go_region
  go_wp2_with fail
  go_region
  go_wp2_with (first
    | (go_at_call 38; go_in)
    | (go_at_call 40; refine (unzig_any _ _ (by omega) (by omega)).mono ?_; rintro e w' ⟨rfl, rfl⟩)
    | (go_at_call_of 33 (Value.int IntKind.i64 1); refine (R0 _ (by repeat (first | exact Below.refl _ _ | refine Below.drew ?_ | refine Below.alloc ?_ (by simp <;> omega) _ | refine Below.setCell ?_ (by simp <;> omega) _))).mono ?_; rintro e w' ⟨rfl, rfl⟩))
  go_region
  go_wp2
  refine bodyPost_ret (v := .agg #[.int .i64 ((q 1 : Nat) : Int), .int .i64 (series), .int .i64 (wrap64 (line + step)), .int .i64 (wrap64 (sec + secStep)), .int .i32 (wrap32 x0), .int .i64 (wrap64 (sec + secStep)), .int .i32 (wrap32 x0), .int .u8 fl, .int .i64 (wrap64 (sec + secStep)), .int .i64 (wrap64 (line + step)), .int .i64 (series), .int .i64 (secStep), .int .i64 (step)]) (by simp [results, Try.results30, go_sem]) rfl ⟨rfl, ?_⟩
  exact (by repeat (first | exact Below.refl _ _ | refine Below.drew ?_ | refine Below.alloc ?_ (by simp <;> omega) _ | refine Below.setCell ?_ (by simp <;> omega) _))

set_option maxRecDepth 100000 in
set_option maxHeartbeats 4000000 in
theorem codec_ffft (sec line series secStep step : Int) (b off len cap : Nat) (fl x0 : Int) (q : Nat → Nat) (w : World)
    (hbw : b < w.heap.size) (hlen : 0 < len) (hlm : len ≤ 9223372036854775000)
    (hc0 : w.cell? ⟨b, off, none⟩ = some (.int .u8 fl))
    (R0 : Reads w b off len cap 1 x0 (q 1)) (hq : q 1 ≤ len) 
    (H1 : (bits .and .u8 fl 64 == 0) = false) (H2 : (bits .and .u8 fl 128 == 0) = false) (H3 : (bits .and .u8 fl 8 == 0) = false) (H4 : (bits .and .u8 fl 4 != 0) = true) :
    Calls Try.prog 30 #[.int .i64 sec, .int .i64 line, .int .i64 series, .int .i64 secStep, .int .i64 step, .slice (some ⟨b, off, none⟩) len cap] w fun e w' =>
      e = .returned (.agg #[.int .i64 ((q 1 : Nat) : Int), .int .i64 (series), .int .i64 (wrap64 (line + step)), .int .i64 (wrap64 (sec + secStep)), .int .i32 (0), .int .i64 (wrap64 (wrap64 (sec + secStep) - wrap64 x0)), .int .i32 (0), .int .u8 fl, .int .i64 (wrap64 (sec + secStep)), .int .i64 (wrap64 (line + step)), .int .i64 (series), .int .i64 (secStep), .int .i64 (step)]) ∧ Below w.heap.size w w' := by
  have hl0 : ((len : Int) == 0) = false := by simp; omega
  have hl1 : (0 : Int) < (len : Int) := by omega
  have hb1 : b < w.heap.size + 1 := by omega
  have hb2 : b < w.heap.size + 1 + 1 := by omega
  go_enter Try.func30, Try.ntmps30
  go_wp2_with (first
    | (go_at_call 38; go_in)
    | (go_at_call 40; refine (unzig_any _ _ (by omega) (by omega)).mono ?_; rintro e w' ⟨rfl, rfl⟩)
    | (go_at_call_of 33 (Value.int IntKind.i64 1); refine (R0 _ (by repeat (first | exact Below.refl _ _ | refine Below.drew ?_ | refine Below.alloc ?_ (by simp <;> omega) _ | refine Below.setCell ?_ (by simp <;> omega) _))).mono ?_; rintro e w' ⟨rfl, rfl⟩))
  go_region
  go_wp2_with fail
  go_region
  go_wp2_with (first
    | (go_at_call 38; go_in)
    | (go_at_call 40; refine (unzig_any _ _ (by omega) (by omega)).mono ?_; rintro e w' ⟨rfl, rfl⟩)
    | (go_at_call_of 33 (Value.int IntKind.i64 1); refine (R0 _ (by repeat (first | exact Below.refl _ _ | refine Below.drew ?_ | refine Below.alloc ?_ (by simp <;> omega) _ | refine Below.setCell ?_ (by simp <;> omega) _))).mono ?_; rintro e w' ⟨rfl, rfl⟩))
  go_region
  go_wp2
  refine bodyPost_ret (v := .agg #[.int .i64 ((q 1 : Nat) : Int), .int .i64 (series), .int .i64 (wrap64 (line + step)), .int .i64 (wrap64 (sec + secStep)), .int .i32 (0), .int .i64 (wrap64 (wrap64 (sec + secStep) - wrap64 x0)), .int .i32 (0), .int .u8 fl, .int .i64 (wrap64 (sec + secStep)), .int .i64 (wrap64 (line + step)), .int .i64 (series), .int .i64 (secStep), .int .i64 (step)]) (by simp [results, Try.results30, go_sem]) rfl ⟨rfl, ?_⟩
  exact (by repeat (first | exact Below.refl _ _ | refine Below.drew ?_ | refine Below.alloc ?_ (by simp <;> omega) _ | refine Below.setCell ?_ (by simp <;> omega) _))

set_option maxRecDepth 100000 in
set_option maxHeartbeats 4000000 in
theorem codec_ffff (sec line series secStep step : Int) (b off len cap : Nat) (fl  : Int) (q : Nat → Nat) (w : World)
    (hbw : b < w.heap.size) (hlen : 0 < len) (hlm : len ≤ 9223372036854775000)
    (hc0 : w.cell? ⟨b, off, none⟩ = some (.int .u8 fl))
      
    (H1 : (bits .and .u8 fl 64 == 0) = false) (H2 : (bits .and .u8 fl 128 == 0) = false) (H3 : (bits .and .u8 fl 8 == 0) = false) (H4 : (bits .and .u8 fl 4 != 0) = false) :
    Calls Try.prog 30 #[.int .i64 sec, .int .i64 line, .int .i64 series, .int .i64 secStep, .int .i64 step, .slice (some ⟨b, off, none⟩) len cap] w fun e w' =>
      e = .returned (.agg #[.int .i64 1, .int .i64 (series), .int .i64 (wrap64 (line + step)), .int .i64 (wrap64 (sec + secStep)), .int .i32 (0), .int .i64 (wrap64 (sec + secStep)), .int .i32 (0), .int .u8 fl, .int .i64 (wrap64 (sec + secStep)), .int .i64 (wrap64 (line + step)), .int .i64 (series), .int .i64 (secStep), .int .i64 (step)]) ∧ Below w.heap.size w w' := by
  have hl0 : ((len : Int) == 0) = false := by simp; omega
  have hl1 : (0 : Int) < (len : Int) := by omega
  have hb1 : b < w.heap.size + 1 := by omega
  have hb2 : b < w.heap.size + 1 + 1 := by omega
  go_enter Try.func30, Try.ntmps30
  go_wp2_with (first
    | (go_at_call 38; go_in)
    | (go_at_call 40; refine (unzig_any _ _ (by omega) (by omega)).mono ?_; rintro e w' ⟨rfl, rfl⟩))
  go_region
  go_wp2_with fail
  go_region
  go_wp2_with (first
    | (go_at_call 38; go_in)
    | (go_at_call 40; refine (unzig_any _ _ (by omega) (by omega)).mono ?_; rintro e w' ⟨rfl, rfl⟩))
  go_region
  go_wp2
  refine bodyPost_ret (v := .agg #[.int .i64 1, .int .i64 (series), .int .i64 (wrap64 (line + step)), .int .i64 (wrap64 (sec + secStep)), .int .i32 (0), .int .i64 (wrap64 (sec + secStep)), .int .i32 (0), .int .u8 fl, .int .i64 (wrap64 (sec + secStep)), .int .i64 (wrap64 (line + step)), .int .i64 (series), .int .i64 (secStep), .int .i64 (step)]) (by simp [results, Try.results30, go_sem]) rfl ⟨rfl, ?_⟩
  exact (by repeat (first | exact Below.refl _ _ | refine Below.drew ?_ | refine Below.alloc ?_ (by simp <;> omega) _ | refine Below.setCell ?_ (by simp <;> omega) _))

end Go.Proofs.Qxb6000020a
