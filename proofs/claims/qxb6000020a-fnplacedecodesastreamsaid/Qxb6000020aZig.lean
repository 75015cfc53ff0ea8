/-
  The walks of zzHB1Zig (37) and unzigzag (40); and that the one undoes the other.
-/
import Derived.Test.Qxb6000020aCommon
import Derived.Lib.Zigzag
namespace Go.Proofs.Qxb6000020a
open Go.ChangeShapes Go.WideShapes Go.ChangeAt Go.RowKit

def zig (v : Int) : Int := if 0 ≤ v then 2 * v else -2 * v - 1
theorem zig_bd (v : Int) (h0 : -9223372036854775808 ≤ v) (h1 : v ≤ 9223372036854775807) : 0 ≤ zig v ∧ zig v < 18446744073709551616 := by unfold zig; split <;> omega

theorem xor_zero_u64 (a : Nat) (ha : a < 18446744073709551616) : bits .xor .u64 (a : Int) 0 = (a : Int) := by
  have := bits_xor_u64_nat a 0 ha (by omega)
  simpa using this

theorem zig_form (v : Int) (h0 : -9223372036854775808 ≤ v) (h1 : v ≤ 9223372036854775807) :
    bits .xor .u64 (IntKind.u64.wrap (wrap64 (v * 2))) (IntKind.u64.wrap (v / 9223372036854775808)) = zig v := by
  have e1 : IntKind.u64.wrap (wrap64 (v * 2)) = (v * 2) % 18446744073709551616 := by
    rw [IntKind.wrap_u64]; unfold wrap64; omega
  rw [e1, IntKind.wrap_u64]
  by_cases hv : 0 ≤ v
  · rw [show v / 9223372036854775808 = 0 from by omega]
    obtain ⟨a, ha⟩ : ∃ a : Nat, (v * 2) % 18446744073709551616 = (a : Int) := ⟨((v * 2) % 18446744073709551616).toNat, by omega⟩
    rw [ha, show (0 : Int) % 18446744073709551616 = 0 from rfl, xor_zero_u64 a (by omega), ← ha]
    unfold zig
    rw [if_pos hv]
    omega
  · rw [show v / 9223372036854775808 = -1 from by omega]
    obtain ⟨a, ha⟩ : ∃ a : Nat, (v * 2) % 18446744073709551616 = (a : Int) := ⟨((v * 2) % 18446744073709551616).toNat, by omega⟩
    rw [ha, show (-1 : Int) % 18446744073709551616 = ((2 ^ 64 - 1 : Nat) : Int) from by decide, bits_xor_u64_nat _ _ (by omega) (by decide), Nat.xor_comm, Lib.xor_ones64 _ (by omega)]
    unfold zig
    rw [if_neg hv]
    omega

theorem zig_any (v : Int) (w : World) (h0 : -9223372036854775808 ≤ v) (h1 : v ≤ 9223372036854775807) : Calls Try.prog 37 #[.int .i64 v] w fun e w' => e = .returned (.int .u64 (zig v)) ∧ w' = w := by
  have HZ : Hid (bits .xor .u64 (IntKind.u64.wrap (wrap64 (v * 2))) (IntKind.u64.wrap (v / 9223372036854775808)) = zig v) := zig_form v h0 h1
  go_enter Try.func37, Try.ntmps37
  go_wp2
  go_ret
  refine ⟨?_, rfl⟩
  rw [← HZ.out]
  simp

def unzig (u : Int) : Int := if u % 2 = 0 then u / 2 else -(u / 2) - 1
theorem unzig_zig (v : Int) : unzig (zig v) = v := by unfold unzig zig; split <;> split <;> omega
theorem xor_zero_i64 (x : Nat) (hx : x < 9223372036854775808) : bits .xor .i64 (x : Int) 0 = (x : Int) := by
  show IntKind.i64.wrap ((BitVec.ofInt 64 (x : Int) ^^^ BitVec.ofInt 64 0).toNat : Int) = _
  have h2 : (BitVec.ofInt 64 (x : Int)).toNat = x := by
    rw [BitVec.ofInt_natCast, BitVec.toNat_ofNat]; exact Nat.mod_eq_of_lt (by omega)
  have h3 : (BitVec.ofInt 64 0).toNat = 0 := by decide
  rw [BitVec.toNat_xor, h2, h3, Nat.xor_zero, IntKind.wrap_i64]
  omega
theorem xor_ones_i64 (x : Nat) (hx : x < 9223372036854775808) : bits .xor .i64 (x : Int) (-1) = -(x : Int) - 1 := by
  rw [← Lib.i64_not x hx]
  show IntKind.i64.wrap ((BitVec.ofInt 64 (x : Int) ^^^ BitVec.ofInt 64 (-1)).toNat : Int) = IntKind.i64.wrap ((BitVec.ofInt 64 (-1) ^^^ BitVec.ofInt 64 (x : Int)).toNat : Int)
  rw [BitVec.xor_comm]

theorem unzig_form (v : Int) (h0 : 0 ≤ v) (h1 : v < 18446744073709551616) : bits .xor .i64 (v / 2) (wrap64 (-wrap64 (bits .and .u64 v 1))) = unzig v := by
  rw [Lib.u64_and1 v h0 h1]
  obtain ⟨x, hx⟩ : ∃ x : Nat, v / 2 = (x : Int) := ⟨(v / 2).toNat, by omega⟩
  rw [hx]
  by_cases hv : v % 2 = 0
  · rw [hv, show wrap64 (-wrap64 0) = 0 from by unfold wrap64; omega, xor_zero_i64 x (by omega)]
    unfold unzig
    rw [if_pos hv, hx]
  · rw [show v % 2 = 1 from by omega, show wrap64 (-wrap64 1) = -1 from by unfold wrap64; omega, xor_ones_i64 x (by omega)]
    unfold unzig
    rw [if_neg hv, hx]

theorem unzig_any (v : Int) (w : World) (h0 : 0 ≤ v) (h1 : v < 18446744073709551616) : Calls Try.prog 40 #[.int .u64 v] w fun e w' => e = .returned (.int .i64 (unzig v)) ∧ w' = w := by
  have HZ : Hid (bits .xor .i64 (v / 2) (wrap64 (-wrap64 (bits .and .u64 v 1))) = unzig v) := unzig_form v h0 h1
  go_enter Try.func40, Try.ntmps40
  go_wp2
  go_ret
  refine ⟨?_, rfl⟩
  rw [← HZ.out]
  simp
end Go.Proofs.Qxb6000020a
