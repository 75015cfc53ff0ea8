/-
  Plain mathematics of the varint: no Go in sight.
-/
import Derived.WalkKit
import Derived.Laws.BitsAllLaws
namespace Go.Proofs.Qxb6000020a

/-- the sum of the low seven bits of the first n digits, least first -/
def pv (f : Nat → Int) : Nat → Int
  | 0 => 0
  | n + 1 => pv f n + (f n % 128) * 2 ^ (7 * n)

theorem pv_nonneg (f : Nat → Int) (n : Nat) : 0 ≤ pv f n := by
  induction n with
  | zero => simp [pv]
  | succ n ih =>
    simp only [pv]
    have h1 : 0 ≤ f n % 128 := by omega
    have h2 : (0 : Int) ≤ 2 ^ (7 * n) := Int.pow_nonneg (by omega)
    have := Int.mul_nonneg h1 h2
    omega

theorem pow7 (n : Nat) : (2 : Int) ^ (7 * (n + 1)) = 128 * 2 ^ (7 * n) := by
  rw [show 7 * (n + 1) = 7 * n + 7 from by omega, Int.pow_add]; omega

theorem pv_lt (f : Nat → Int) (n : Nat) : pv f n < 2 ^ (7 * n) := by
  induction n with
  | zero => simp [pv]
  | succ n ih =>
    rw [pow7]
    simp only [pv]
    have h1 : f n % 128 ≤ 127 := by omega
    have h2 : (0 : Int) ≤ 2 ^ (7 * n) := Int.pow_nonneg (by omega)
    have := Int.mul_le_mul_of_nonneg_right h1 h2
    omega

theorem pv_congr {f g : Nat → Int} {n : Nat} (h : ∀ j, j < n → f j = g j) : pv f n = pv g n := by
  induction n with
  | zero => rfl
  | succ n ih => simp only [pv]; rw [ih (fun j hj => h j (by omega)), h n (by omega)]

theorem wrap64u (n : Int) : IntKind.u64.wrap n = n % 18446744073709551616 := IntKind.wrap_u64 n

theorem u64_or_nat' (a b : Nat) (ha : a < 18446744073709551616) (hb : b < 18446744073709551616) : bits .or .u64 (a : Int) (b : Int) = ((a ||| b : Nat) : Int) := u64_or_nat a b ha hb

theorem pow_pos2 (k : Nat) : 0 < (2 : Nat) ^ k := Nat.pow_pos (by omega)

/-- 'v |= uint64(c) << (7k)' while v has only the 7k low bits -/
theorem or_add (X c : Int) (k : Nat) (hk : k ≤ 9) (h0 : 0 ≤ X) (h1 : X < 2 ^ (7 * k)) (hc0 : 0 ≤ c) (hc1 : c < 128) :
    bits .or .u64 X (IntKind.u64.wrap (c * 2 ^ (7 * k))) = (X + c * 2 ^ (7 * k)) % 18446744073709551616 := by
  rw [wrap64u]
  obtain ⟨x, rfl⟩ := Int.eq_ofNat_of_zero_le h0
  obtain ⟨d, rfl⟩ := Int.eq_ofNat_of_zero_le hc0
  have hp : (2 : Int) ^ (7 * k) = ((2 ^ (7 * k) : Nat) : Int) := by simp
  rw [hp] at h1 ⊢
  have hx : x < 2 ^ (7 * k) := by omega
  have hd : d < 128 := by omega
  have hle : 2 ^ (7 * k) ≤ 2 ^ 63 := Nat.pow_le_pow_right (by omega) (by omega)
  have hx64 : x < 18446744073709551616 := by have : (2:Nat)^63 = 9223372036854775808 := by decide
                                             omega
  have e1 : ((d : Int) * ((2 ^ (7 * k) : Nat) : Int)) % 18446744073709551616 = ((d * 2 ^ (7 * k) % 2 ^ 64 : Nat) : Int) := by simp
  rw [e1, u64_or_nat' _ _ hx64 (by have : (2:Nat)^64 = 18446744073709551616 := by decide
                                   have := Nat.mod_lt (d * 2 ^ (7 * k)) (show 0 < 2 ^ 64 by decide)
                                   omega)]
  have e2 : d * 2 ^ (7 * k) % 2 ^ 64 = (d % 2 ^ (64 - 7 * k)) * 2 ^ (7 * k) := by
    have : (2 : Nat) ^ 64 = 2 ^ (64 - 7 * k) * 2 ^ (7 * k) := by rw [← Nat.pow_add]; congr 1; omega
    rw [this, Nat.mul_mod_mul_right]
  have e3 : x ||| (d % 2 ^ (64 - 7 * k)) * 2 ^ (7 * k) = (d % 2 ^ (64 - 7 * k)) * 2 ^ (7 * k) + x := by
    rw [Nat.or_comm, ← Nat.shiftLeft_eq, Nat.shiftLeft_add_eq_or_of_lt hx]
  rw [e2, e3, ← e2]
  have e4 : ((x : Int) + (d : Int) * ((2 ^ (7 * k) : Nat) : Int)) % 18446744073709551616 = (((x + d * 2 ^ (7 * k)) % 2 ^ 64 : Nat) : Int) := by simp
  rw [e4]
  congr 1
  have h64 : (2 : Nat) ^ 64 = 2 ^ (64 - 7 * k) * 2 ^ (7 * k) := by rw [← Nat.pow_add]; congr 1; omega
  have hlt : d * 2 ^ (7 * k) % 2 ^ 64 + x < 2 ^ 64 := by
    rw [e2]
    have h1 := Nat.mod_lt d (pow_pos2 (64 - 7 * k))
    have h2 : (d % 2 ^ (64 - 7 * k) + 1) * 2 ^ (7 * k) ≤ 2 ^ (64 - 7 * k) * 2 ^ (7 * k) := Nat.mul_le_mul_right _ h1
    rw [h64]
    rw [Nat.add_mul] at h2
    omega
  rw [← Nat.mod_eq_of_lt hlt, Nat.mod_add_mod, Nat.add_comm]

/-- one more digit, still below 2^64 -/
theorem or_step (f : Nat → Int) (k : Nat) (hk : k ≤ 8) : bits .or .u64 (pv f k) (IntKind.u64.wrap (f k % 128 * 2 ^ (7 * k))) = pv f (k + 1) := by
  rw [or_add _ _ k (by omega) (pv_nonneg f k) (pv_lt f k) (by omega) (by omega)]
  show pv f (k + 1) % _ = _
  have h0 := pv_nonneg f (k + 1)
  have h1 := pv_lt f (k + 1)
  have h2 : (2 : Int) ^ (7 * (k + 1)) ≤ 2 ^ 63 := by
    have : (2 : Nat) ^ (7 * (k + 1)) ≤ 2 ^ 63 := Nat.pow_le_pow_right (by omega) (by omega)
    exact_mod_cast this
  have h3 : (2 : Int) ^ 63 = 9223372036854775808 := by decide
  omega
theorem or_last (f : Nat → Int) (k : Nat) (hk : k ≤ 9) : bits .or .u64 (pv f k) (IntKind.u64.wrap (f k % 128 * 2 ^ (7 * k))) = pv f (k + 1) % 18446744073709551616 := by
  rw [or_add _ _ k (by omega) (pv_nonneg f k) (pv_lt f k) (by omega) (by omega)]; rfl
theorem mask127 {c : Int} (h₀ : 0 ≤ c) (h₁ : c ≤ 255) : bits .and .u8 c 127 = c % 128 := bits_mask .u8 8 (by decide) wraps_u8 7 (by decide) c h₀ (by omega)
end Go.Proofs.Qxb6000020a
