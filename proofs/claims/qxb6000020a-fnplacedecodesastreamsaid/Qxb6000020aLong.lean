/-
  The walks of longUvarintAt (32).
-/
import Derived.Test.Qxb6000020aProg
import Derived.Test.Qxb6000020aPlain
import Derived.WalkKit
import Derived.Below
namespace Go.Proofs.Qxb6000020a
open Go.RowKit

def dig (zs : List Int) (i : Nat) (j : Nat) : Int := zs[i + j]?.getD 0

set_option maxHeartbeats 1000000 in
theorem long_hit (b off len cap i n : Nat) (zs : List Int) (w : World) (hmax : len ≤ 9223372036854775000)
    (hc : ∀ j, j < len → w.cell? ⟨b, off + j, none⟩ = some (.int .u8 (zs.getD j 0)))
    (hr : ∀ j : Nat, 0 ≤ zs[j]?.getD 0 ∧ zs[j]?.getD 0 ≤ 255)
    (hn : n ≤ 9) (hi : i + n < len) (hbig : ∀ j, j < n → 128 ≤ dig zs i j) (hsm : dig zs i n < 128) :
    Calls Try.prog 32 #[.slice (some ⟨b, off, none⟩) len cap, .int .i64 i] w fun e w' =>
      e = .returned (.tuple #[.int .u64 (pv (dig zs i) (n + 1) % 18446744073709551616), .int .i64 (i + n + 1 : Nat)]) ∧ w' = w := by
  go_enter Try.func32, Try.ntmps32
  go_wp2
  go_loop [1, 6, 7] (fun t v s => ∃ k m : Nat, Hid (m = i + k) ∧ k ≤ n ∧ t = .int .i64 m ∧ s = .int .u64 (7 * k : Nat) ∧ v = .int .u64 (pv (dig zs i) k)) (fun t _ _ => len - (intOf t).toNat)
  case atStart => exact ⟨0, i, rfl, by omega, rfl, rfl, rfl⟩
  case round =>
    obtain ⟨k, m, hm, hk, rfl, rfl, rfl⟩ := hrel
    have hml : m < len := by have := hm.out; omega
    have hcell : w.cell? ⟨b, off + m, none⟩ = some (.int .u8 (zs.getD m 0)) := hc m hml
    have hrk := hr m
    have hmask := mask127 hrk.1 hrk.2
    have HB : Hid (k < n → 128 ≤ zs[m]?.getD 0) := by intro h; have := hbig k h; unfold dig at this; rw [hm.out]; exact this
    have HS : Hid (k = n → zs[m]?.getD 0 < 128) := by intro h; subst h; unfold dig at hsm; rw [hm.out]; exact hsm
    have HV : Hid (k ≤ 8 → bits .or .u64 (pv (dig zs i) k) (IntKind.u64.wrap (zs[m]?.getD 0 % 128 * 2 ^ (7 * k))) = pv (dig zs i) (k + 1)) := by
      intro h; have := or_step (dig zs i) k h; unfold dig at this ⊢; rw [hm.out]; exact this
    have HL : Hid (bits .or .u64 (pv (dig zs i) k) (IntKind.u64.wrap (zs[m]?.getD 0 % 128 * 2 ^ (7 * k))) = pv (dig zs i) (k + 1) % 18446744073709551616) := by
      have := or_last (dig zs i) k (by omega); unfold dig at this ⊢; rw [hm.out]; exact this
    clear hc hr hbig hsm
    by_cases hkn : k < n
    · have hge := HB.out hkn
      go_wp2
      go_round
      case rel => exact ⟨k + 1, m + 1, (by have := hm.out; show m + 1 = i + (k + 1); omega), by omega, by go_num, by go_num, by rw [← HV.out (by omega)]⟩
      case measure => simp [intOf]; omega
    · have hge := HS.out (by omega)
      obtain rfl : k = n := by omega
      go_wp2
      go_ret2
      refine ⟨?_, rfl⟩
      rw [← HL.out, hm.out]
      simp

set_option maxHeartbeats 1000000 in
theorem long_miss (b off len cap i : Nat) (zs : List Int) (w : World) (hmax : len ≤ 9223372036854775000)
    (hc : ∀ j, j < len → w.cell? ⟨b, off + j, none⟩ = some (.int .u8 (zs.getD j 0)))
    (hr : ∀ j : Nat, 0 ≤ zs[j]?.getD 0 ∧ zs[j]?.getD 0 ≤ 255)
    (hbig : ∀ j, j < 10 → i + j < len → 128 ≤ dig zs i j) :
    Calls Try.prog 32 #[.slice (some ⟨b, off, none⟩) len cap, .int .i64 i] w fun e w' =>
      e = .returned (.tuple #[.int .u64 0, .int .i64 (len + 1 : Nat)]) ∧ w' = w := by
  go_enter Try.func32, Try.ntmps32
  go_wp2
  go_loop [1, 6, 7] (fun t v s => ∃ (k m : Nat) (X : Int), Hid (m = i + k) ∧ k ≤ 10 ∧ t = .int .i64 m ∧ s = .int .u64 (7 * k : Nat) ∧ v = .int .u64 X) (fun _ _ s => 70 - (intOf s).toNat)
  case atStart => exact ⟨0, i, 0, rfl, by omega, rfl, rfl, rfl⟩
  case round =>
    obtain ⟨k, m, X, hm, hk, rfl, rfl, rfl⟩ := hrel
    by_cases hgo : k < 10 ∧ m < len
    · obtain ⟨hk10, hml⟩ := hgo
      have hcell : w.cell? ⟨b, off + m, none⟩ = some (.int .u8 (zs.getD m 0)) := hc m hml
      have hrk := hr m
      have hmask := mask127 hrk.1 hrk.2
      have hge : 128 ≤ zs[m]?.getD 0 := by have := hbig k hk10 (by rw [← hm.out]; exact hml); unfold dig at this; rw [hm.out]; exact this
      clear hc hr hbig
      go_wp2
      go_round
      case rel => exact ⟨k + 1, m + 1, _, (by have := hm.out; show m + 1 = i + (k + 1); omega), by omega, by go_num, by go_num, rfl⟩
      case measure => simp [intOf]; omega
    · clear hc hr hbig
      by_cases hk10 : k < 10
      · have hml : ¬ m < len := fun h => hgo ⟨hk10, h⟩
        go_wp2
        go_ret2
        exact ⟨rfl, rfl⟩
      · obtain rfl : k = 10 := by omega
        go_wp2
        go_ret2
        exact ⟨rfl, rfl⟩

/-- nothing is read of an empty slice, wherever it lies -/
theorem long_empty (a : Option Addr) (cap i : Nat) (w : World) :
    Calls Try.prog 32 #[.slice a 0 cap, .int .i64 i] w fun e w' =>
      e = .returned (.tuple #[.int .u64 0, .int .i64 1]) ∧ w' = w := by
  go_enter Try.func32, Try.ntmps32
  go_wp2
  refine wp_loop_rounds 1 ?_
  rw [rounds_succ]
  go_wp2
  go_ret2
  exact ⟨rfl, rfl⟩

/-- what the varint at i comes to -/
def Rd (len : Nat) (zs : List Int) (i : Nat) (v : Int) (t : Nat) : Prop :=
  (∃ n, n ≤ 9 ∧ i + n < len ∧ (∀ j, j < n → 128 ≤ dig zs i j) ∧ dig zs i n < 128 ∧ v = pv (dig zs i) (n + 1) % 18446744073709551616 ∧ t = i + n + 1) ∨
  ((∀ j, j < 10 → i + j < len → 128 ≤ dig zs i j) ∧ v = 0 ∧ t = len + 1)

theorem rd_cases (len : Nat) (zs : List Int) (i N : Nat) :
    (∃ n, n < N ∧ i + n < len ∧ (∀ j, j < n → 128 ≤ dig zs i j) ∧ dig zs i n < 128) ∨ (∀ j, j < N → i + j < len → 128 ≤ dig zs i j) := by
  induction N with
  | zero => exact .inr (fun j hj => absurd hj (by omega))
  | succ N ih =>
    rcases ih with ⟨n, h1, h2⟩ | h
    · exact .inl ⟨n, by omega, h2⟩
    · by_cases hN : i + N < len ∧ dig zs i N < 128
      · exact .inl ⟨N, by omega, hN.1, fun j hj => h j hj (by omega), hN.2⟩
      · refine .inr (fun j hj hl => ?_)
        by_cases e : j = N
        · subst e; have : ¬ dig zs i j < 128 := fun h' => hN ⟨hl, h'⟩; omega
        · exact h j (by omega) hl

theorem rd_ex (len : Nat) (zs : List Int) (i : Nat) : ∃ v t, Rd len zs i v t := by
  rcases rd_cases len zs i 10 with ⟨n, h1, h2, h3, h4⟩ | h
  · exact ⟨_, _, .inl ⟨n, by omega, h2, h3, h4, rfl, rfl⟩⟩
  · exact ⟨_, _, .inr ⟨h, rfl, rfl⟩⟩

theorem long_any (b off len cap i : Nat) (zs : List Int) (v : Int) (t : Nat) (w : World) (hmax : len ≤ 9223372036854775000)
    (hc : ∀ j, j < len → w.cell? ⟨b, off + j, none⟩ = some (.int .u8 (zs.getD j 0)))
    (hr : ∀ j : Nat, 0 ≤ zs[j]?.getD 0 ∧ zs[j]?.getD 0 ≤ 255) (h : Rd len zs i v t) :
    Calls Try.prog 32 #[.slice (some ⟨b, off, none⟩) len cap, .int .i64 i] w fun e w' =>
      e = .returned (.tuple #[.int .u64 v, .int .i64 t]) ∧ w' = w := by
  rcases h with ⟨n, h1, h2, h3, h4, rfl, rfl⟩ | ⟨h1, rfl, rfl⟩
  · exact long_hit b off len cap i n zs w hmax hc hr h1 h2 h3 h4
  · exact long_miss b off len cap i zs w hmax hc hr h1

/-- the shim ZZHB1LongUvarintAt (12) -/
theorem zzlong_any (b off len cap i : Nat) (zs : List Int) (v : Int) (t : Nat) (w : World) (hmax : len ≤ 9223372036854775000)
    (hc : ∀ j, j < len → w.cell? ⟨b, off + j, none⟩ = some (.int .u8 (zs.getD j 0)))
    (hr : ∀ j : Nat, 0 ≤ zs[j]?.getD 0 ∧ zs[j]?.getD 0 ≤ 255) (h : Rd len zs i v t) :
    Calls Try.prog 12 #[.slice (some ⟨b, off, none⟩) len cap, .int .i64 i] w fun e w' =>
      e = .returned (.tuple #[.int .u64 v, .int .i64 t]) ∧ w' = w := by
  have H := long_any b off len cap i zs v t w hmax hc hr h
  clear hc hr h
  go_enter Try.func12, Try.ntmps12
  go_wp2_with (go_at_call 32; refine H.mono ?_; rintro e w' ⟨rfl, rfl⟩)
  go_ret2
  exact ⟨rfl, rfl⟩

theorem zzlong_empty (a : Option Addr) (cap i : Nat) (w : World) :
    Calls Try.prog 12 #[.slice a 0 cap, .int .i64 i] w fun e w' =>
      e = .returned (.tuple #[.int .u64 0, .int .i64 1]) ∧ w' = w := by
  go_enter Try.func12, Try.ntmps12
  go_wp2_with (go_at_call 32; refine (long_empty a cap i _).mono ?_; rintro e w' ⟨rfl, rfl⟩)
  go_ret2
  exact ⟨rfl, rfl⟩
end Go.Proofs.Qxb6000020a
