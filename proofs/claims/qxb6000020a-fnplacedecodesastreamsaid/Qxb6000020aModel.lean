/-
  The walk of zzHB1VarintModel (13).
-/
import Derived.Test.Qxb6000020aLong
import Derived.Test.Qxb6000020aEnc
import Derived.Test.Qxb6000020aCommon
namespace Go.Proofs.Qxb6000020a
open Go.ChangeShapes Go.WideShapes Go.ChangeAt Go.RowKit

theorem or7 (v c : Int) (h0 : 0 ≤ v) (h1 : v < 18446744073709551616) (hc0 : 0 ≤ c) (hc1 : c < 128) :
    bits .or .u64 (v * 128 % 18446744073709551616) c = (c + 128 * v) % 18446744073709551616 := by
  obtain ⟨x, rfl⟩ := Int.eq_ofNat_of_zero_le h0
  obtain ⟨d, rfl⟩ := Int.eq_ofNat_of_zero_le hc0
  have e1 : ((x : Int) * 128 % 18446744073709551616) = ((x * 128 % 18446744073709551616 : Nat) : Int) := by omega
  rw [e1, u64_or_nat' _ _ (by omega) (by omega)]
  have e2 : x * 128 % 18446744073709551616 = (x % 144115188075855872) * 2 ^ 7 := by omega
  have e3 : (x % 144115188075855872) * 2 ^ 7 ||| d = (x % 144115188075855872) * 2 ^ 7 + d := by
    rw [← Nat.shiftLeft_eq, Nat.shiftLeft_add_eq_or_of_lt (by omega)]
  rw [e2, e3]
  omega

/-- what has been folded when the fold stands ahead of digit p -/
def back (zs : List Int) (i n p : Nat) : Int := pv (fun u => zs[p + u]?.getD 0) (i + n + 1 - p) % 18446744073709551616
theorem back_bd (zs : List Int) (i n p : Nat) : 0 ≤ back zs i n p ∧ back zs i n p < 18446744073709551616 := by unfold back; omega
theorem back_step (zs : List Int) (i n p : Nat) (hp : p < i + n + 1) : bits .or .u64 (back zs i n (p + 1) * 128 % 18446744073709551616) (zs[p]?.getD 0 % 128) = back zs i n p := by
  have hb := back_bd zs i n (p + 1)
  rw [or7 _ _ hb.1 hb.2 (by omega) (by omega)]
  unfold back
  obtain ⟨m, hm⟩ : ∃ m, i + n + 1 - p = m + 1 := ⟨i + n - p, by omega⟩
  rw [hm, show i + n + 1 - (p + 1) = m from by omega, pv_cons]
  have e : pv (fun u => zs[p + 1 + u]?.getD 0) m = pv (fun j => zs[p + (j + 1)]?.getD 0) m := pv_congr (fun j _ => by rw [show p + 1 + j = p + (j + 1) from by omega])
  rw [e]
  simp only [Nat.add_zero]
  omega
theorem back_end (zs : List Int) (i n : Nat) : back zs i n i = pv (dig zs i) (n + 1) % 18446744073709551616 := by
  unfold back dig
  rw [show i + n + 1 - i = n + 1 from by omega]
theorem back_start (zs : List Int) (i n : Nat) : back zs i n (i + n + 1) = 0 := by simp [back, pv]

set_option maxHeartbeats 1000000 in
theorem model_hit (b off len cap i n : Nat) (zs : List Int) (w : World) (hmax : len ≤ 9223372036854775000)
    (hc : ∀ j, j < len → w.cell? ⟨b, off + j, none⟩ = some (.int .u8 (zs.getD j 0)))
    (hr : ∀ j : Nat, 0 ≤ zs[j]?.getD 0 ∧ zs[j]?.getD 0 ≤ 255)
    (hn : n ≤ 9) (hi : i + n < len) (hbig : ∀ j, j < n → 128 ≤ dig zs i j) (hsm : dig zs i n < 128) :
    Calls Try.prog 13 #[.slice (some ⟨b, off, none⟩) len cap, .int .i64 i] w fun e w' =>
      e = .returned (.tuple #[.int .u64 (pv (dig zs i) (n + 1) % 18446744073709551616), .int .i64 (i + n + 1 : Nat)]) ∧ w' = w := by
  go_enter Try.func13, Try.ntmps13
  go_wp2
  go_loop [6, 7] (fun e k => ∃ t : Nat, t ≤ n ∧ k = .int .i64 t ∧ e = .int .i64 (-1)) (fun _ k => 10 - (intOf k).toNat)
  case atStart => exact ⟨0, by omega, rfl, rfl⟩
  case round =>
    obtain ⟨t, ht, rfl, rfl⟩ := hrel
    have hcell := hc (i + t) (by omega)
    have hcell' : w.cell? ⟨b, off + (i + t), none⟩ = some (.int .u8 (zs.getD (i + t) 0)) := hcell
    have hrk := hr (i + t)
    by_cases htn : t < n
    · have hge : 128 ≤ zs[i + t]?.getD 0 := hbig t htn
      clear hc hr hbig hsm
      go_wp2
      go_round
      case rel => exact ⟨t + 1, by omega, by go_num, rfl⟩
      case measure => simp [intOf]; omega
    · obtain rfl : t = n := by omega
      have hge : zs[i + t]?.getD 0 < 128 := hsm
      clear hbig hsm
      go_wp2
      go_loop [8, 9] (fun v j => ∃ p : Nat, i ≤ p ∧ p ≤ i + t + 1 ∧ j = .int .i64 ((p : Int) - 1) ∧ v = .int .u64 (back zs i t p)) (fun _ j => (intOf j + 1).toNat)
      case atStart => exact ⟨i + t + 1, by omega, by omega, by go_num, by rw [back_start]⟩
      case round =>
        obtain ⟨p, hp1, hp2, rfl, rfl⟩ := hrel
        by_cases hpi : i < p
        · obtain ⟨p', rfl⟩ : ∃ p', p = p' + 1 := ⟨p - 1, by omega⟩
          rw [show ((p' + 1 : Nat) : Int) - 1 = (p' : Int) from by omega]
          have hcp := hc p' (by omega)
          have hrp := hr p'
          have hmask := mask127 hrp.1 hrp.2
          have HB : Hid (bits .or .u64 (back zs i t (p' + 1) * 128 % 18446744073709551616) (zs[p']?.getD 0 % 128) = back zs i t p') := back_step zs i t p' (by omega)
          have hbb := back_bd zs i t (p' + 1)
          have hi' : i ≤ p' := by omega
          clear hc hr
          go_wp2
          go_round
          case rel => exact ⟨p', by omega, by omega, rfl, by rw [wrap64u, HB.out]⟩
          case measure => simp [intOf]
        · obtain rfl : p = i := by omega
          go_wp2
          go_ret2
          exact ⟨by rw [back_end]; simp, rfl⟩

set_option maxHeartbeats 1000000 in
theorem model_miss (b off len cap i : Nat) (zs : List Int) (w : World) (hmax : len ≤ 9223372036854775000) (himax : i ≤ 9223372036854775807)
    (hc : ∀ j, j < len → w.cell? ⟨b, off + j, none⟩ = some (.int .u8 (zs.getD j 0)))
    (_hr : ∀ j : Nat, 0 ≤ zs[j]?.getD 0 ∧ zs[j]?.getD 0 ≤ 255)
    (hbig : ∀ j, j < 10 → i + j < len → 128 ≤ dig zs i j) :
    Calls Try.prog 13 #[.slice (some ⟨b, off, none⟩) len cap, .int .i64 i] w fun e w' =>
      e = .returned (.tuple #[.int .u64 0, .int .i64 (len + 1 : Nat)]) ∧ w' = w := by
  go_enter Try.func13, Try.ntmps13
  go_wp2
  go_loop [6, 7] (fun e k => ∃ t : Nat, t ≤ 10 ∧ k = .int .i64 t ∧ e = .int .i64 (-1)) (fun _ k => 10 - (intOf k).toNat)
  case atStart => exact ⟨0, by omega, rfl, rfl⟩
  case round =>
    obtain ⟨t, ht, rfl, rfl⟩ := hrel
    by_cases htn : t < 10
    · by_cases hl : i + t < len
      · have hcell := hc (i + t) hl
        have hge : 128 ≤ zs[i + t]?.getD 0 := hbig t htn hl
        clear hc hbig
        go_wp2
        go_round
        case rel => exact ⟨t + 1, by omega, by go_num, rfl⟩
        case measure => simp [intOf]; omega
      · clear hc hbig
        go_wp2
        go_ret2
        exact ⟨rfl, rfl⟩
    · obtain rfl : t = 10 := by omega
      clear hc hbig
      go_wp2
      go_ret2
      exact ⟨rfl, rfl⟩

theorem model_any (b off len cap i : Nat) (zs : List Int) (v : Int) (t : Nat) (w : World) (hmax : len ≤ 9223372036854775000) (himax : i ≤ 9223372036854775807)
    (hc : ∀ j, j < len → w.cell? ⟨b, off + j, none⟩ = some (.int .u8 (zs.getD j 0)))
    (hr : ∀ j : Nat, 0 ≤ zs[j]?.getD 0 ∧ zs[j]?.getD 0 ≤ 255) (h : Rd len zs i v t) :
    Calls Try.prog 13 #[.slice (some ⟨b, off, none⟩) len cap, .int .i64 i] w fun e w' =>
      e = .returned (.tuple #[.int .u64 v, .int .i64 t]) ∧ w' = w := by
  rcases h with ⟨n, h1, h2, h3, h4, rfl, rfl⟩ | ⟨h1, rfl, rfl⟩
  · exact model_hit b off len cap i n zs w hmax hc hr h1 h2 h3 h4
  · exact model_miss b off len cap i zs w hmax himax hc hr h1

theorem model_empty (a : Option Addr) (cap i : Nat) (w : World) (himax : i ≤ 9223372036854775807) :
    Calls Try.prog 13 #[.slice a 0 cap, .int .i64 i] w fun e w' =>
      e = .returned (.tuple #[.int .u64 0, .int .i64 1]) ∧ w' = w := by
  go_enter Try.func13, Try.ntmps13
  go_wp2
  refine wp_loop_rounds 1 ?_
  rw [rounds_succ]
  go_wp2
  go_ret2
  exact ⟨rfl, rfl⟩
end Go.Proofs.Qxb6000020a
