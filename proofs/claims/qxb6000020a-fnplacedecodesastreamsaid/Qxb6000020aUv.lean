/-
  The walks of uvarintAt (33) and ZZHB1UvarintAt (17).
-/
import Derived.Test.Qxb6000020aLong
import Derived.Test.Qxb6000020aModel
namespace Go.Proofs.Qxb6000020a
open Go.ChangeShapes Go.WideShapes Go.ChangeAt Go.RowKit

/-- the number of two bytes -/
theorem or2 (c d : Int) (hc0 : 0 ≤ c) (hc1 : c < 128) (hd0 : 0 ≤ d) (hd1 : d < 128) : bits .or .u64 c (d * 128) = c + 128 * d := by
  obtain ⟨x, rfl⟩ := Int.eq_ofNat_of_zero_le hc0
  obtain ⟨y, rfl⟩ := Int.eq_ofNat_of_zero_le hd0
  have e1 : ((y : Int) * 128) = ((y * 128 : Nat) : Int) := by omega
  rw [e1, u64_or_nat' _ _ (by omega) (by omega)]
  have e3 : x ||| y * 128 = y * 128 + x := by
    rw [show y * 128 = y * 2 ^ 7 from rfl, Nat.or_comm, ← Nat.shiftLeft_eq, Nat.shiftLeft_add_eq_or_of_lt (by omega)]
  rw [e3]
  omega

theorem rd_one {len i : Nat} {zs : List Int} {v : Int} {t : Nat} (h : Rd len zs i v t) (hi : i < len) (h0 : 0 ≤ zs[i]?.getD 0) (h1 : zs[i]?.getD 0 < 128) : v = zs[i]?.getD 0 ∧ t = i + 1 := by
  rcases h with ⟨n, a1, a2, a3, a4, rfl, rfl⟩ | ⟨a1, _, _⟩
  · have hn : n = 0 := by
      rcases Nat.eq_zero_or_pos n with h | h
      · exact h
      · have := a3 0 h; unfold dig at this; simp at this; omega
    subst hn
    simp [pv, dig]
    omega
  · have := a1 0 (by omega) (by omega); unfold dig at this; simp at this; omega
theorem rd_two {len i : Nat} {zs : List Int} {v : Int} {t : Nat} (h : Rd len zs i v t) (hi : i + 1 < len) (h0 : 128 ≤ zs[i]?.getD 0) (g0 : 0 ≤ zs[i + 1]?.getD 0) (h1 : zs[i + 1]?.getD 0 < 128) : v = zs[i]?.getD 0 % 128 + 128 * zs[i + 1]?.getD 0 ∧ t = i + 2 := by
  rcases h with ⟨n, a1, a2, a3, a4, rfl, rfl⟩ | ⟨a1, _, _⟩
  · have hn : n = 1 := by
      rcases Nat.lt_trichotomy n 1 with h | h | h
      · have : n = 0 := by omega
        subst this; unfold dig at a4; simp at a4; omega
      · exact h
      · have := a3 1 h; unfold dig at this; omega
    subst hn
    simp [pv, dig]
    omega
  · have := a1 1 (by omega) (by omega); unfold dig at this; omega

set_option maxHeartbeats 1000000 in
theorem uv_any (b off len cap i : Nat) (zs : List Int) (v : Int) (t : Nat) (w : World) (hmax : len ≤ 9223372036854775000)
    (hc : ∀ j, j < len → w.cell? ⟨b, off + j, none⟩ = some (.int .u8 (zs.getD j 0)))
    (hr : ∀ j : Nat, 0 ≤ zs[j]?.getD 0 ∧ zs[j]?.getD 0 ≤ 255) (h : Rd len zs i v t) :
    Calls Try.prog 33 #[.slice (some ⟨b, off, none⟩) len cap, .int .i64 i] w fun e w' =>
      e = .returned (.tuple #[.int .u64 v, .int .i64 t]) ∧ w' = w := by
  by_cases hi : i + 1 < len
  · have hc0 := hc i (by omega)
    have hr0 := hr i
    by_cases h0 : zs[i]?.getD 0 < 128
    · have hv := rd_one h (by omega) hr0.1 h0
      have HV : Hid (v = zs[i]?.getD 0 ∧ t = i + 1) := hv
      clear hc hr h hv
      go_enter Try.func33, Try.ntmps33
      go_wp2
      go_ret2
      exact ⟨by rw [HV.out.1, HV.out.2]; simp, rfl⟩
    · have hc1 := hc (i + 1) (by omega)
      have hr1 := hr (i + 1)
      by_cases h1 : zs[i + 1]?.getD 0 < 128
      · have hv := rd_two h hi (by omega) hr1.1 h1
        have HV : Hid (v = zs[i]?.getD 0 % 128 + 128 * zs[i + 1]?.getD 0 ∧ t = i + 2) := hv
        have hmask := mask127 hr0.1 hr0.2
        have hor := or2 (zs[i]?.getD 0 % 128) (zs[i + 1]?.getD 0) (by omega) (by omega) hr1.1 h1
        clear hc hr h hv
        go_enter Try.func33, Try.ntmps33
        go_wp2
        go_ret2
        exact ⟨by rw [HV.out.1, HV.out.2]; simp, rfl⟩
      · have C := long_any b off len cap i zs v t w hmax hc hr h
        clear hc hr h
        go_enter Try.func33, Try.ntmps33
        go_wp2_with (go_at_call 32; refine C.mono ?_; rintro e w' ⟨rfl, rfl⟩)
        go_ret2
        exact ⟨rfl, rfl⟩
  · have C := long_any b off len cap i zs v t w hmax hc hr h
    clear hc hr h
    go_enter Try.func33, Try.ntmps33
    go_wp2_with (go_at_call 32; refine C.mono ?_; rintro e w' ⟨rfl, rfl⟩)
    go_ret2
    exact ⟨rfl, rfl⟩

theorem uv_empty (a : Option Addr) (cap i : Nat) (w : World) :
    Calls Try.prog 33 #[.slice a 0 cap, .int .i64 i] w fun e w' =>
      e = .returned (.tuple #[.int .u64 0, .int .i64 1]) ∧ w' = w := by
  go_enter Try.func33, Try.ntmps33
  go_wp2_with (go_at_call 32; refine (long_empty a cap i _).mono ?_; rintro e w' ⟨rfl, rfl⟩)
  go_ret2
  exact ⟨rfl, rfl⟩

theorem zzuv_any (b off len cap i : Nat) (zs : List Int) (v : Int) (t : Nat) (w : World) (hmax : len ≤ 9223372036854775000)
    (hc : ∀ j, j < len → w.cell? ⟨b, off + j, none⟩ = some (.int .u8 (zs.getD j 0)))
    (hr : ∀ j : Nat, 0 ≤ zs[j]?.getD 0 ∧ zs[j]?.getD 0 ≤ 255) (h : Rd len zs i v t) :
    Calls Try.prog 17 #[.slice (some ⟨b, off, none⟩) len cap, .int .i64 i] w fun e w' =>
      e = .returned (.tuple #[.int .u64 v, .int .i64 t]) ∧ w' = w := by
  have H := uv_any b off len cap i zs v t w hmax hc hr h
  clear hc hr h
  go_enter Try.func17, Try.ntmps17
  go_wp2_with (go_at_call 33; refine H.mono ?_; rintro e w' ⟨rfl, rfl⟩)
  go_ret2
  exact ⟨rfl, rfl⟩
theorem zzuv_empty (a : Option Addr) (cap i : Nat) (w : World) :
    Calls Try.prog 17 #[.slice a 0 cap, .int .i64 i] w fun e w' =>
      e = .returned (.tuple #[.int .u64 0, .int .i64 1]) ∧ w' = w := by
  go_enter Try.func17, Try.ntmps17
  go_wp2_with (go_at_call 33; refine (uv_empty a cap i _).mono ?_; rintro e w' ⟨rfl, rfl⟩)
  go_ret2
  exact ⟨rfl, rfl⟩
end Go.Proofs.Qxb6000020a
