/-
  Plain mathematics: the varint's encoding, and that its reading gives the number back.
-/
import Derived.Test.Qxb6000020aPlain
import Derived.Test.Qxb6000020aLong
namespace Go.Proofs.Qxb6000020a

def encF : Nat → Int → List Int
  | 0, x => [x]
  | f + 1, x => if 128 ≤ x then (x % 128 + 128) :: encF f (x / 128) else [x]
def enc (x : Int) : List Int := encF 10 x

theorem pv_cons (f : Nat → Int) (n : Nat) : pv f (n + 1) = f 0 % 128 + 128 * pv (fun j => f (j + 1)) n := by
  induction n with
  | zero => simp [pv]
  | succ n ih =>
    rw [pv, ih]
    simp only [pv]
    rw [pow7, Int.mul_add, ← Int.mul_assoc 128, Int.mul_comm 128 (f (n + 1) % 128), Int.mul_assoc]
    omega

theorem encF_big {f : Nat} {x : Int} (h : 128 ≤ x) : encF (f + 1) x = (x % 128 + 128) :: encF f (x / 128) := by simp [encF, h]
theorem encF_small {f : Nat} {x : Int} (h : x < 128) : encF f x = [x] := by
  cases f with
  | zero => rfl
  | succ f => simp only [encF]; rw [if_neg (by omega)]

theorem encF_ok (f : Nat) : ∀ x : Int, 0 ≤ x → x < 2 ^ (7 * (f + 1)) → ∃ n, (encF (f + 1) x).length = n + 1 ∧ n ≤ f ∧ (∀ j, j < n → 128 ≤ (encF (f + 1) x)[j]?.getD 0) ∧ (encF (f + 1) x)[n]?.getD 0 < 128 ∧
    pv (fun j => (encF (f + 1) x)[j]?.getD 0) (n + 1) = x ∧ ∀ j : Nat, 0 ≤ (encF (f + 1) x)[j]?.getD 0 ∧ (encF (f + 1) x)[j]?.getD 0 ≤ 255 := by
  induction f with
  | zero =>
    intro x h0 h1
    have hx : x < 128 := by simpa using h1
    rw [encF_small hx]
    refine ⟨0, rfl, by omega, fun j hj => absurd hj (by omega), by simpa using hx, ?_, ?_⟩
    · simp [pv]; omega
    · intro j
      cases j with
      | zero => simp; omega
      | succ j => simp
  | succ f ih =>
    intro x h0 h1
    by_cases hb : 128 ≤ x
    · rw [encF_big hb]
      rw [pow7] at h1
      obtain ⟨n, a1, a2, a3, a4, a5, a6⟩ := ih (x / 128) (by omega) (by omega)
      refine ⟨n + 1, by simp [a1], by omega, ?_, ?_, ?_, ?_⟩
      · intro j hj
        cases j with
        | zero => simp; omega
        | succ j => simpa using a3 j (by omega)
      · simpa using a4
      · rw [pv_cons]
        have : pv (fun j => ((x % 128 + 128) :: encF (f + 1) (x / 128))[j + 1]?.getD 0) (n + 1) = x / 128 := by simpa using a5
        rw [this]
        simp
        omega
      · intro j
        cases j with
        | zero => simp; omega
        | succ j => simpa using a6 j
    · rw [encF_small (by omega)]
      refine ⟨0, rfl, by omega, fun j hj => absurd hj (by omega), by simp; omega, ?_, ?_⟩
      · simp [pv]; omega
      · intro j
        cases j with
        | zero => simp; omega
        | succ j => simp

theorem enc_ok (x : Int) (h0 : 0 ≤ x) (h1 : x < 18446744073709551616) : ∃ n, (enc x).length = n + 1 ∧ n ≤ 9 ∧ (∀ j, j < n → 128 ≤ (enc x)[j]?.getD 0) ∧ (enc x)[n]?.getD 0 < 128 ∧
    pv (fun j => (enc x)[j]?.getD 0) (n + 1) = x ∧ ∀ j : Nat, 0 ≤ (enc x)[j]?.getD 0 ∧ (enc x)[j]?.getD 0 ≤ 255 := by
  have : (2 : Int) ^ (7 * (9 + 1)) = 1180591620717411303424 := by decide
  exact encF_ok 9 x h0 (by omega)

theorem enc_len (x : Int) (h0 : 0 ≤ x) (h1 : x < 18446744073709551616) : 1 ≤ (enc x).length ∧ (enc x).length ≤ 10 := by
  obtain ⟨n, a1, a2, _⟩ := enc_ok x h0 h1
  omega

/-- a varint written at i reads back -/
theorem rd_enc (zs : List Int) (len i : Nat) (x : Int) (h0 : 0 ≤ x) (h1 : x < 18446744073709551616) (hl : i + (enc x).length ≤ len)
    (hd : ∀ j, j < (enc x).length → zs[i + j]?.getD 0 = (enc x)[j]?.getD 0) : Rd len zs i x (i + (enc x).length) := by
  obtain ⟨n, a1, a2, a3, a4, a5, a6⟩ := enc_ok x h0 h1
  refine .inl ⟨n, a2, by omega, ?_, ?_, ?_, by omega⟩
  · intro j hj; unfold dig; rw [hd j (by omega)]; exact a3 j hj
  · unfold dig; rw [hd n (by omega)]; exact a4
  · have : pv (dig zs i) (n + 1) = x := by
      rw [← a5]; exact pv_congr (fun j hj => hd j (by omega))
    rw [this]
    omega
end Go.Proofs.Qxb6000020a
