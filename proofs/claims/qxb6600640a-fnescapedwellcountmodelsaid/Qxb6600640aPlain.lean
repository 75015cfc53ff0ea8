/-
  Plain mathematics of the escaped token: no Go in sight.
-/
import Derived.WalkKit
namespace Go.Proofs.Qxb6600640a

/-- every 126 is followed by 48 or 49 -/
def ok : List UInt8 → Bool
  | [] => true
  | [c] => c != 126
  | c :: d :: r => if c = 126 then (d == 48 || d == 49) && ok r else ok (d :: r)
def tl : List UInt8 → Nat
  | [] => 0
  | c :: r => (if c = 126 then 1 else 0) + tl r
def es : List UInt8 → Nat
  | [] => 0
  | [_] => 0
  | c :: d :: r => (if c = 126 ∧ (d = 48 ∨ d = 49) then 1 else 0) + es (d :: r)

theorem tl_le (l : List UInt8) : tl l ≤ l.length := by
  induction l with
  | nil => simp [tl]
  | cons c r ih => simp only [tl, List.length_cons]; split <;> omega
theorem es_le (l : List UInt8) : es l ≤ tl l := by
  induction l with
  | nil => simp [tl, es]
  | cons c r ih =>
    cases r with
    | nil => simp [es]
    | cons d r =>
      simp only [es]
      rw [tl]
      by_cases h : c = 126
      · rw [if_pos h]; split <;> omega
      · rw [if_neg h, if_neg (fun x => h x.1)]; omega

theorem es_skip (d : UInt8) (r : List UInt8) (h : d ≠ 126) : es (d :: r) = es r := by
  cases r with
  | nil => rfl
  | cons e r => simp [es, h]

theorem ok_count (n : Nat) : ∀ l : List UInt8, l.length ≤ n → ok l = decide (tl l = es l) := by
  induction n with
  | zero =>
    intro l hl
    have : l = [] := by cases l with
      | nil => rfl
      | cons _ _ => simp at hl
    subst this; rfl
  | succ n ih =>
    intro l hl
    match l, hl with
    | [], _ => rfl
    | [c], _ =>
      by_cases h : c = 126
      · subst h; rfl
      · simp [ok, tl, es, h]
    | c :: d :: r, hl =>
      simp only [List.length_cons] at hl
      by_cases h : c = 126
      · by_cases hd : d = 48 ∨ d = 49
        · have hd' : d ≠ 126 := by rcases hd with rfl | rfl <;> decide
          have e1 : ok (c :: d :: r) = ok r := by
            simp only [ok, h, if_true]
            rcases hd with rfl | rfl <;> simp
          rw [e1, ih r (by omega)]
          have e2 : tl (c :: d :: r) = 1 + tl r := by simp [tl, h, hd']
          have e3 : es (c :: d :: r) = 1 + es r := by
            rw [es, if_pos ⟨h, hd⟩, es_skip d r hd']
          rw [e2, e3]
          congr 1
          simp
        · have e1 : ok (c :: d :: r) = false := by
            simp only [ok, h, if_true]
            have a : (d == 48) = false := by simp; exact fun x => hd (.inl x)
            have b : (d == 49) = false := by simp; exact fun x => hd (.inr x)
            simp [a, b]
          have e3 : es (c :: d :: r) = es (d :: r) := by rw [es, if_neg (fun x => hd x.2)]; omega
          have e2 : tl (c :: d :: r) = 1 + tl (d :: r) := by rw [tl, if_pos h]
          have := es_le (d :: r)
          rw [e1, e2, e3]
          symm
          simp
          omega
      · have e1 : ok (c :: d :: r) = ok (d :: r) := by simp [ok, h]
        have e2 : tl (c :: d :: r) = tl (d :: r) := by rw [tl, if_neg h]; omega
        have e3 : es (c :: d :: r) = es (d :: r) := es_skip c (d :: r) h
        rw [e1, e2, e3]
        exact ih (d :: r) (by simp only [List.length_cons]; omega)

theorem ok_is (l : List UInt8) : ok l = decide (tl l = es l) := ok_count l.length l (Nat.le_refl _)

/-- what jpb1Escape writes for one byte, and for all -/
def esc1 (c : UInt8) : List UInt8 := if c = 126 then [126, 48] else if c = 47 then [126, 49] else [c]
def esc (l : List UInt8) : List UInt8 := l.flatMap esc1
theorem ok_skip (c : UInt8) (r : List UInt8) (h : c ≠ 126) : ok (c :: r) = ok r := by
  cases r with
  | nil => simp [ok, h]
  | cons d r => simp [ok, h]
theorem ok_esc (l : List UInt8) : ok (esc l) = true := by
  induction l with
  | nil => rfl
  | cons c r ih =>
    have e : esc (c :: r) = esc1 c ++ esc r := rfl
    rw [e]
    unfold esc1
    by_cases h : c = 126
    · rw [if_pos h]
      show ok (126 :: 48 :: esc r) = true
      simp [ok, ih]
    · rw [if_neg h]
      by_cases h2 : c = 47
      · rw [if_pos h2]
        show ok (126 :: 49 :: esc r) = true
        simp [ok, ih]
      · rw [if_neg h2]
        show ok (c :: esc r) = true
        rw [ok_skip c _ h]
        exact ih
theorem esc_len (l : List UInt8) : (esc l).length ≤ 2 * l.length := by
  induction l with
  | nil => simp [esc]
  | cons c r ih =>
    have e : esc (c :: r) = esc1 c ++ esc r := rfl
    have e1 : (esc1 c).length ≤ 2 := by unfold esc1; split; · simp
                                        · split <;> simp
    rw [e, List.length_append, List.length_cons]
    omega
theorem esc_snoc (l : List UInt8) (c : UInt8) : esc (l ++ [c]) = esc l ++ esc1 c := by simp [esc]
end Go.Proofs.Qxb6600640a
