/-
  Plain mathematics of the heap of turns: no Go in sight. A turn: second, nanosecond, rank, run.
-/
import Derived.WalkKit
namespace Go.Proofs.Qxb6000020a.Heap

abbrev Tn := Int × Int × Int × Int
def lt (a b : Tn) : Bool :=
  if a.1 = b.1 then (if a.2.1 = b.2.1 then (if a.2.2.1 = b.2.2.1 then decide (a.2.2.2 < b.2.2.2) else decide (a.2.2.1 < b.2.2.1)) else decide (a.2.1 < b.2.1)) else decide (a.1 < b.1)
theorem lt_iff (a b : Tn) : lt a b = true ↔ (a.1 < b.1 ∨ (a.1 = b.1 ∧ (a.2.1 < b.2.1 ∨ (a.2.1 = b.2.1 ∧ (a.2.2.1 < b.2.2.1 ∨ (a.2.2.1 = b.2.2.1 ∧ a.2.2.2 < b.2.2.2)))))) := by
  unfold lt
  split
  · split
    · split
      · simp; omega
      · simp; omega
    · simp; omega
  · simp; omega
theorem lt_false (a b : Tn) : lt a b = false ↔ ¬ (a.1 < b.1 ∨ (a.1 = b.1 ∧ (a.2.1 < b.2.1 ∨ (a.2.1 = b.2.1 ∧ (a.2.2.1 < b.2.2.1 ∨ (a.2.2.1 = b.2.2.1 ∧ a.2.2.2 < b.2.2.2)))))) := by
  rw [← lt_iff]; simp
theorem lt_irr (a : Tn) : lt a a = false := by rw [lt_false]; omega
theorem lt_asym {a b : Tn} (h : lt a b = true) : lt b a = false := by rw [lt_false]; rw [lt_iff] at h; omega
/-- 'not later': a total preorder -/
theorem le_trans {a b c : Tn} (h1 : lt b a = false) (h2 : lt c b = false) : lt c a = false := by
  rw [lt_false] at *; omega
theorem le_antisymm {a b : Tn} (h1 : lt b a = false) (h2 : lt a b = false) : a = b := by
  rw [lt_false] at *
  obtain ⟨a1, a2, a3, a4⟩ := a
  obtain ⟨b1, b2, b3, b4⟩ := b
  simp only [Prod.mk.injEq] at *
  omega

def ix (Q : List Tn) (i : Nat) : Tn := Q[i]?.getD (0, 0, 0, 0)
theorem ix_set (Q : List Tn) (i j : Nat) (x : Tn) : ix (Q.set i x) j = if i = j ∧ i < Q.length then x else ix Q j := by
  unfold ix
  rw [List.getElem?_set]
  by_cases h : i = j
  · subst h
    by_cases h2 : i < Q.length
    · simp [h2]
    · simp [h2]
  · simp [h]
theorem ix_set_eq (Q : List Tn) (i : Nat) (x : Tn) (h : i < Q.length) : ix (Q.set i x) i = x := by rw [ix_set, if_pos ⟨rfl, h⟩]
theorem ix_set_ne (Q : List Tn) (i j : Nat) (x : Tn) (h : i ≠ j) : ix (Q.set i x) j = ix Q j := by rw [ix_set, if_neg (fun a => h a.1)]
theorem ix_get (Q : List Tn) (i : Nat) (h : i < Q.length) : ix Q i = Q[i] := by unfold ix; simp [h]
theorem set_ix (Q : List Tn) (i : Nat) : Q.set i (ix Q i) = Q := by
  by_cases h : i < Q.length
  · rw [ix_get Q i h, List.set_getElem_self]
  · rw [List.set_eq_of_length_le (by omega)]

/-- a hole moves from h to c -/
theorem perm_move (Q : List Tn) (h c : Nat) (u : Tn) (hh : h < Q.length) (hc : c < Q.length) (hne : h ≠ c) : ((Q.set h (ix Q c)).set c u).Perm (Q.set h u) := by
  have h1 : h < (Q.set h u).length := by simpa using hh
  have h2 : c < (Q.set h u).length := by simpa using hc
  have := List.set_set_perm h1 h2
  have e1 : (Q.set h u)[h] = u := by simp
  have e2 : (Q.set h u)[c] = ix Q c := by rw [ix_get Q c hc]; simp [hne]
  rw [e1, e2, List.set_set] at this
  exact this

/-- h lies in the subtree of i -/
def Sub (i h : Nat) : Prop := ∃ k, (h + 1) / 2 ^ k = i + 1
theorem sub_self (i : Nat) : Sub i i := ⟨0, by simp⟩
theorem sub_ge {i h : Nat} (s : Sub i h) : i ≤ h := by
  obtain ⟨k, hk⟩ := s
  have := Nat.div_le_self (h + 1) (2 ^ k)
  omega
theorem sub_child {i h c : Nat} (s : Sub i h) (hc : 1 ≤ c) (hp : (c - 1) / 2 = h) : Sub i c := by
  obtain ⟨k, hk⟩ := s
  refine ⟨k + 1, ?_⟩
  rw [Nat.pow_succ, Nat.mul_comm, ← Nat.div_div_eq_div_mul, show (c + 1) / 2 = h + 1 from by omega]
  exact hk
theorem sub_parent {i h : Nat} (s : Sub i h) (hi : i < h) : Sub i ((h - 1) / 2) := by
  obtain ⟨k, hk⟩ := s
  cases k with
  | zero => simp at hk; omega
  | succ k =>
    refine ⟨k, ?_⟩
    rw [show (h - 1) / 2 + 1 = (h + 1) / 2 from by omega, Nat.div_div_eq_div_mul, Nat.mul_comm, ← Nat.pow_succ]
    exact hk

/-- every edge whose parent is i or later is in heap order -/
def Ht (Q : List Tn) (i : Nat) : Prop := ∀ x, 1 ≤ x → x < Q.length → i ≤ (x - 1) / 2 → lt (ix Q x) (ix Q ((x - 1) / 2)) = false

structure Inv (Q0 : List Tn) (i : Nat) (Q : List Tn) (h : Nat) (u : Tn) : Prop where
  len : Q.length = Q0.length
  hlt : h < Q.length
  sub : Sub i h
  perm : (Q.set h u).Perm Q0
  edges : ∀ x, 1 ≤ x → x < Q.length → i ≤ (x - 1) / 2 → x ≠ h → (x - 1) / 2 ≠ h → lt (ix Q x) (ix Q ((x - 1) / 2)) = false
  grand : i < h → ∀ x, 1 ≤ x → x < Q.length → (x - 1) / 2 = h → lt (ix Q x) (ix Q ((h - 1) / 2)) = false

theorem inv_start {Q : List Tn} {i : Nat} (hi : i < Q.length) (hh : Ht Q (i + 1)) : Inv Q i Q i (ix Q i) :=
  ⟨rfl, hi, sub_self i, by rw [set_ix], fun x h1 h2 h3 h4 h5 => hh x h1 h2 (by omega), fun h => absurd h (by omega)⟩

theorem inv_down {Q0 Q : List Tn} {i h c : Nat} {u : Tn} (I : Inv Q0 i Q h u) (c1 : 1 ≤ c) (cl : c < Q.length) (cp : (c - 1) / 2 = h)
    (small : ∀ x, 1 ≤ x → x < Q.length → (x - 1) / 2 = h → lt (ix Q x) (ix Q c) = false) : Inv Q0 i (Q.set h (ix Q c)) c u := by
  have hl := I.hlt
  have hne : h ≠ c := by omega
  have hge := sub_ge I.sub
  refine ⟨by simpa using I.len, by simpa using cl, sub_child I.sub c1 cp, (perm_move Q h c u hl cl hne).trans I.perm, ?_, ?_⟩
  · intro x x1 x2 x3 x4 x5
    simp only [List.length_set] at x2
    by_cases hx : x = h
    · -- the old hole, under its parent
      subst hx
      rw [ix_set_eq _ _ _ hl, ix_set_ne _ _ _ _ (show x ≠ (x - 1) / 2 by omega)]
      exact I.grand (by omega) c c1 cl cp
    · rw [ix_set_ne _ _ _ _ (Ne.symm hx)]
      by_cases hp : (x - 1) / 2 = h
      · rw [hp, ix_set_eq _ _ _ hl]
        exact small x x1 x2 hp
      · rw [ix_set_ne _ _ _ _ (Ne.symm hp)]
        exact I.edges x x1 x2 x3 hx hp
  · intro hic x x1 x2 x3
    simp only [List.length_set] at x2
    rw [cp, ix_set_eq _ _ _ hl, ix_set_ne _ _ _ _ (show h ≠ x by omega)]
    have := I.edges x x1 x2 (by omega) (by omega) (by omega)
    rw [x3] at this
    exact this

theorem inv_up {Q0 Q : List Tn} {i h : Nat} {u : Tn} (I : Inv Q0 i Q h u) (B : ∀ x, 1 ≤ x → x < Q.length → (x - 1) / 2 = h → lt (ix Q x) u = false) (hi : i < h) (hu : lt u (ix Q ((h - 1) / 2)) = true) :
    Inv Q0 i (Q.set h (ix Q ((h - 1) / 2))) ((h - 1) / 2) u ∧ (∀ x, 1 ≤ x → x < (Q.set h (ix Q ((h - 1) / 2))).length → (x - 1) / 2 = (h - 1) / 2 → lt (ix (Q.set h (ix Q ((h - 1) / 2))) x) u = false) := by
  have hl := I.hlt
  have sp := sub_parent I.sub hi
  have hge := sub_ge sp
  have hpl : (h - 1) / 2 < Q.length := by omega
  have hne : h ≠ (h - 1) / 2 := by omega
  refine ⟨⟨by simpa using I.len, by simpa using hpl, sp, (perm_move Q h _ u hl hpl hne).trans I.perm, ?_, ?_⟩, ?_⟩
  · intro x x1 x2 x3 x4 x5
    simp only [List.length_set] at x2
    by_cases hx : x = h
    · subst hx; exact absurd rfl x5
    · rw [ix_set_ne _ _ _ _ (Ne.symm hx)]
      by_cases hp : (x - 1) / 2 = h
      · rw [hp, ix_set_eq _ _ _ hl]
        exact I.grand hi x x1 x2 hp
      · rw [ix_set_ne _ _ _ _ (Ne.symm hp)]
        exact I.edges x x1 x2 x3 hx hp
  · intro hip x x1 x2 x3
    simp only [List.length_set] at x2
    have hsp := sub_ge (sub_parent sp hip)
    rw [ix_set_ne _ _ _ _ (show h ≠ ((h - 1) / 2 - 1) / 2 by omega)]
    have e1 := I.edges ((h - 1) / 2) (by omega) hpl (by omega) (by omega) (by omega)
    by_cases hx : x = h
    · subst hx
      rw [ix_set_eq _ _ _ hl]
      exact e1
    · rw [ix_set_ne _ _ _ _ (Ne.symm hx)]
      have e2 := I.edges x x1 x2 (by omega) hx (by omega)
      rw [x3] at e2
      exact le_trans e1 e2
  · intro x x1 x2 x3
    simp only [List.length_set] at x2
    by_cases hx : x = h
    · subst hx
      rw [ix_set_eq _ _ _ hl]
      exact lt_asym hu
    · rw [ix_set_ne _ _ _ _ (Ne.symm hx)]
      have e2 := I.edges x x1 x2 (by omega) hx (by omega)
      rw [x3] at e2
      exact le_trans (lt_asym hu) e2

theorem inv_end {Q0 Q : List Tn} {i h : Nat} {u : Tn} (I : Inv Q0 i Q h u) (B : ∀ x, 1 ≤ x → x < Q.length → (x - 1) / 2 = h → lt (ix Q x) u = false) (hs : i < h → lt u (ix Q ((h - 1) / 2)) = false) :
    Ht (Q.set h u) i ∧ (Q.set h u).Perm Q0 := by
  have hl := I.hlt
  have hge := sub_ge I.sub
  refine ⟨?_, I.perm⟩
  intro x x1 x2 x3
  simp only [List.length_set] at x2
  by_cases hx : x = h
  · subst hx
    rw [ix_set_eq _ _ _ hl, ix_set_ne _ _ _ _ (show x ≠ (x - 1) / 2 by omega)]
    exact hs (by omega)
  · rw [ix_set_ne _ _ _ _ (Ne.symm hx)]
    by_cases hp : (x - 1) / 2 = h
    · rw [hp, ix_set_eq _ _ _ hl]
      exact B x x1 x2 hp
    · rw [ix_set_ne _ _ _ _ (Ne.symm hp)]
      exact I.edges x x1 x2 x3 hx hp

/-- the root of a heap is the earliest -/
theorem root_min {Q : List Tn} (hh : Ht Q 0) : ∀ x, x < Q.length → lt (ix Q x) (ix Q 0) = false := by
  intro x
  induction x using Nat.strongRecOn with
  | ind x ih =>
    intro hx
    by_cases h0 : x = 0
    · subst h0; exact lt_irr _
    · exact le_trans (ih ((x - 1) / 2) (by omega) (by omega)) (hh x (by omega) hx (by omega))

/-! ### the insertion sort -/
/-- the first a are in order -/
def Srt (M : List Tn) (a : Nat) : Prop := ∀ p q, p < q → q < a → lt (ix M q) (ix M p) = false

/-- in the midst of an insertion: x is out, the hole at h, the first a + 1 but the hole are in order, those behind the hole later than x -/
structure Ins (M0 : List Tn) (a : Nat) (M : List Tn) (h : Nat) (x : Tn) : Prop where
  len : M.length = M0.length
  hla : h ≤ a
  alt : a < M.length
  perm : (M.set h x).Perm M0
  srt : ∀ p q, p < q → q ≤ a → p ≠ h → q ≠ h → lt (ix M q) (ix M p) = false
  big : ∀ q, h < q → q ≤ a → lt x (ix M q) = true
theorem ins_start {M0 M : List Tn} {a : Nat} (hl : M.length = M0.length) (hp : M.Perm M0) (ha : a < M.length) (hs : Srt M a) : Ins M0 a M a (ix M a) :=
  ⟨hl, Nat.le_refl _, ha, by rw [set_ix]; exact hp, fun p q h1 h2 h3 h4 => hs p q h1 (by omega), fun q h1 h2 => by omega⟩
theorem ins_step {M0 M : List Tn} {a b : Nat} {x : Tn} (I : Ins M0 a M (b + 1) x) (hx : lt x (ix M b) = true) : Ins M0 a (M.set (b + 1) (ix M b)) b x := by
  have h1 := I.hla
  have h2 := I.alt
  refine ⟨by simpa using I.len, by omega, by simpa using h2, (perm_move M (b + 1) b x (by omega) (by omega) (by omega)).trans I.perm, ?_, ?_⟩
  · intro p q hpq hqa hp hq
    by_cases e : p = b + 1
    · subst e
      rw [ix_set_eq _ _ _ (by omega), ix_set_ne _ _ _ _ (show b + 1 ≠ q by omega)]
      exact I.srt b q (by omega) hqa (by omega) (by omega)
    · rw [ix_set_ne _ _ p _ (Ne.symm e)]
      by_cases e2 : q = b + 1
      · subst e2
        rw [ix_set_eq _ _ _ (by omega)]
        exact I.srt p b (by omega) (by omega) (by omega) (by omega)
      · rw [ix_set_ne _ _ _ _ (Ne.symm e2)]
        exact I.srt p q hpq hqa e e2
  · intro q hq hqa
    by_cases e2 : q = b + 1
    · subst e2
      rw [ix_set_eq _ _ _ (by omega)]
      exact hx
    · rw [ix_set_ne _ _ _ _ (Ne.symm e2)]
      exact I.big q (by omega) hqa
theorem ins_end {M0 M : List Tn} {a h : Nat} {x : Tn} (I : Ins M0 a M h x) (hx : ∀ b, h = b + 1 → lt x (ix M b) = false) :
    (M.set h x).length = M0.length ∧ (M.set h x).Perm M0 ∧ Srt (M.set h x) (a + 1) := by
  have h1 := I.hla
  have h2 := I.alt
  refine ⟨by simpa using I.len, I.perm, ?_⟩
  intro p q hpq hqa
  by_cases e : p = h
  · subst e
    rw [ix_set_eq _ _ _ (by omega), ix_set_ne _ _ _ _ (show p ≠ q by omega)]
    exact lt_asym (I.big q hpq (by omega))
  · rw [ix_set_ne _ _ p _ (Ne.symm e)]
    by_cases e2 : q = h
    · subst e2
      rw [ix_set_eq _ _ _ (by omega)]
      obtain ⟨b, rfl⟩ : ∃ b, q = b + 1 := ⟨q - 1, by omega⟩
      have hb := hx b rfl
      by_cases e3 : p = b
      · subst e3; exact hb
      · exact le_trans (I.srt p b (by omega) (by omega) (by omega) (by omega)) hb
    · rw [ix_set_ne _ _ _ _ (Ne.symm e2)]
      exact I.srt p q hpq (by omega) e e2

/-! ### the heap sort -/
/-- the first m are a heap; whatever stands at q from m on is not later than what stands before it -/
structure Hs (Q0 Q : List Tn) (m : Nat) : Prop where
  len : Q.length = Q0.length
  ml : m ≤ Q.length
  perm : Q.Perm Q0
  heap : ∀ x, 1 ≤ x → x < m → lt (ix Q x) (ix Q ((x - 1) / 2)) = false
  tail : ∀ p q, p < q → m ≤ q → q < Q.length → lt (ix Q p) (ix Q q) = false

theorem hs_start {Q0 Q : List Tn} (hl : Q.length = Q0.length) (hp : Q.Perm Q0) (hh : Ht Q 0) : Hs Q0 Q Q.length :=
  ⟨hl, Nat.le_refl _, hp, fun x h1 h2 => hh x h1 h2 (by omega), fun p q _ h2 h3 => by omega⟩

theorem ix_take (Q : List Tn) (m i : Nat) (h : i < m) : ix (Q.take m) i = ix Q i := by
  unfold ix; rw [List.getElem?_take, if_pos h]
theorem ix_append_left (A B : List Tn) (i : Nat) (h : i < A.length) : ix (A ++ B) i = ix A i := by
  unfold ix; rw [List.getElem?_append_left h]
theorem ix_append_right (A B : List Tn) (i : Nat) (h : A.length ≤ i) : ix (A ++ B) i = ix B (i - A.length) := by
  unfold ix; rw [List.getElem?_append_right h]
theorem ix_drop (Q : List Tn) (m i : Nat) : ix (Q.drop m) i = ix Q (m + i) := by
  unfold ix; rw [List.getElem?_drop]
theorem mem_ix {Q : List Tn} {i : Nat} (h : i < Q.length) : ix Q i ∈ Q := by rw [ix_get Q i h]; exact List.getElem_mem h
theorem ix_of_mem {Q : List Tn} {x : Tn} (h : x ∈ Q) : ∃ i, i < Q.length ∧ ix Q i = x := by
  obtain ⟨i, hi, e⟩ := List.mem_iff_getElem.1 h
  exact ⟨i, hi, by rw [ix_get Q i hi, e]⟩

/-- the exchange of the root and the last of the heap -/
def swp (Q : List Tn) (e : Nat) : List Tn := (Q.set 0 (ix Q e)).set e (ix Q 0)
theorem swp_perm (Q : List Tn) (e : Nat) (h0 : 0 < e) (he : e < Q.length) : (swp Q e).Perm Q := by
  have := perm_move Q 0 e (ix Q 0) (by omega) he (by omega)
  rw [set_ix] at this
  exact this
theorem swp_len (Q : List Tn) (e : Nat) : (swp Q e).length = Q.length := by simp [swp]
theorem swp_zero (Q : List Tn) (e : Nat) (h0 : 0 < e) (he : e < Q.length) : ix (swp Q e) 0 = ix Q e := by
  unfold swp; rw [ix_set_ne _ _ _ _ (by omega), ix_set_eq _ _ _ (by omega)]
theorem swp_last (Q : List Tn) (e : Nat) (he : e < Q.length) : ix (swp Q e) e = ix Q 0 := by
  unfold swp; rw [ix_set_eq _ _ _ (by simpa using he)]
theorem swp_other (Q : List Tn) (e x : Nat) (h1 : x ≠ 0) (h2 : x ≠ e) : ix (swp Q e) x = ix Q x := by
  unfold swp; rw [ix_set_ne _ _ _ _ (Ne.symm h2), ix_set_ne _ _ _ _ (Ne.symm h1)]

/-- behind the exchange the first e are a heap but for the root -/
theorem swp_ht {Q0 Q : List Tn} {e : Nat} (H : Hs Q0 Q (e + 1)) (_h0 : 0 < e) : Ht ((swp Q e).take e) 1 := by
  have hml := H.ml
  intro x x1 x2 x3
  have hx : x < e := by simp at x2; omega
  rw [ix_take _ _ _ hx, ix_take _ _ _ (by omega), swp_other _ _ _ (by omega) (by omega), swp_other _ _ _ (by omega) (by omega)]
  exact H.heap x x1 (by omega)

/-- one round of the heap sort -/
theorem hs_step {Q0 Q P : List Tn} {e : Nat} (H : Hs Q0 Q (e + 1)) (h0 : 0 < e) (hp : P.Perm ((swp Q e).take e)) (hh : Ht P 0) : Hs Q0 (P ++ (swp Q e).drop e) e := by
  have hml := H.ml
  have hsl := swp_len Q e
  have hpl : P.length = e := by rw [hp.length_eq, List.length_take]; omega
  have hlen : (P ++ (swp Q e).drop e).length = Q.length := by rw [List.length_append, List.length_drop]; omega
  have hperm : (P ++ (swp Q e).drop e).Perm (swp Q e) := by
    have := hp.append_right ((swp Q e).drop e)
    rw [List.take_append_drop] at this
    exact this
  -- the elements ahead of place t come out of those ahead of place t of the exchanged row
  have hroot : ∀ y, y < e + 1 → lt (ix Q y) (ix Q 0) = false := by
    have : Ht (Q.take (e + 1)) 0 := by
      intro x x1 x2 _
      have hx : x < e + 1 := by simp at x2; omega
      rw [ix_take _ _ _ hx, ix_take _ _ _ (by omega)]
      exact H.heap x x1 hx
    intro y hy
    have := root_min this y (by simp; omega)
    rw [ix_take _ _ _ hy, ix_take _ _ _ (by omega)] at this
    exact this
  have hsw : ∀ p q, p < q → e ≤ q → q < Q.length → lt (ix (swp Q e) p) (ix (swp Q e) q) = false := by
    intro p q hpq heq hq
    by_cases e1 : q = e
    · subst e1
      rw [swp_last _ _ hq]
      by_cases e2 : p = 0
      · subst e2; rw [swp_zero _ _ h0 hq]; exact hroot q (by omega)
      · rw [swp_other _ _ _ e2 (by omega)]; exact hroot p (by omega)
    · rw [swp_other _ _ q (by omega) e1]
      by_cases e2 : p = 0
      · subst e2; rw [swp_zero _ _ h0 (by omega)]; exact H.tail e q (by omega) (by omega) hq
      · by_cases e3 : p = e
        · subst e3; rw [swp_last _ _ (by omega)]; exact H.tail 0 q (by omega) (by omega) hq
        · rw [swp_other _ _ p e2 e3]; exact H.tail p q hpq (by omega) hq
  refine ⟨by rw [hlen]; exact H.len, by omega, hperm.trans ((swp_perm Q e h0 (by omega)).trans H.perm), ?_, ?_⟩
  · intro x x1 x2
    rw [ix_append_left _ _ _ (by omega), ix_append_left _ _ _ (by omega)]
    exact hh x x1 (by omega) (by omega)
  · intro p q hpq heq hq
    rw [hlen] at hq
    rw [ix_append_right P _ q (by omega), ix_drop, hpl, show e + (q - e) = q from by omega]
    by_cases hpe : p < e
    · rw [ix_append_left _ _ _ (by omega)]
      have hm : ix P p ∈ (swp Q e).take e := hp.mem_iff.1 (mem_ix (by omega))
      obtain ⟨t, ht, et⟩ := ix_of_mem hm
      have ht' : t < e := by simp at ht; omega
      rw [ix_take _ _ _ ht'] at et
      rw [← et]
      exact hsw t q (by omega) heq hq
    · rw [ix_append_right P _ p (by omega), ix_drop, hpl, show e + (p - e) = p from by omega]
      exact hsw p q hpq heq hq

/-- the two sorts agree -/
theorem agree {Q0 Q M : List Tn} {m : Nat} (H : Hs Q0 Q m) (hm : m ≤ 1) (hM : M.Perm Q0) (hS : Srt M M.length) : ∀ j, j < Q.length → ix Q j = ix M (Q.length - 1 - j) := by
  have hlM : M.length = Q.length := by rw [hM.length_eq, H.perm.length_eq]
  have p1 : List.Pairwise (fun a b => lt b a = false) M := by
    rw [List.pairwise_iff_getElem]
    intro i j hi hj hij
    have := hS i j hij hj
    rw [ix_get M i hi, ix_get M j hj] at this
    exact this
  have p2 : List.Pairwise (fun a b => lt b a = false) Q.reverse := by
    rw [List.pairwise_reverse, List.pairwise_iff_getElem]
    intro i j hi hj hij
    have := H.tail i j hij (by omega) hj
    rw [ix_get Q i hi, ix_get Q j hj] at this
    exact this
  have hp : Q.reverse.Perm M := (Q.reverse_perm).trans (H.perm.trans hM.symm)
  have e : Q.reverse = M := hp.eq_of_pairwise (fun a b _ _ h1 h2 => le_antisymm h1 h2) p2 p1
  intro j hj
  rw [← e]
  unfold ix
  rw [List.getElem?_reverse (by omega), show Q.length - 1 - (Q.length - 1 - j) = j from by omega]
end Go.Proofs.Qxb6000020a.Heap
