/-
  Plain mathematics of the stream: the records one behind another; and a law on append that tells the new row apart from the other rows.
-/
import Derived.Test.Qxb6000020aOwnRec
import Derived.ArgAppend
namespace Go.Proofs.Qxb6000020a
open Go.ChangeShapes Go.WideShapes Go.ChangeAt Go.RowKit
set_option linter.unusedVariables false

def gt (l : List Int) (j : Nat) : Int := l[j]?.getD 0
/-- the value before place j (0 ahead of the first) -/
def pr (l : List Int) : Nat → Int
  | 0 => 0
  | j + 1 => gt l j
def df (l : List Int) (j : Nat) : Int := wrap64 (gt l j - pr l j)
def pd (l : List Int) : Nat → Int
  | 0 => 0
  | j + 1 => df l j
def fv (a b c : Bool) : Int := (if a then 64 else 0) + (if b then 128 else 0) + (if c then 8 else 0)
def c1 (R : List Int) (j : Nat) : Bool := gt R j == pr R j
def c2 (L S : List Int) (j : Nat) : Bool := df L j == pd L j && df S j == pd S j
def c3 (N : List Int) (j : Nat) : Bool := gt N j == 0
def flg (L S N R : List Int) (j : Nat) : Int := fv (c1 R j) (c2 L S j) (c3 N j)
def rc (L S N R : List Int) (j : Nat) : List Int := hdr (flg L S N R j) (gt R j) (df L j) (df S j) (gt N j) 0 0
def rcs (L S N R : List Int) : Nat → List Int
  | 0 => []
  | j + 1 => rcs L S N R j ++ rc L S N R j

theorem fv_bd (a b c : Bool) : 0 ≤ fv a b c ∧ fv a b c ≤ 255 := by cases a <;> cases b <;> cases c <;> decide
theorem fv_z64 (a b c : Bool) : z64 (fv a b c) = !a := by cases a <;> cases b <;> cases c <;> decide +kernel
theorem fv_z128 (a b c : Bool) : z128 (fv a b c) = !b := by cases a <;> cases b <;> cases c <;> decide +kernel
theorem fv_z8 (a b c : Bool) : z8 (fv a b c) = !c := by cases a <;> cases b <;> cases c <;> decide +kernel
theorem fv_l4 (a b c : Bool) : l4 (fv a b c) = false := by cases a <;> cases b <;> cases c <;> decide +kernel
theorem fv_or1 : bits .or .u8 0 64 = fv true false false := by decide +kernel
theorem fv_or2 (a : Bool) : bits .or .u8 (fv a false false) 128 = fv a true false := by cases a <;> decide +kernel
theorem fv_or3 (a b : Bool) : bits .or .u8 (fv a b false) 8 = fv a b true := by cases a <;> cases b <;> decide +kernel

theorem df_bd (l : List Int) (j : Nat) : -9223372036854775808 ≤ df l j ∧ df l j ≤ 9223372036854775807 := by unfold df wrap64; omega
theorem wrap_back (x p : Int) (h0 : -9223372036854775808 ≤ x) (h1 : x ≤ 9223372036854775807) : wrap64 (p + wrap64 (x - p)) = x := by unfold wrap64; omega

theorem placed_rec (L S N R : List Int) (j : Nat) (hL : -9223372036854775808 ≤ gt L j ∧ gt L j ≤ 9223372036854775807) (hS : -9223372036854775808 ≤ gt S j ∧ gt S j ≤ 9223372036854775807) :
    placed (pr S j) (pr L j) (pr R j) (pd S j) (pd L j) (flg L S N R j) (gt R j) (df L j) (df S j) (gt N j) 0 0 =
      outV (rc L S N R j).length (gt R j) (gt L j) (gt S j) (gt N j) (gt S j) (gt N j) (flg L S N R j) (df S j) (df L j) := by
  have e1 : wS (flg L S N R j) (gt R j) (pr R j) = gt R j := by
    unfold wS flg; rw [fv_z64]
    cases h : c1 R j
    · simp
    · unfold c1 at h; simp at h; simp [h]
  have e2 : wSt (flg L S N R j) (df L j) (pd L j) = df L j := by
    unfold wSt flg; rw [fv_z128]
    cases h : c2 L S j
    · simp
    · unfold c2 at h; simp at h; simp [h.1]
  have e3 : wSt (flg L S N R j) (df S j) (pd S j) = df S j := by
    unfold wSt flg; rw [fv_z128]
    cases h : c2 L S j
    · simp
    · unfold c2 at h; simp at h; simp [h.2]
  have e4 : wN (flg L S N R j) (gt N j) = gt N j := by
    unfold wN flg; rw [fv_z8]
    cases h : c3 N j
    · simp
    · unfold c3 at h; simp at h; simp [h]
  have e5 : ∀ T, wA (flg L S N R j) T 0 = T := by intro T; unfold wA flg; rw [fv_l4]; simp
  have e6 : wAn (flg L S N R j) 0 (gt N j) = gt N j := by
    unfold wAn; rw [e4]; unfold flg; rw [fv_l4]; simp
  unfold placed
  rw [e1, e2, e3, e4, e5, e6]
  unfold df
  rw [wrap_back _ _ hL.1 hL.2, wrap_back _ _ hS.1 hS.2]
  rfl

theorem rc_len (L S N R : List Int) (j : Nat) : 1 ≤ (rc L S N R j).length := by unfold rc hdr; simp
theorem seg_len (b : Bool) (x : Int) (h0 : 0 ≤ x) (h1 : x < 18446744073709551616) : (seg b x).length ≤ 10 := by
  unfold seg
  split
  · exact (enc_len x h0 h1).2
  · simp
theorem rc_le (L S N R : List Int) (j : Nat) : (rc L S N R j).length ≤ 61 := by
  have hl := df_bd L j
  have hs := df_bd S j
  have z1 := zig_bd (df L j) hl.1 hl.2
  have z2 := zig_bd (df S j) hs.1 hs.2
  unfold rc hdr
  have a1 := seg_len (z64 (flg L S N R j)) (gt R j % 18446744073709551616) (by omega) (by omega)
  have a2 := seg_len (z128 (flg L S N R j)) (zig (df L j)) z1.1 z1.2
  have a3 := seg_len (z128 (flg L S N R j)) (zig (df S j)) z2.1 z2.2
  have a4 := seg_len (z8 (flg L S N R j)) (gt N j % 4294967296) (by omega) (by omega)
  have a5 := seg_len (l4 (flg L S N R j)) 0 (by omega) (by omega)
  have a6 := seg_len (l4 (flg L S N R j) && z8 (flg L S N R j)) (0 % 4294967296) (by omega) (by omega)
  simp only [List.length_append, List.length_cons, List.length_nil]
  omega
theorem rcs_le (L S N R : List Int) (j : Nat) : (rcs L S N R j).length ≤ 61 * j := by
  induction j with
  | zero => simp [rcs]
  | succ j ih => simp only [rcs, List.length_append]; have := rc_le L S N R j; omega
theorem rng_rc (L S N R : List Int) (j : Nat) : Rng (rc L S N R j) := by
  have hl := df_bd L j
  have hs := df_bd S j
  have hf := fv_bd (c1 R j) (c2 L S j) (c3 N j)
  exact rng_hdr hf.1 hf.2 hl.1 hl.2 hs.1 hs.2 (by omega) (by omega)
theorem rng_rcs (L S N R : List Int) (j : Nat) : Rng (rcs L S N R j) := by
  induction j with
  | zero => intro i; simp [rcs]
  | succ j ih => exact rng_append ih (rng_rc L S N R j)
/-- the bytes of record j stand in the whole at their place -/
theorem rcs_split (L S N R : List Int) (n : Nat) : ∀ j, j < n → ∃ t, rcs L S N R n = rcs L S N R j ++ rc L S N R j ++ t := by
  induction n with
  | zero => intro j hj; omega
  | succ n ih =>
    intro j hj
    by_cases h : j = n
    · subst h; exact ⟨[], by simp [rcs]⟩
    · obtain ⟨t, ht⟩ := ih j (by omega)
      exact ⟨t ++ rc L S N R n, by simp [rcs, ht]⟩
theorem rng_drop {a : List Int} (ha : Rng a) (k : Nat) : Rng (a.drop k) := by
  intro j; rw [List.getElem?_drop]; exact ha _

/-- append to a row of the call's own: the new row is the old one, or lies in a new block; no other row turns -/
theorem wpList_append_sep {P : Program} (w : World) {ops : Array Oper} {rest : List Oper} {o : Oper} {a : Act} {Q : Exit → Act → World → Prop} (hgd : o.guard = none) (s x : Operand) (t : TypeId)
    (hop : o.op = Op.call { callee := Callee.builtin Builtin.append, args := #[s, x], argTypes := #[t, t] })
    (base : Nat) (e : TypeId) (i : TypeInfo) (z : Value) (bytes : Nat) (ht : P.underlying t = some (TypeDesc.slice e)) (hi : P.info? e = some i) (hz : i.zero = some z) (hs : i.size = 1) (hby : i.bytes = bytes) (hzc : z.cells.size = 1)
    (g k cap : Nat) (xs : List Value) (hv : a.eval s = Value.slice (some ⟨g, 0, none⟩) k cap) (hown : w.ownsRow base e 1 (Value.slice (some ⟨g, 0, none⟩) k cap) k xs)
    (ad : Addr) (m c : Nat) (news : List Value) (hx : a.eval x = Value.slice (some ad) m c) (hn : news.length = m * 1) (hm : 0 < m)
    (hnews : ∀ (j : Nat) (u : Value), news[j]? = some u → w.cell? (ad.add j) = some u) (hone : ∀ u, u ∈ news → u.oneCell' = true) (hmax : k + m ≤ maxLen) (hbytes : (k + m) * bytes ≤ 140737488355328) (hbase : base ≤ w.heap.size)
    (hk : ∀ (g' c' : Nat) (w' : World), w'.ownsRow base e 1 (Value.slice (some ⟨g', 0, none⟩) (k + m) c') (k + m) (xs ++ news) → w.grownBy w' (some g) → (g' = g ∨ w.heap.size ≤ g') → wpList P ops Q rest (a.put o.dst (Value.slice (some ⟨g', 0, none⟩) (k + m) c')) w') :
    wpList P ops Q (o :: rest) a w := by
  by_cases hroom : k + m ≤ cap
  · refine wpList_append_fits w hgd s x t hop base e i 1 ht hi hs g k cap xs hv hown ad m c news hx hn hnews hone hroom ?_
    intro w' ho' hg'
    exact hk g cap w' ho' hg' (.inl rfl)
  · refine wpList_append_grows w hgd s x t hop e i z 1 bytes ht hi hz hs hby hzc (by omega) (some ⟨g, 0, none⟩) k cap xs hv (fun h => by cases h) hown.1 ?_ ad m c news hx hn hnews hone (by omega) hmax hbytes ?_
    · intro b hb j u hj
      cases hb
      exact hown.cells rfl j u hj
    · intro v' w' ho' hg'
      obtain ⟨g', c', rfl, hge, hlt⟩ := own_shape ho' (by omega)
      refine hk g' c' w' ⟨ho'.1, ?_⟩ ⟨hg'.os, hg'.tape, hg'.output, hg'.size, fun b hb _ => hg'.block b hb (by simp)⟩ (.inr hge)
      rcases ho'.2 with ⟨h, _⟩ | ⟨g2, cap2, cur, h, h2, h3⟩
      · cases h
      · cases h
        exact .inr ⟨g', c', cur, rfl, by omega, h3⟩
end Go.Proofs.Qxb6000020a
