/-
  Four rows of integers side by side, read as one row of turns.
-/
import Derived.Test.Qxb6000020aRowT
namespace Go.Proofs.Qxb6000020a
open Go.RowKit Heap
set_option linter.unusedVariables false

def RowI (w : World) (b e : Nat) (k : IntKind) (L : List Int) : Prop := w.heap[b]? = some (.cells (L.map (Value.int k)).toArray e (0, 0))
theorem rowI_lt {w : World} {b e : Nat} {k : IntKind} {L : List Int} (h : RowI w b e k L) : b < w.heap.size := lt_of_block h
theorem rowI_cell {w : World} {b e : Nat} {k : IntKind} {L : List Int} (h : RowI w b e k L) (j : Nat) (hj : j < L.length) : w.cell? ⟨b, j, none⟩ = some (.int k (L[j]?.getD 0)) := by
  unfold RowI at h
  simp [World.cell?, h, hj]
theorem rowI_frozen {w : World} {b e : Nat} {k : IntKind} {L : List Int} (h : RowI w b e k L) (j : Nat) : w.frozen? ⟨b, j, none⟩ = false := by
  unfold RowI at h
  simp [World.frozen?, h]
theorem rowI_set {w : World} {b e : Nat} {k : IntKind} {L : List Int} (h : RowI w b e k L) (j : Nat) (v : Int) : RowI (w.setCell ⟨b, j, none⟩ (.int k v)) b e k (L.set j v) := by
  unfold RowI at h ⊢
  rw [heap_setCell _ _ _ _ _ _ h]
  simp [List.map_set]
theorem rowI_other {w : World} {b e b' j : Nat} {k : IntKind} {L : List Int} (h : RowI w b e k L) (hne : b ≠ b') (v : Value) : RowI (w.setCell ⟨b', j, none⟩ v) b e k L := by
  unfold RowI at h ⊢
  rw [Below.heap_setCell _ _ _ _ hne]; exact h
theorem rowT_other {w : World} {g e b' j : Nat} {Q : List Tn} (h : RowT w g e Q) (hne : g ≠ b') (v : Value) : RowT (w.setCell ⟨b', j, none⟩ v) g e Q := by
  unfold RowT at h ⊢
  rw [Below.heap_setCell _ _ _ _ hne]; exact h
theorem rowI_below {w w' : World} {b e : Nat} {k : IntKind} {L : List Int} (h : RowI w b e k L) (hb : Below w.heap.size w w') : RowI w' b e k L := by
  unfold RowI; rw [hb.block b (rowI_lt h)]; exact h
theorem rowI_kept {w w' : World} {b e : Nat} {k : IntKind} {L : List Int} {r : Option Nat} (h : RowI w b e k L) (hb : w.grownBy w' r) (hr : some b ≠ r) : RowI w' b e k L := by
  unfold RowI; rw [hb.block b (rowI_lt h) hr]; exact h

/-- the blocks of the four rows, no two the same -/
def Apart4 (bS bN bK bU : Nat) : Prop := bS ≠ bN ∧ bS ≠ bK ∧ bS ≠ bU ∧ bN ≠ bK ∧ bN ≠ bU ∧ bK ≠ bU
def Four (w : World) (bS bN bK bU : Nat) (Q : List Tn) : Prop :=
  RowI w bS 2 .i64 (Q.map (·.1)) ∧ RowI w bN 21 .i32 (Q.map (·.2.1)) ∧ RowI w bK 3 .i64 (Q.map (·.2.2.1)) ∧ RowI w bU 3 .i64 (Q.map (·.2.2.2))
theorem ix1 (Q : List Tn) (j : Nat) (h : j < Q.length) : (Q.map (·.1))[j]?.getD 0 = (ix Q j).1 := by unfold ix; simp [h]
theorem ix2 (Q : List Tn) (j : Nat) (h : j < Q.length) : (Q.map (·.2.1))[j]?.getD 0 = (ix Q j).2.1 := by unfold ix; simp [h]
theorem ix3 (Q : List Tn) (j : Nat) (h : j < Q.length) : (Q.map (·.2.2.1))[j]?.getD 0 = (ix Q j).2.2.1 := by unfold ix; simp [h]
theorem ix4 (Q : List Tn) (j : Nat) (h : j < Q.length) : (Q.map (·.2.2.2))[j]?.getD 0 = (ix Q j).2.2.2 := by unfold ix; simp [h]

/-- one turn, over the four rows -/
def At4 (w : World) (bS bN bK bU j : Nat) (s n k u : Int) : Prop :=
  w.cell? ⟨bS, j, none⟩ = some (.int .i64 s) ∧ w.cell? ⟨bN, j, none⟩ = some (.int .i32 n) ∧ w.cell? ⟨bK, j, none⟩ = some (.int .i64 k) ∧ w.cell? ⟨bU, j, none⟩ = some (.int .i64 u)
theorem four_at {w : World} {bS bN bK bU : Nat} {Q : List Tn} (h : Four w bS bN bK bU Q) (j : Nat) (hj : j < Q.length) : At4 w bS bN bK bU j (ix Q j).1 (ix Q j).2.1 (ix Q j).2.2.1 (ix Q j).2.2.2 :=
  ⟨by rw [rowI_cell h.1 j (by simpa using hj), ix1 Q j hj], by rw [rowI_cell h.2.1 j (by simpa using hj), ix2 Q j hj], by rw [rowI_cell h.2.2.1 j (by simpa using hj), ix3 Q j hj], by rw [rowI_cell h.2.2.2 j (by simpa using hj), ix4 Q j hj]⟩
theorem four_below {w w' : World} {bS bN bK bU : Nat} {Q : List Tn} (h : Four w bS bN bK bU Q) (hb : Below w.heap.size w w') : Four w' bS bN bK bU Q :=
  ⟨rowI_below h.1 hb, rowI_below h.2.1 hb, rowI_below h.2.2.1 hb, rowI_below h.2.2.2 hb⟩
theorem four_kept {w w' : World} {bS bN bK bU : Nat} {Q : List Tn} {r : Option Nat} (h : Four w bS bN bK bU Q) (hb : w.grownBy w' r) (h1 : some bS ≠ r) (h2 : some bN ≠ r) (h3 : some bK ≠ r) (h4 : some bU ≠ r) : Four w' bS bN bK bU Q :=
  ⟨rowI_kept h.1 hb h1, rowI_kept h.2.1 hb h2, rowI_kept h.2.2.1 hb h3, rowI_kept h.2.2.2 hb h4⟩
theorem four_lt {w : World} {bS bN bK bU : Nat} {Q : List Tn} (h : Four w bS bN bK bU Q) : bS < w.heap.size ∧ bN < w.heap.size ∧ bK < w.heap.size ∧ bU < w.heap.size :=
  ⟨rowI_lt h.1, rowI_lt h.2.1, rowI_lt h.2.2.1, rowI_lt h.2.2.2⟩
theorem four_store {w : World} {bS bN bK bU : Nat} {Q : List Tn} (h : Four w bS bN bK bU Q) (ap : Apart4 bS bN bK bU) (j : Nat) {s n k u : Int} :
    Four ((((w.setCell ⟨bS, j, none⟩ (.int .i64 s)).setCell ⟨bN, j, none⟩ (.int .i32 n)).setCell ⟨bK, j, none⟩ (.int .i64 k)).setCell ⟨bU, j, none⟩ (.int .i64 u)) bS bN bK bU (Q.set j (s, n, k, u)) := by
  obtain ⟨a1, a2, a3, a4, a5, a6⟩ := ap
  refine ⟨?_, ?_, ?_, ?_⟩
  · rw [List.map_set]; exact rowI_other (rowI_other (rowI_other (rowI_set h.1 j s) a1 _) a2 _) a3 _
  · rw [List.map_set]; exact rowI_other (rowI_other (rowI_set (rowI_other h.2.1 (Ne.symm a1) _) j n) a4 _) a5 _
  · rw [List.map_set]; exact rowI_other (rowI_set (rowI_other (rowI_other h.2.2.1 (Ne.symm a2) _) (Ne.symm a4) _) j k) a6 _
  · rw [List.map_set]; exact rowI_set (rowI_other (rowI_other (rowI_other h.2.2.2 (Ne.symm a3) _) (Ne.symm a5) _) (Ne.symm a6) _) j u

/-- nothing below has turned but the four rows -/
structure Kept4 (bS bN bK bU B : Nat) (w w' : World) : Prop where
  os : w'.os = w.os
  tape : w'.tape = w.tape
  output : w'.output = w.output
  size : w.heap.size ≤ w'.heap.size
  block : ∀ k, k < B → k ≠ bS → k ≠ bN → k ≠ bK → k ≠ bU → w'.heap[k]? = w.heap[k]?
theorem Kept4.refl (bS bN bK bU B : Nat) (w : World) : Kept4 bS bN bK bU B w w := ⟨rfl, rfl, rfl, Nat.le_refl _, fun _ _ _ _ _ _ => rfl⟩
theorem Kept4.trans {bS bN bK bU B : Nat} {a b c : World} (h : Kept4 bS bN bK bU B a b) (k : Kept4 bS bN bK bU B b c) : Kept4 bS bN bK bU B a c :=
  ⟨k.os.trans h.os, k.tape.trans h.tape, k.output.trans h.output, Nat.le_trans h.size k.size, fun i hi h1 h2 h3 h4 => (k.block i hi h1 h2 h3 h4).trans (h.block i hi h1 h2 h3 h4)⟩
theorem Kept4.of_below {bS bN bK bU B : Nat} {w w' : World} (h : Below B w w') : Kept4 bS bN bK bU B w w' := ⟨h.os, h.tape, h.output, h.size, fun k hk _ _ _ _ => h.block k hk⟩
theorem Kept4.of_grown {bS bN bK bU B g : Nat} {w w' : World} (h : w.grownBy w' (some g)) (hB : B ≤ w.heap.size) (hg : B ≤ g) : Kept4 bS bN bK bU B w w' :=
  ⟨h.os, h.tape, h.output, h.size, fun k hk _ _ _ _ => h.block k (by omega) (by simp; omega)⟩
theorem Kept4.mono {bS bN bK bU B B' : Nat} {w w' : World} (h : Kept4 bS bN bK bU B w w') (hB : B' ≤ B) : Kept4 bS bN bK bU B' w w' := ⟨h.os, h.tape, h.output, h.size, fun k hk => h.block k (by omega)⟩
theorem kept4_store (bS bN bK bU B j : Nat) (w : World) (v0 v1 v2 v3 : Value) : Kept4 bS bN bK bU B w ((((w.setCell ⟨bS, j, none⟩ v0).setCell ⟨bN, j, none⟩ v1).setCell ⟨bK, j, none⟩ v2).setCell ⟨bU, j, none⟩ v3) := by
  refine ⟨rfl, rfl, rfl, by simp [World.setCell], fun k _ h1 h2 h3 h4 => ?_⟩
  rw [Below.heap_setCell _ _ _ _ h4, Below.heap_setCell _ _ _ _ h3, Below.heap_setCell _ _ _ _ h2, Below.heap_setCell _ _ _ _ h1]

/-- a row of turns out of what 'make' leaves -/
theorem rowT_of_own {w : World} {B e g m : Nat} {Q : List Tn} (h : w.ownsRow B e 4 (.slice (some ⟨g, 0, none⟩) m m) m (flat Q)) : RowT w g e Q := by
  rcases h.2 with ⟨h1, _⟩ | ⟨g', cap, cur, h1, _, h2, _, _, h3, h4⟩
  · cases h1
  · cases h1
    have : cur.toList = flat Q := by
      rw [← h4, List.take_of_length_le (by simp; omega)]
    unfold RowT
    rw [h2, ← this]
theorem own_of_rowI {w : World} {B e g m : Nat} {k : IntKind} {L : List Int} (h : w.ownsRow B e 1 (.slice (some ⟨g, 0, none⟩) m m) m (L.map (Value.int k))) : RowI w g e k L := by
  rcases h.2 with ⟨h1, _⟩ | ⟨g', cap, cur, h1, _, h2, _, _, h3, h4⟩
  · cases h1
  · cases h1
    have : cur.toList = L.map (Value.int k) := by
      rw [← h4, List.take_of_length_le (by simp; omega)]
    unfold RowI
    rw [h2, ← this]

/-- what a row of turns holds when j of them are filled -/
def part (Q : List Tn) (m j : Nat) : List Tn := Q.take j ++ List.replicate (m - j) (0, 0, 0, 0)
theorem part_len (Q : List Tn) (m j : Nat) (hj : j ≤ m) (hm : m ≤ Q.length) : (part Q m j).length = m := by simp [part]; omega
theorem part_full (Q : List Tn) (m : Nat) : part Q m m = Q.take m := by simp [part]
theorem part_set (Q : List Tn) (m j : Nat) (hj : j < m) (hm : m ≤ Q.length) : (part Q m j).set j (ix Q j) = part Q m (j + 1) := by
  unfold part
  obtain ⟨d, hd⟩ : ∃ d, m - j = d + 1 := ⟨m - j - 1, by omega⟩
  have e : j - (List.take j Q).length = 0 := by simp; omega
  rw [hd, show m - (j + 1) = d from by omega, List.replicate_succ, List.set_append_right _ _ (by simp; omega), e, List.set_cons_zero, ix_get Q j (by omega), List.take_succ_eq_append_getElem (show j < Q.length by omega), List.append_assoc]
  rfl
theorem flat_zero (m : Nat) : flat (List.replicate m (0, 0, 0, 0)) = (madeCells #[.int .i64 0, .int .i32 0, .int .i64 0, .int .i64 0] (m * 4)).toList := by
  apply List.ext_getElem?
  intro o
  have hl : (flat (List.replicate m (0, 0, 0, 0))).length = 4 * m := by rw [flat_len]; simp
  by_cases ho : o < m * 4
  · have e : o = o / 4 * 4 + o % 4 := by omega
    have hi : o / 4 < (List.replicate m ((0, 0, 0, 0) : Tn)).length := by simp; omega
    have := flat_get (List.replicate m (0, 0, 0, 0)) (o / 4) (o % 4) hi (by omega)
    rw [← e] at this
    rw [this, ix_get _ _ hi]
    simp only [madeCells, List.getElem_replicate]
    have h4 : o % 4 < 4 := by omega
    simp [ho]
    match h : o % 4, h4 with
    | 0, _ => rfl
    | 1, _ => rfl
    | 2, _ => rfl
    | 3, _ => rfl
    | k + 4, h' => omega
  · rw [List.getElem?_eq_none (by omega), List.getElem?_eq_none (by simp [madeCells]; omega)]
/-- the rows while they are written back -/
def mixed (P Q : List Tn) (j : Nat) : List Tn := P.take j ++ Q.drop j
theorem mixed_set (P Q : List Tn) (j : Nat) (hj : j < P.length) (hq : P.length ≤ Q.length) : (mixed P Q j).set j (ix P j) = mixed P Q (j + 1) := by
  unfold mixed
  have e : j - (List.take j P).length = 0 := by simp; omega
  rw [List.drop_eq_getElem_cons (show j < Q.length by omega), List.set_append_right _ _ (by simp; omega), e, List.set_cons_zero, ix_get P j hj, List.take_succ_eq_append_getElem hj, List.append_assoc]
  rfl
theorem mixed_len (P Q : List Tn) (j : Nat) (hj : j ≤ P.length) (hq : P.length ≤ Q.length) : (mixed P Q j).length = Q.length := by simp [mixed]; omega
end Go.Proofs.Qxb6000020a
