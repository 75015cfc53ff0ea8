/-
  Rows of turns in memory: a block that holds the turns Q, four cells each.
-/
import Derived.Test.Qxb6000020aBefore
namespace Go.Proofs.Qxb6000020a
open Go.RowKit Heap
set_option linter.unusedVariables false

def cell4 (t : Tn) : List Value := [.int .i64 t.1, .int .i32 t.2.1, .int .i64 t.2.2.1, .int .i64 t.2.2.2]
def flat (Q : List Tn) : List Value := Q.flatMap cell4
def RowT (w : World) (g e : Nat) (Q : List Tn) : Prop := w.heap[g]? = some (.cells (flat Q).toArray e (0, 0))

theorem flat_len (Q : List Tn) : (flat Q).length = 4 * Q.length := by
  induction Q with
  | nil => rfl
  | cons t Q ih => simp only [flat, List.flatMap_cons, List.length_append, List.length_cons] at *; simp only [cell4, List.length_cons, List.length_nil]; omega
theorem flat_get (Q : List Tn) : ∀ i f, i < Q.length → f < 4 → (flat Q)[i * 4 + f]? = (cell4 (ix Q i))[f]? := by
  induction Q with
  | nil => intro i f h; simp at h
  | cons t Q ih =>
    intro i f hi hf
    have e : flat (t :: Q) = cell4 t ++ flat Q := rfl
    have hl : (cell4 t).length = 4 := rfl
    rw [e]
    cases i with
    | zero =>
      rw [List.getElem?_append_left (by rw [hl]; omega)]
      simp [ix]
    | succ i =>
      rw [List.getElem?_append_right (by rw [hl]; omega), hl, show (i + 1) * 4 + f - 4 = i * 4 + f from by omega]
      simp only [List.length_cons] at hi
      rw [ih i f (by omega) hf]
      simp [ix]
theorem rowT_cell {w : World} {g e : Nat} {Q : List Tn} (h : RowT w g e Q) (o : Nat) : w.cell? ⟨g, o, none⟩ = (flat Q)[o]? := by
  unfold RowT at h
  simp [World.cell?, h]
theorem rowT_at {w : World} {g e : Nat} {Q : List Tn} (h : RowT w g e Q) (i : Nat) (hi : i < Q.length) : At w g (i * 4) (ix Q i) := by
  refine ⟨?_, ?_, ?_, ?_⟩
  · rw [rowT_cell h]; have := flat_get Q i 0 hi (by omega); rw [Nat.add_zero] at this; rw [this]; rfl
  · rw [rowT_cell h]; have := flat_get Q i 1 hi (by omega); rw [this]; rfl
  · rw [rowT_cell h]; have := flat_get Q i 2 hi (by omega); rw [this]; rfl
  · rw [rowT_cell h]; have := flat_get Q i 3 hi (by omega); rw [this]; rfl
theorem rowT_frozen {w : World} {g e : Nat} {Q : List Tn} (h : RowT w g e Q) (o : Nat) : w.frozen? ⟨g, o, none⟩ = false := by
  unfold RowT at h
  simp [World.frozen?, h]
theorem rowT_lt {w : World} {g e : Nat} {Q : List Tn} (h : RowT w g e Q) : g < w.heap.size := lt_of_block h
theorem rowT_below {w w' : World} {g e : Nat} {Q : List Tn} (h : RowT w g e Q) (hb : Below w.heap.size w w') : RowT w' g e Q := by
  unfold RowT; rw [hb.block g (rowT_lt h)]; exact h
theorem rowT_kept {w w' : World} {g e : Nat} {Q : List Tn} {r : Option Nat} (h : RowT w g e Q) (hb : w.grownBy w' r) (hr : some g ≠ r) : RowT w' g e Q := by
  unfold RowT; rw [hb.block g (rowT_lt h) hr]; exact h
theorem at_kept {w w' : World} {g o : Nat} {t : Tn} {r : Option Nat} (h : At w g o t) (hb : w.grownBy w' r) (hr : some g ≠ r) : At w' g o t := by
  have hl : g < w.heap.size := block_lt_of_cell h.1
  have e : ∀ o, w'.cell? ⟨g, o, none⟩ = w.cell? ⟨g, o, none⟩ := fun o => World.cell?_of_block (hb.block g hl hr)
  exact ⟨by rw [e]; exact h.1, by rw [e]; exact h.2.1, by rw [e]; exact h.2.2.1, by rw [e]; exact h.2.2.2⟩
theorem at_below {w w' : World} {g o : Nat} {t : Tn} (h : At w g o t) (hb : Below w.heap.size w w') : At w' g o t := by
  have hl : g < w.heap.size := block_lt_of_cell h.1
  have e : ∀ o, w'.cell? ⟨g, o, none⟩ = w.cell? ⟨g, o, none⟩ := fun o => hb.cell (p := ⟨g, o, none⟩) hl
  exact ⟨by rw [e]; exact h.1, by rw [e]; exact h.2.1, by rw [e]; exact h.2.2.1, by rw [e]; exact h.2.2.2⟩
theorem grown_of_below {w w' : World} (hb : Below w.heap.size w w') (r : Option Nat) : w.grownBy w' r := ⟨hb.os, hb.tape, hb.output, hb.size, fun k hk _ => hb.block k hk⟩
theorem grown_trans {a b c : World} {r : Option Nat} (h : a.grownBy b r) (k : b.grownBy c r) : a.grownBy c r :=
  ⟨k.os.trans h.os, k.tape.trans h.tape, k.output.trans h.output, Nat.le_trans h.size k.size, fun i hi hr => by have := h.size; rw [k.block i (by omega) hr, h.block i hi hr]⟩

theorem heap_setCell (w : World) (g o : Nat) (v : Value) (c : Array Value) (e : TypeId) (h : w.heap[g]? = some (.cells c e (0, 0))) : (w.setCell ⟨g, o, none⟩ v).heap[g]? = some (.cells (c.setIfInBounds o v) e (0, 0)) := by
  simp [World.setCell, Array.getElem?_modify, h]
theorem grown_setCell (w : World) (g o : Nat) (v : Value) : w.grownBy (w.setCell ⟨g, o, none⟩ v) (some g) :=
  ⟨rfl, rfl, rfl, by simp [World.setCell], fun k _ hk => Below.heap_setCell _ _ _ _ (fun e => hk (by rw [e]))⟩
theorem grown_store (w : World) (g o : Nat) (v0 v1 v2 v3 : Value) : w.grownBy ((((w.setCell ⟨g, o, none⟩ v0).setCell ⟨g, o + 1, none⟩ v1).setCell ⟨g, o + 2, none⟩ v2).setCell ⟨g, o + 3, none⟩ v3) (some g) :=
  grown_trans (grown_trans (grown_trans (grown_setCell w g o v0) (grown_setCell _ _ _ _)) (grown_setCell _ _ _ _)) (grown_setCell _ _ _ _)
theorem flat_set (Q : List Tn) : ∀ (i : Nat) (t : Tn), i < Q.length → (((((flat Q).set (i * 4) (.int .i64 t.1)).set (i * 4 + 1) (.int .i32 t.2.1)).set (i * 4 + 2) (.int .i64 t.2.2.1)).set (i * 4 + 3) (.int .i64 t.2.2.2)) = flat (Q.set i t) := by
  induction Q with
  | nil => intro i t h; simp at h
  | cons x Q ih =>
    intro i t hi
    have e : flat (x :: Q) = .int .i64 x.1 :: .int .i32 x.2.1 :: .int .i64 x.2.2.1 :: .int .i64 x.2.2.2 :: flat Q := rfl
    rw [e]
    cases i with
    | zero => rfl
    | succ i =>
      simp only [List.length_cons] at hi
      have e2 : flat ((x :: Q).set (i + 1) t) = .int .i64 x.1 :: .int .i32 x.2.1 :: .int .i64 x.2.2.1 :: .int .i64 x.2.2.2 :: flat (Q.set i t) := rfl
      rw [e2, ← ih i t (by omega)]
      rw [show (i + 1) * 4 = i * 4 + 1 + 1 + 1 + 1 from by omega]
      simp only [Nat.add_right_comm (i * 4) 1 2, List.set_cons_succ]
theorem rowT_store {w : World} {g e : Nat} {Q : List Tn} (h : RowT w g e Q) (i : Nat) (hi : i < Q.length) {s n r u : Int} :
    RowT ((((w.setCell ⟨g, i * 4, none⟩ (.int .i64 s)).setCell ⟨g, i * 4 + 1, none⟩ (.int .i32 n)).setCell ⟨g, i * 4 + 2, none⟩ (.int .i64 r)).setCell ⟨g, i * 4 + 3, none⟩ (.int .i64 u)) g e (Q.set i (s, n, r, u)) := by
  unfold RowT at h ⊢
  rw [heap_setCell _ _ _ _ _ _ (heap_setCell _ _ _ _ _ _ (heap_setCell _ _ _ _ _ _ (heap_setCell _ _ _ _ _ _ h)))]
  rw [← flat_set Q i (s, n, r, u) hi]
  simp

/-- before, in every world that has kept the old blocks -/
theorem before_at {w : World} {g1 o1 g2 o2 : Nat} {t1 t2 : Tn} (h1 : At w g1 o1 t1) (h2 : At w g2 o2 t2) : ∀ W, Below w.heap.size w W →
    Calls Try.prog 39 #[.pointer (some ⟨g1, o1, none⟩), .pointer (some ⟨g2, o2, none⟩)] W fun e w' => e = .returned (.bool (lt t1 t2)) ∧ Below w.heap.size w w' := by
  intro W hW
  obtain ⟨s1, n1, r1, u1⟩ := t1
  obtain ⟨s2, n2, r2, u2⟩ := t2
  refine (before_any g1 o1 g2 o2 s1 n1 r1 u1 s2 n2 r2 u2 W (at_below h1 hW) (at_below h2 hW)).mono ?_
  rintro e w' ⟨rfl, hb⟩
  exact ⟨rfl, hW.trans (hb.mono hW.size)⟩
end Go.Proofs.Qxb6000020a
