/-
  What the walk of FnDownHeapSortsTurns (7) asks of memory.
-/
import Derived.Test.Qxb6000020aZDown
import Derived.Test.Qxb6000020aSortT
import Derived.Test.Qxb6000020aIdle
import Derived.WalkSmall
namespace Go.Proofs.Qxb6000020a
open Go.ChangeShapes Go.WideShapes Go.ChangeAt Go.RowKit Heap
set_option linter.unusedVariables false

def zip4 (zS zN zK zU : List Int) (n : Nat) : List Tn := (List.range n).map fun j => (zS[j]?.getD 0, zN[j]?.getD 0, zK[j]?.getD 0, zU[j]?.getD 0)
theorem zip4_len (zS zN zK zU : List Int) (n : Nat) : (zip4 zS zN zK zU n).length = n := by simp [zip4]
theorem take_range (z : List Int) (n : Nat) (h : n ≤ z.length) : (List.range n).map (fun j => z[j]?.getD 0) = z.take n := by
  apply List.ext_getElem?
  intro j
  by_cases hj : j < n
  · simp [hj, show j < z.length from by omega]
  · rw [List.getElem?_eq_none (by simp; omega), List.getElem?_eq_none (by simp; omega)]
theorem zip4_four {w : World} {bS bN bK bU n : Nat} {zS zN zK zU : List Int} (lS : n ≤ zS.length) (lN : n ≤ zN.length) (lK : n ≤ zK.length) (lU : n ≤ zU.length)
    (h1 : RowI w bS 2 .i64 (zS.take n)) (h2 : RowI w bN 21 .i32 (zN.take n)) (h3 : RowI w bK 3 .i64 (zK.take n)) (h4 : RowI w bU 3 .i64 (zU.take n)) : Four w bS bN bK bU (zip4 zS zN zK zU n) := by
  unfold Four zip4
  simp only [List.map_map]
  refine ⟨?_, ?_, ?_, ?_⟩
  · rw [show ((fun x : Tn => x.1) ∘ fun j => (zS[j]?.getD 0, zN[j]?.getD 0, zK[j]?.getD 0, zU[j]?.getD 0)) = fun j => zS[j]?.getD 0 from rfl, take_range zS n lS]; exact h1
  · rw [show ((fun x : Tn => x.2.1) ∘ fun j => (zS[j]?.getD 0, zN[j]?.getD 0, zK[j]?.getD 0, zU[j]?.getD 0)) = fun j => zN[j]?.getD 0 from rfl, take_range zN n lN]; exact h2
  · rw [show ((fun x : Tn => x.2.2.1) ∘ fun j => (zS[j]?.getD 0, zN[j]?.getD 0, zK[j]?.getD 0, zU[j]?.getD 0)) = fun j => zK[j]?.getD 0 from rfl, take_range zK n lK]; exact h3
  · rw [show ((fun x : Tn => x.2.2.2) ∘ fun j => (zS[j]?.getD 0, zN[j]?.getD 0, zK[j]?.getD 0, zU[j]?.getD 0)) = fun j => zU[j]?.getD 0 from rfl, take_range zU n lU]; exact h4

theorem seen_below' {k : IntKind} {w w' : World} {a : Option Addr} {len : Nat} {zs : List Int} (h : Seen k w a len zs) (hb : Below w.heap.size w w') : Seen k w' a len zs := by
  intro hp
  obtain ⟨b, off, ha, hlt, hc⟩ := h hp
  exact ⟨b, off, ha, by have := hb.size; omega, fun j hj => (hb.cell (by exact hlt)).trans (hc j hj)⟩

theorem kept4_below {bS bN bK bU B B0 : Nat} {w w' : World} (h : Kept4 bS bN bK bU B w w') (hB : B0 ≤ B) (h1 : B0 ≤ bS) (h2 : B0 ≤ bN) (h3 : B0 ≤ bK) (h4 : B0 ≤ bU) : Below B0 w w' :=
  ⟨h.os, h.tape, h.output, h.size, fun k hk => h.block k (by omega) (by omega) (by omega) (by omega) (by omega)⟩
theorem rowT_kept4 {bS bN bK bU B g e : Nat} {w w' : World} {Q : List Tn} (h : Kept4 bS bN bK bU B w w') (hr : RowT w g e Q) (hg : g < B) (h1 : g ≠ bS) (h2 : g ≠ bN) (h3 : g ≠ bK) (h4 : g ≠ bU) : RowT w' g e Q := by
  unfold RowT; rw [h.block g hg h1 h2 h3 h4]; exact hr

/-- the world behind the exchange of the turns 0 and e -/
def swpW (w : World) (bS bN bK bU e : Nat) (s0 n0 k0 u0 s1 n1 k1 u1 : Int) : World :=
  (((((((w.setCell ⟨bS, 0, none⟩ (.int .i64 s1)).setCell ⟨bS, e, none⟩ (.int .i64 s0)).setCell ⟨bN, 0, none⟩ (.int .i32 n1)).setCell ⟨bN, e, none⟩ (.int .i32 n0)).setCell ⟨bK, 0, none⟩ (.int .i64 k1)).setCell ⟨bK, e, none⟩ (.int .i64 k0)).setCell ⟨bU, 0, none⟩ (.int .i64 u1)).setCell ⟨bU, e, none⟩ (.int .i64 u0)
theorem four_swp {w : World} {bS bN bK bU : Nat} {Q : List Tn} (h : Four w bS bN bK bU Q) (ap : Apart4 bS bN bK bU) (e : Nat) {s0 n0 k0 u0 s1 n1 k1 u1 : Int} (h0 : ix Q 0 = (s0, n0, k0, u0)) (h1 : ix Q e = (s1, n1, k1, u1)) :
    Four (swpW w bS bN bK bU e s0 n0 k0 u0 s1 n1 k1 u1) bS bN bK bU (swp Q e) := by
  obtain ⟨a1, a2, a3, a4, a5, a6⟩ := ap
  unfold swp swpW
  rw [h0, h1]
  obtain ⟨r1, r2, r3, r4⟩ := h
  refine ⟨?_, ?_, ?_, ?_⟩
  · rw [List.map_set, List.map_set]
    refine rowI_other ?_ a3 _
    refine rowI_other ?_ a3 _
    refine rowI_other ?_ a2 _
    refine rowI_other ?_ a2 _
    refine rowI_other ?_ a1 _
    refine rowI_other ?_ a1 _
    exact rowI_set (rowI_set r1 0 s1) e s0
  · rw [List.map_set, List.map_set]
    refine rowI_other ?_ a5 _
    refine rowI_other ?_ a5 _
    refine rowI_other ?_ a4 _
    refine rowI_other ?_ a4 _
    refine rowI_set ?_ e n0
    refine rowI_set ?_ 0 n1
    refine rowI_other ?_ (Ne.symm a1) _
    exact rowI_other r2 (Ne.symm a1) _
  · rw [List.map_set, List.map_set]
    refine rowI_other ?_ a6 _
    refine rowI_other ?_ a6 _
    refine rowI_set ?_ e k0
    refine rowI_set ?_ 0 k1
    refine rowI_other ?_ (Ne.symm a4) _
    refine rowI_other ?_ (Ne.symm a4) _
    refine rowI_other ?_ (Ne.symm a2) _
    exact rowI_other r3 (Ne.symm a2) _
  · rw [List.map_set, List.map_set]
    refine rowI_set ?_ e u0
    refine rowI_set ?_ 0 u1
    refine rowI_other ?_ (Ne.symm a6) _
    refine rowI_other ?_ (Ne.symm a6) _
    refine rowI_other ?_ (Ne.symm a5) _
    refine rowI_other ?_ (Ne.symm a5) _
    refine rowI_other ?_ (Ne.symm a3) _
    exact rowI_other r4 (Ne.symm a3) _
theorem kept4_one {bS bN bK bU B b j : Nat} {w0 w : World} {v : Value} (h : Kept4 bS bN bK bU B w0 w) (hb : b = bS ∨ b = bN ∨ b = bK ∨ b = bU) : Kept4 bS bN bK bU B w0 (w.setCell ⟨b, j, none⟩ v) :=
  h.trans ⟨rfl, rfl, rfl, by simp [World.setCell], fun k _ h1 h2 h3 h4 => Below.heap_setCell _ _ _ _ (by show k ≠ b; omega)⟩
theorem kept4_swp (bS bN bK bU B e : Nat) (w : World) (s0 n0 k0 u0 s1 n1 k1 u1 : Int) : Kept4 bS bN bK bU B w (swpW w bS bN bK bU e s0 n0 k0 u0 s1 n1 k1 u1) := by
  unfold swpW
  refine kept4_one ?_ (by omega)
  refine kept4_one ?_ (by omega)
  refine kept4_one ?_ (by omega)
  refine kept4_one ?_ (by omega)
  refine kept4_one ?_ (by omega)
  refine kept4_one ?_ (by omega)
  refine kept4_one ?_ (by omega)
  refine kept4_one ?_ (by omega)
  exact Kept4.refl _ _ _ _ _ _
end Go.Proofs.Qxb6000020a
