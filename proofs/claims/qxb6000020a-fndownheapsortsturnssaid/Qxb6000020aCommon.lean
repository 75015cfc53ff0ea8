/-
  What all walks of this seat share: slices that came in, slices that the call owns.
-/
import Derived.Test.Qxb6000020aProg
import Derived.WalkKit
import Derived.ProofKit
import Derived.OpenShut
import Derived.Below
import Derived.Maps.AppendAt
namespace Go.Proofs.Qxb6000020a
open Go.ChangeShapes Go.WideShapes Go.ChangeAt Go.RowKit

/-- a slice of integers that came in: what the walks ask of it -/
def Seen (k : IntKind) (w : World) (a : Option Addr) (len : Nat) (zs : List Int) : Prop :=
  0 < len → ∃ b off, a = some ⟨b, off, none⟩ ∧ b < w.heap.size ∧ ∀ j, j < len → w.cell? ⟨b, off + j, none⟩ = some (.int k (zs.getD j 0))

theorem seen_of {k : IntKind} {w : World} {a : Option Addr} {len cap : Nat} {zs : List Int}
    (h : (a = none ∧ len = 0 ∧ cap = 0 ∧ zs = []) ∨ ∃ x, a = some x ∧ len ≤ cap ∧ cap ≤ maxLen ∧ zs.length = cap ∧ (∀ i, i < zs.length → w.cell? (x.add i) = some (.int k (zs.getD i 0))) ∧ ∀ n ∈ zs, (Lit.int k n).wf = true) :
    Seen k w a len zs ∧ len ≤ zs.length ∧ len ≤ maxLen ∧ (a = none → len = 0) ∧ ∀ n ∈ zs, (Lit.int k n).wf = true := by
  rcases h with ⟨rfl, rfl, rfl, rfl⟩ | ⟨x, rfl, hl, hm, hz, hcell, hwz⟩
  · exact ⟨fun h => absurd h (by omega), by simp, by unfold maxLen; omega, fun _ => rfl, fun n hn => by simp at hn⟩
  · refine ⟨fun hp => ?_, by omega, by omega, fun h => by simp at h, hwz⟩
    obtain ⟨b, off, spot⟩ := x
    have hc := hcell 0 (by omega)
    have hspot : spot = none := by simpa [Addr.add] using World.cell?_spot hc
    subst hspot
    refine ⟨b, off, rfl, ?_, fun j hj => ?_⟩
    · have := block_lt_of_cell hc; simpa [Addr.add] using this
    · rw [← add_plain]; exact hcell j (by omega)

theorem own_shape {w : World} {B e : Nat} {v : Value} {n : Nat} {xs : List Value} (h : w.ownsRow B e 1 v n xs) (hn : 0 < n) : ∃ g c, v = .slice (some ⟨g, 0, none⟩) n c ∧ B ≤ g ∧ g < w.heap.size := by
  rcases h.2 with ⟨_, h0⟩ | ⟨g, cap, cur, rfl, hg, hh, _⟩
  · omega
  · exact ⟨g, cap, rfl, hg, lt_of_block hh⟩

/-- the cells of an owned row of integers -/
theorem own_cells {w : World} {B e g n c : Nat} {k : IntKind} {zs : List Int} (h : w.ownsRow B e 1 (.slice (some ⟨g, 0, none⟩) n c) n (zs.map (Value.int k))) :
    ∀ j, j < n → w.cell? ⟨g, 0 + j, none⟩ = some (.int k (zs.getD j 0)) := by
  intro j hj
  have hl : zs.length = n := by have := h.1; simpa using this
  have := h.cellAt j (by omega)
  rw [Nat.zero_add, this]
  simp [hl, hj]

theorem list_getD_map (zs : List Int) (j : Nat) (h : j < zs.length) (k : IntKind) : (zs.map (Value.int k))[j]? = some (.int k (zs.getD j 0)) := by
  simp [h]
theorem take_snoc (zs : List Int) (k : Nat) (h : k < zs.length) : zs.take (k + 1) = zs.take k ++ [zs[k]?.getD 0] := by
  rw [List.take_succ_eq_append_getElem h]; simp [h]
end Go.Proofs.Qxb6000020a
