/-
  What a reading of the row is, for the walk of place (38).
-/
import Derived.Test.Qxb6000020aHeader
import Derived.Test.Qxb6000020aUv
import Derived.WalkSpells
import Derived.Deep.RegionWith
import Derived.BigRegion
import Derived.ChangeAlike
namespace Go.Proofs.Qxb6000020a
open Go.ChangeShapes Go.WideShapes Go.ChangeAt Go.RowKit

/-- a varint of the row at place q reads as v, the next place t, in every world that has kept the old blocks -/
def Reads (w : World) (b off len cap : Nat) (q v : Int) (t : Nat) : Prop :=
  ∀ W, Below w.heap.size w W → Calls Try.prog 33 #[.slice (some ⟨b, off, none⟩) len cap, .int .i64 q] W fun e w' => e = .returned (.tuple #[.int .u64 v, .int .i64 t]) ∧ w' = W
end Go.Proofs.Qxb6000020a
