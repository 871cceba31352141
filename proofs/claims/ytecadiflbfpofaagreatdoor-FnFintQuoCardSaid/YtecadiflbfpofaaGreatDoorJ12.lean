/- The contracts of govalues' decimals: IsZero, MinScale, IsInt. -/
import Derived.Test.YtecadiflbfpofaaGreatDoorJ5
import Derived.Test.YtecadiflbfpofaaGreatDoorJ11
namespace Go.Proofs.YtecadiflbfpofaaGreatDoor
open Go.RowKit

theorem box1 (w : World) (c1 : Array Value) (T1 : TypeId) : ∀ g, g = w.heap.size → ∀ w1, w.alloc (.cells c1 T1) = w1 → w1.heap[g]? = some (.cells c1 T1 (0, 0)) ∧ Fresh w w1 := by
  rintro g rfl w1 rfl
  exact ⟨heap_alloc_new w _, (Keep.refl _ _).alloc _⟩

end Go.Proofs.YtecadiflbfpofaaGreatDoor
