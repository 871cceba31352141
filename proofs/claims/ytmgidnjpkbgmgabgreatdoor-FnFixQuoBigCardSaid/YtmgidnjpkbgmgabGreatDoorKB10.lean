/- A region that draws its order, of which m operations may come up in many orders (allocations among them): shown by one condition on what is listed, on the slots that they fill and on the world. -/
import Derived.Test.YtmgidnjpkbgmgabGreatDoorKB4
import Derived.Test.YtmgidnjpkbgmgabGreatDoorKB9
namespace Go.Proofs.YtmgidnjpkbgmgabGreatDoor
open Go.RowKit

theorem row3 {w : World} {g : Nat} {a b c x y z : Value} {T : TypeId} (h : w.heap[g]? = some (.cells #[a, b, c] T (0, 0))) :
    (((w.setCell ⟨g, 0, none⟩ x).setCell ⟨g, 1, none⟩ y).setCell ⟨g, 2, none⟩ z).heap[g]? = some (.cells #[x, y, z] T (0, 0)) := row_set (row_set (row_set h))

theorem SFr.set3 {w : World} {g : Nat} {x u : Value} {z : Int} {d : Nat} (h : SFr w x z d) (hc : w.cell? ⟨g, 0, none⟩ = some u) (hu : ∀ n, u ≠ wd .u32 n) (v1 v2 v3 : Value) :
    SFr (((w.setCell ⟨g, 0, none⟩ v1).setCell ⟨g, 1, none⟩ v2).setCell ⟨g, 2, none⟩ v3) x z d := by
  obtain ⟨neg, v, l, dv, dl, h1, h2, h3, h4, h5, h6, h7⟩ := h
  have o1 := h2.off hc hu
  have o2 := h6.off hc hu
  exact ⟨neg, v, l, dv, dl, h1, ((h2.setOff o1).setOff o1).setOff o1, h3, h4, h5, ((h6.setOff o2).setOff o2).setOff o2, h7⟩

section
variable {P : Program} {ops : Array Oper} {Q : Exit → Act → World → Prop} {md : Region.Mode}

end
end Go.Proofs.YtmgidnjpkbgmgabGreatDoor
