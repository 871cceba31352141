/- govalues: newFromBint. -/
import Derived.Test.YtjjolcjeiogdmabGreatDoorK11
import Derived.Test.YtjjolcjeiogdmabGreatDoorK26
namespace Go.Proofs.YtjjolcjeiogdmabGreatDoor
open Go.RowKit

/-- a decimal and a fault; nothing has turned but the whole number in g and its words -/
def NBOut (w : World) (g : Nat) (v : Value) (nz : Bool) (sz cz : Nat) (Pv : Value → Prop) (e : Ending) (w' : World) : Prop :=
  ∃ ev, e = .returned (.tuple #[gd nz sz cz, ev]) ∧ Pv ev ∧ Keep (fun k => k = g ∨ v.ownBlock = some k) w w'

theorem row_keep {S : Nat → Prop} {w w' : World} {g : Nat} {o : Obj} (h : w.heap[g]? = some o) (hk : Keep S w w') (hs : ¬ S g) : w'.heap[g]? = some o := by
  have hlt : g < w.heap.size := by
    rcases Nat.lt_or_ge g w.heap.size with hlt | hge
    · exact hlt
    · rw [Array.getElem?_eq_none hge] at h; cases h
  exact (hk.block g hlt hs).trans h

theorem row_lt {w : World} {g : Nat} {o : Obj} (h : w.heap[g]? = some o) : g < w.heap.size := by
  rcases Nat.lt_or_ge g w.heap.size with hlt | hge
  · exact hlt
  · rw [Array.getElem?_eq_none hge] at h; cases h

theorem Keep.set3 {S : Nat → Prop} {w w1 : World} {g : Nat} {o1 o2 o3 : Nat} {v1 v2 v3 : Value} (h : Keep S w w1) (hg : w.heap.size ≤ g) : Keep S w (((w1.setCell ⟨g, o1, none⟩ v1).setCell ⟨g, o2, none⟩ v2).setCell ⟨g, o3, none⟩ v3) :=
  ((h.setCell (fun h => absurd h (by show ¬ g < w.heap.size; omega)) _).setCell (fun h => absurd h (by show ¬ g < w.heap.size; omega)) _).setCell (fun h => absurd h (by show ¬ g < w.heap.size; omega)) _

theorem overflowError_any (a b c : Int) (w : World) : Calls Tryz.prog 74 #[.int .i64 a, .int .i64 b, .int .i64 c] w (ERet w) := by
  go_enter Tryz.func74, Tryz.ntmps74
  go_wp2_with (fail)
  refine (errorsNew_any _ _).mono ?_
  rintro e w2 ⟨ae, rfl, hf⟩
  have H_hf := Lib.hid hf; clear hf
  go_wp2
  go_ret
  exact ⟨ae, rfl, H_hf.out⟩

end Go.Proofs.YtjjolcjeiogdmabGreatDoor
