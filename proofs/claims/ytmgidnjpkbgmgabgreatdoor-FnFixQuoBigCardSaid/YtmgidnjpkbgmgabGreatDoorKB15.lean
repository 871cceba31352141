/- Faults: the variable of the fault 'overflow', errors.New; and signs of decimals that are 0. -/
import Derived.Test.YtmgidnjpkbgmgabGreatDoorKB6
import Derived.Test.YtmgidnjpkbgmgabGreatDoorKB12
namespace Go.Proofs.YtmgidnjpkbgmgabGreatDoor
open Go Go.ChangeShapes Go.WideShapes Go.ChangeAt Go.RowKit Go.Lib Go.Joins

/-- the variable of the fault 'overflow' holds an error -/
def ErrIs (w : World) : Prop := ∃ a : Addr, w.cell? ⟨1, 0, none⟩ = some (.iface 121 (.pointer (some a)))

theorem ErrIs.fresh {w w' : World} (h : ErrIs w) (hk : Fresh w w') : ErrIs w' := by
  obtain ⟨a, h⟩ := h
  exact ⟨a, cell_fresh h hk⟩

/-- the call returns a fault -/
def ERet (w : World) (e : Ending) (w' : World) : Prop := ∃ a : Addr, e = .returned (.iface 121 (.pointer (some a))) ∧ Fresh w w'

set_option maxRecDepth 20000 in
theorem errorsNew_any (s : ByteArray) (w : World) : Calls Tryz.prog 75 #[.string s] w (ERet w) := by
  go_enter Tryz.func75, Tryz.ntmps75
  go_wp2
  go_ret
  exact ⟨_, rfl, (Keep.refl _ _).alloc _⟩

/-- what Clamp tells when the bounds stand the wrong way -/
def ClampErr (w : World) (e : Ending) (w' : World) : Prop := ∃ a : Addr, e = .returned (.tuple #[gd false 0 0, .iface 121 (.pointer (some a))]) ∧ Fresh w w'

theorem zfix_canon (n : Bool) (c : Nat) : zfix (n && decide (0 < c)) c = zfix n c := by
  rcases Nat.eq_zero_or_pos c with h | h
  · subst h; cases n <;> rfl
  · have : decide (0 < c) = true := by simp; omega
    rw [this, Bool.and_true]

theorem canon_pos {n : Bool} {c : Nat} (h : (n && decide (0 < c)) = true) : 0 < c := by
  rw [Bool.and_eq_true] at h; simpa using h.2

end Go.Proofs.YtmgidnjpkbgmgabGreatDoor
