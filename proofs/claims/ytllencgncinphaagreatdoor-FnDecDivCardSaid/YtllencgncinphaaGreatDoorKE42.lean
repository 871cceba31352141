/- big: Int.QuoRem by a number of one word. -/
import Derived.Test.YtllencgncinphaaGreatDoorKE9
import Derived.Test.YtllencgncinphaaGreatDoorKE25
import Derived.Test.YtllencgncinphaaGreatDoorKE32
namespace Go.Proofs.YtllencgncinphaaGreatDoor
open Go.RowKit
open Go.Lib (hid)

section
variable {P : Program} {ops : Array Oper} {Q : Exit → Act → World → Prop} {md : Region.Mode} {S : World → Prop} {s : Nat}

end

theorem StrAt.setFar {w : World} {b o : Nat} {neg : Bool} {v : Value} (h : StrAt w b o neg v) {b' : Nat} (hne : b ≠ b') (o' : Nat) (u : Value) : StrAt (w.setCell ⟨b', o', none⟩ u) b o neg v :=
 h.keep (Keep.setCell (S := fun k => k = b') (Keep.refl _ w) (fun _ => rfl) u) hne

structure QS (w V : World) (bz br bx bY : Nat) (vz vr a b qv rv : Value) (lq lr : List Nat) : Prop where
 z : StrAt V bz 0 false a
 r : StrAt V br 0 false b
 x : V.cell? ⟨bx, 0, none⟩ = some (.bool false)
 y : V.cell? ⟨bY, 0, none⟩ = some (.bool false)
 q : NatAt V qv lq
 t : NatAt V rv lr
 k : Keep (fun k => k = bz ∨ k = br ∨ vz.ownBlock = some k ∨ vr.ownBlock = some k) w V

section
variable {w V : World} {bz br bx bY : Nat} {vz vr a b qv rv : Value} {lq lr : List Nat}

theorem QS.drew (h : QS w V bz br bx bY vz vr a b qv rv lq lr) : QS w V.drew bz br bx bY vz vr a b qv rv lq lr :=
 ⟨h.z.drew, h.r.drew, h.x, h.y, h.q.drew, h.t.drew, h.k.drew⟩

theorem QS.z1 (h : QS w V bz br bx bY vz vr a b qv rv lq lr) (hne : bz ≠ br) (hq : ∀ k, qv.ownBlock = some k → k ≠ bz ∧ k ≠ br) (hr : ∀ k, rv.ownBlock = some k → k ≠ bz ∧ k ≠ br) (u : Value) :
 QS w (V.setCell ⟨bz, 1, none⟩ u) bz br bx bY vz vr u b qv rv lq lr :=
 ⟨h.z.set1 u, h.r.setFar (Ne.symm hne) 1 u, (cell?_setCell_ne (by right; simp)).trans h.x, (cell?_setCell_ne (by right; simp)).trans h.y,
  setCell_natAt h.q (fun g hg => Ne.symm (hq g hg).1) u, setCell_natAt h.t (fun g hg => Ne.symm (hr g hg).1) u, h.k.setCell (fun _ => .inl rfl) u⟩

theorem QS.r1 (h : QS w V bz br bx bY vz vr a b qv rv lq lr) (hne : bz ≠ br) (hq : ∀ k, qv.ownBlock = some k → k ≠ bz ∧ k ≠ br) (hr : ∀ k, rv.ownBlock = some k → k ≠ bz ∧ k ≠ br) (u : Value) :
 QS w (V.setCell ⟨br, 1, none⟩ u) bz br bx bY vz vr a u qv rv lq lr :=
 ⟨h.z.setFar hne 1 u, h.r.set1 u, (cell?_setCell_ne (by right; simp)).trans h.x, (cell?_setCell_ne (by right; simp)).trans h.y,
  setCell_natAt h.q (fun g hg => Ne.symm (hq g hg).2) u, setCell_natAt h.t (fun g hg => Ne.symm (hr g hg).2) u, h.k.setCell (fun _ => .inr (.inl rfl)) u⟩

theorem cell0_set {V : World} {b b' : Nat} (h : V.cell? ⟨b, 0, none⟩ = some (.bool false)) : (V.setCell ⟨b', 0, none⟩ (.bool false)).cell? ⟨b, 0, none⟩ = some (.bool false) := by
 by_cases e : b = b'
 · subst e; exact cell?_setCell_eq rfl (by rw [h]; rfl)
 · exact (cell?_setCell_ne (.inl e)).trans h

theorem QS.z0 (h : QS w V bz br bx bY vz vr a b qv rv lq lr) (hne : bz ≠ br) (hq : ∀ k, qv.ownBlock = some k → k ≠ bz ∧ k ≠ br) (hr : ∀ k, rv.ownBlock = some k → k ≠ bz ∧ k ≠ br) :
 QS w (V.setCell ⟨bz, 0, none⟩ (.bool false)) bz br bx bY vz vr a b qv rv lq lr :=
 ⟨h.z.set0 _, h.r.setFar (Ne.symm hne) 0 _, cell0_set h.x, cell0_set h.y,
  setCell_natAt h.q (fun g hg => Ne.symm (hq g hg).1) _, setCell_natAt h.t (fun g hg => Ne.symm (hr g hg).1) _, h.k.setCell (fun _ => .inl rfl) _⟩

theorem QS.r0 (h : QS w V bz br bx bY vz vr a b qv rv lq lr) (hne : bz ≠ br) (hq : ∀ k, qv.ownBlock = some k → k ≠ bz ∧ k ≠ br) (hr : ∀ k, rv.ownBlock = some k → k ≠ bz ∧ k ≠ br) :
 QS w (V.setCell ⟨br, 0, none⟩ (.bool false)) bz br bx bY vz vr a b qv rv lq lr :=
 ⟨h.z.setFar hne 0 _, h.r.set0 _, cell0_set h.x, cell0_set h.y,
  setCell_natAt h.q (fun g hg => Ne.symm (hq g hg).2) _, setCell_natAt h.t (fun g hg => Ne.symm (hr g hg).2) _, h.k.setCell (fun _ => .inr (.inl rfl)) _⟩

def QRSet (w : World) (bz br : Nat) (vz vr : Value) (q r : Nat) (w' : World) : Prop :=
 ∃ v u, BI w' bz v q ∧ BI w' br u r ∧ Keep (fun k => k = bz ∨ k = br ∨ vz.ownBlock = some k ∨ vr.ownBlock = some k) w w' ∧
  (∀ k, v.ownBlock = some k → vz.ownBlock = some k ∨ w.heap.size ≤ k) ∧ (∀ k, u.ownBlock = some k → vr.ownBlock = some k ∨ w.heap.size ≤ k) ∧ (∀ k, v.ownBlock = some k → u.ownBlock ≠ some k)

theorem QS.fin {n m : Nat} (h : QS w V bz br bx bY vz vr qv rv qv rv lq lr) (h1 : Norm lq) (h2 : val lq = n) (h3 : Norm lr) (h4 : val lr = m)
 (h5 : ∀ k, qv.ownBlock = some k → vz.ownBlock = some k ∨ w.heap.size ≤ k) (h6 : ∀ k, rv.ownBlock = some k → vr.ownBlock = some k ∨ w.heap.size ≤ k) (h7 : ∀ k, qv.ownBlock = some k → rv.ownBlock ≠ some k) :
 QRSet w bz br vz vr n m V :=
 ⟨qv, rv, ⟨lq, ⟨h.z, h.q, h1, fun _ => rfl⟩, h2⟩, ⟨lr, ⟨h.r, h.t, h3, fun _ => rfl⟩, h4⟩, h.k, h5, h6, h7⟩

end

end Go.Proofs.YtllencgncinphaaGreatDoor
