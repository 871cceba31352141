/- The contracts of math/big's functions on vectors of words and one word: addVW, subVW. -/
import Derived.Test.YtllencgncinphaaGreatDoorKB1
import Derived.Test.YtllencgncinphaaGreatDoorKB2
namespace Go.Proofs.YtllencgncinphaaGreatDoor
open Go.RowKit
open Go.Lib (hid)



def Norm (l : List Nat) : Prop := ∀ k, l.length = k + 1 → l.getD k 0 ≠ 0

theorem Norm.nil : Norm [] := fun k h => by simp at h

def normL (l : List Nat) : List Nat := l.take (normK l l.length)
where
 normK (l : List Nat) : Nat → Nat
  | 0 => 0
  | k + 1 => if l.getD k 0 = 0 then normK l k else k + 1

theorem normK_le (l : List Nat) : ∀ n, normL.normK l n ≤ n
 | 0 => Nat.le_refl _
 | n + 1 => by simp only [normL.normK]; split; have := normK_le l n; omega; omega

theorem normK_norm (l : List Nat) : ∀ n, n ≤ l.length → Norm (l.take (normL.normK l n))
 | 0, _ => by simp only [normL.normK, List.take_zero]; exact Norm.nil
 | n + 1, h => by
   simp only [normL.normK]; split
   · exact normK_norm l n (by omega)
   · rename_i h0
     intro k hk
     have : k = n := by simp at hk; omega
     subst this
     rw [show (l.take (k + 1)).getD k 0 = l.getD k 0 by simp [List.getD]]
     exact h0

def cmpN (a b : Nat) : Int := if a < b then -1 else if b < a then 1 else 0

theorem cmpN_lt {a b : Nat} (h : a < b) : cmpN a b = -1 := if_pos h

theorem cmpN_gt {a b : Nat} (h : b < a) : cmpN a b = 1 := by unfold cmpN; rw [if_neg (by omega), if_pos h]

theorem cmpN_eq (a : Nat) : cmpN a a = 0 := by unfold cmpN; rw [if_neg (by omega), if_neg (by omega)]

def Quiet (w : World) (v : Value) (e : Ending) (w' : World) : Prop := e = .returned v ∧ ∃ n, w' = w.drewN n

theorem cell?_setCell_eq {w : World} {p : Addr} {v : Value} (hs : p.spot = none) (h : (w.cell? p).isSome = true) : (w.setCell p v).cell? p = some v := by
 unfold World.cell? at h ⊢
 simp only [World.setCell, Array.getElem?_modify]
 cases hb : w.heap[p.block]? with
 | none => simp [hb] at h
 | some o =>
   cases o <;> simp_all

theorem cell?_setCell_ne {w : World} {p q : Addr} {v : Value} (h : q.block ≠ p.block ∨ q.off ≠ p.off) : (w.setCell p v).cell? q = w.cell? q := by
 unfold World.cell?
 simp only [World.setCell, Array.getElem?_modify]
 by_cases hb : p.block = q.block
 · rcases h with h | h
   · exact absurd hb.symm h
   · rw [if_pos hb]
     cases hq : w.heap[q.block]? with
     | none => simp
     | some o =>
       cases o <;> simp
       split
       · rfl
       · split
         · rfl
         · rw [Array.getElem?_setIfInBounds_ne (by omega)]
 · rw [if_neg hb]

end Go.Proofs.YtllencgncinphaaGreatDoor
