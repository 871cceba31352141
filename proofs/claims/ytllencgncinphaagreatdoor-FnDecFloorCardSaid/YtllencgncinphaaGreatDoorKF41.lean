/- shopspring: quoRem of two decimals, with a divisor that is handed on or not. Printed by gen_qm.py. -/
import Derived.Test.YtllencgncinphaaGreatDoorKF13
import Derived.Test.YtllencgncinphaaGreatDoorKF19
import Derived.Test.YtllencgncinphaaGreatDoorKF33
import Derived.Test.YtllencgncinphaaGreatDoorKF40
namespace Go.Proofs.YtllencgncinphaaGreatDoor
open Go.RowKit
open Go.Lib (hid)

theorem IntQuoRem_z (bz bx bY br : Nat) (vx vy : Value) (x y : Int) (w : World) (hG : Glob w) (hlx : x.natAbs < wpow 39) (hly : y.natAbs < wpow 39) (hy0 : y ≠ 0)
 (d1 : bz ≠ br) (d2 : bx ≠ bz) (d3 : bx ≠ br) (d4 : bY ≠ bz) (d5 : bY ≠ br) (hz : ZI w bz (.slice none 0 0) 0) (hx : ZI w bx vx x) (hy : ZI w bY vy y) (hr : ZI w br (.slice none 0 0) 0) :
 Calls Tryz.prog 130 #[.pointer (some ⟨bz, 0, none⟩), .pointer (some ⟨bx, 0, none⟩), .pointer (some ⟨bY, 0, none⟩), .pointer (some ⟨br, 0, none⟩)] w
  (fun e w' => e = .returned (.tuple #[.pointer (some ⟨bz, 0, none⟩), .pointer (some ⟨br, 0, none⟩)]) ∧ ∃ v u, ZI w' bz v (x.tdiv y) ∧ ZI w' br u (x.tmod y) ∧ Keep (fun k => k = bz ∨ k = br) w w' ∧
   (∀ k, v.ownBlock = some k → w.heap.size ≤ k) ∧ (∀ k, u.ownBlock = some k → w.heap.size ≤ k) ∧ (∀ k, v.ownBlock = some k → u.ownBlock ≠ some k)) := by
 obtain ⟨nz, lz, hz, _⟩ := hz
 obtain ⟨nx, lx, hx, rfl⟩ := hx
 obtain ⟨ny, ly, hy, rfl⟩ := hy
 obtain ⟨nr, lr, hr, _⟩ := hr
 have h1 := hx.len rfl hlx
 have h2 := hy.len rfl hly
 have h3 : 0 < ly.length := by
  rcases Nat.eq_zero_or_pos ly.length with h | h
  · rw [List.eq_nil_of_length_eq_zero h] at hy0
    exact absurd (by cases ny <;> rfl) hy0
  · exact h
 refine (Int_QuoRem bz bx bY br nz nx ny nr (.slice none 0 0) vx vy (.slice none 0 0) lz lx ly lr w hG (by omega) h2 h3 d1 d2 d3 d4 d5 hz hx hy hr (Sep.nil _) (fun _ h => by simp [Value.ownBlock] at h) (fun _ h => by simp [Value.ownBlock] at h) (fun _ h => by simp [Value.ownBlock] at h)).mono ?_
 rintro e w' ⟨rfl, v, u, k1, k2, k3, k4, k5, k6⟩
 refine ⟨rfl, v, u, k1, k2, k3.mono (fun k _ h => ?_), fun k hk => ?_, fun k hk => ?_, k6⟩
 · rcases h with h | h | h | h
   · exact .inl h
   · exact .inr h
   · simp [Value.ownBlock] at h
   · simp [Value.ownBlock] at h
 · rcases k4 k hk with h | h
   · simp [Value.ownBlock] at h
   · exact h
 · rcases k5 k hk with h | h
   · simp [Value.ownBlock] at h
   · exact h

theorem ZI.copy {w w' : World} {b a n : Nat} {s : Bool} {l : List Nat} {x : Option Addr} {c : Nat} {va : Value} {z za : Int} (hl : l.length = n) (hx : IntIs w b 0 s (.slice x l.length c) l) (hz : ival s l = z) (ha : ZI w a va za)
 (hw : w' = (w.setCell ⟨a, 0, none⟩ (.bool s)).setCell ⟨a, 1, none⟩ (.slice x n c)) : ZI w' a (.slice x n c) z := by
 subst hl hw
 obtain ⟨n1, l1, ha, -⟩ := ha
 have hne : ∀ g, (Value.slice x l.length c).ownBlock = some g → a ≠ g := fun g hg => IntIs.ne ha.str hx.nat hg
 have hs := (ha.str.set0 s).set1 (.slice x l.length c)
 rw [Nat.zero_add] at hs
 exact ⟨s, l, ⟨hs, setCell_natAt (setCell_natAt hx.nat hne _) hne _, hx.norm, hx.zero⟩, hz⟩

end Go.Proofs.YtllencgncinphaaGreatDoor
