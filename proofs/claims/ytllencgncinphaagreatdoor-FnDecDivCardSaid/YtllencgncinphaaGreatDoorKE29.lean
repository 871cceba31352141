/- The contracts of math/big's integers: what an Int is in memory; Add, Sub. -/
import Derived.Test.YtllencgncinphaaGreatDoorKE6
namespace Go.Proofs.YtllencgncinphaaGreatDoor
open Go.RowKit
open Go.Lib (hid)

theorem frozen?_setCell' (w : World) (p q : Addr) (v : Value) : (w.setCell p v).frozen? q = w.frozen? q := by
 unfold World.frozen?
 simp only [World.setCell, Array.getElem?_modify]
 by_cases hb : p.block = q.block
 · rw [if_pos hb]
   cases hq : w.heap[q.block]? with
   | none => simp
   | some o => cases o <;> simp
 · rw [if_neg hb]

theorem setCell_cells {w : World} {b : Nat} (h : ∃ c T, w.heap[b]? = some (.cells c T (0, 0))) (o : Nat) (v : Value) : ∃ c T, (w.setCell ⟨b, o, none⟩ v).heap[b]? = some (.cells c T (0, 0)) := by
 obtain ⟨c, T, h⟩ := h
 exact ⟨_, T, by simp only [World.setCell, Array.getElem?_modify, if_true, h]; rfl⟩

structure StrAt (w : World) (b o : Nat) (neg : Bool) (v : Value) : Prop where
 c0 : w.cell? ⟨b, o, none⟩ = some (.bool neg)
 c1 : w.cell? ⟨b, o + 1, none⟩ = some v
 f0 : w.frozen? ⟨b, o, none⟩ = false
 f1 : w.frozen? ⟨b, o + 1, none⟩ = false
 ng : NG ≤ b
 hp : ∃ c T, w.heap[b]? = some (.cells c T (0, 0))

theorem StrAt.lt {w : World} {b o : Nat} {neg : Bool} {v : Value} (h : StrAt w b o neg v) : b < w.heap.size := World.block_lt_of_cell? w _ h.c0

theorem StrAt.keep {S : Nat → Prop} {w w' : World} {b o : Nat} {neg : Bool} {v : Value} (h : StrAt w b o neg v) (hk : Keep S w w') (hs : ¬ S b) : StrAt w' b o neg v :=
 ⟨(hk.cell h.lt hs).trans h.c0, (hk.cell (p := ⟨b, o + 1, none⟩) h.lt hs).trans h.c1, (hk.frozen h.lt hs).trans h.f0, (hk.frozen (p := ⟨b, o + 1, none⟩) h.lt hs).trans h.f1, h.ng, by rw [hk.block b h.lt hs]; exact h.hp⟩

theorem StrAt.drewN {w : World} {b o : Nat} {neg : Bool} {v : Value} (h : StrAt w b o neg v) (n : Nat) : StrAt (w.drewN n) b o neg v := ⟨h.c0, h.c1, h.f0, h.f1, h.ng, h.hp⟩
theorem StrAt.drew {w : World} {b o : Nat} {neg : Bool} {v : Value} (h : StrAt w b o neg v) : StrAt w.drew b o neg v := ⟨h.c0, h.c1, h.f0, h.f1, h.ng, h.hp⟩

theorem StrAt.eql_ne {P : Program} {w : World} {b o b' o' : Nat} {n n' : Bool} {v v' : Value} (h : StrAt w b o n v) (h' : StrAt w b' o' n' v') (hne : b ≠ b') {tp te : TypeId} (hp : P.underlying tp = some (.pointer te))
 (hsz : (P.info? te).map (·.size) = some 2) :
 (binOp .eql tp (.pointer (some ⟨b, o, none⟩)) (.pointer (some ⟨b', o', none⟩))).run P w = .ok (.bool false) w := by
 obtain ⟨c, T, h⟩ := h.hp
 obtain ⟨c', T', h'⟩ := h'.hp
 cases hq : P.info? te with
 | none => simp [hq] at hsz
 | some i => exact run_eql_ptr_other w hp hq (by simp [hq] at hsz; omega) (fun e => hne (congrArg Addr.block e)) h h'

theorem StrAt.neq_ne {P : Program} {w : World} {b o b' o' : Nat} {n n' : Bool} {v v' : Value} (h : StrAt w b o n v) (h' : StrAt w b' o' n' v') (hne : b ≠ b') {tp te : TypeId} (hp : P.underlying tp = some (.pointer te))
 (hsz : (P.info? te).map (·.size) = some 2) :
 (binOp .neq tp (.pointer (some ⟨b, o, none⟩)) (.pointer (some ⟨b', o', none⟩))).run P w = .ok (.bool true) w := by
 obtain ⟨c, T, h⟩ := h.hp
 obtain ⟨c', T', h'⟩ := h'.hp
 cases hq : P.info? te with
 | none => simp [hq] at hsz
 | some i => exact run_neq_ptr_other w hp hq (by simp [hq] at hsz; omega) (fun e => hne (congrArg Addr.block e)) h h'

theorem StrAt.set0 {w : World} {b o : Nat} {neg : Bool} {v : Value} (h : StrAt w b o neg v) (n : Bool) : StrAt (w.setCell ⟨b, o, none⟩ (.bool n)) b o n v :=
 ⟨cell?_setCell_eq rfl (by rw [h.c0]; rfl), (cell?_setCell_ne (by right; simp)).trans h.c1, (frozen?_setCell' _ _ _ _).trans h.f0, (frozen?_setCell' _ _ _ _).trans h.f1, h.ng, setCell_cells h.hp _ _⟩

theorem StrAt.set1 {w : World} {b o : Nat} {neg : Bool} {v : Value} (h : StrAt w b o neg v) (u : Value) : StrAt (w.setCell ⟨b, o + 1, none⟩ u) b o neg u :=
 ⟨(cell?_setCell_ne (by right; simp)).trans h.c0, cell?_setCell_eq rfl (by rw [h.c1]; rfl), (frozen?_setCell' _ _ _ _).trans h.f0, (frozen?_setCell' _ _ _ _).trans h.f1, h.ng, setCell_cells h.hp _ _⟩

structure IntIs (w : World) (b o : Nat) (neg : Bool) (v : Value) (l : List Nat) : Prop where
 str : StrAt w b o neg v
 nat : NatAt w v l
 norm : Norm l
 zero : l = [] → neg = false

def ival (neg : Bool) (l : List Nat) : Int := if neg then -(val l : Int) else (val l : Int)

theorem IntIs.ne {w : World} {b o : Nat} {neg : Bool} {v u : Value} {m : List Nat} (h : StrAt w b o neg v) (hn : NatAt w u m) {g : Nat} (hg : u.ownBlock = some g) : b ≠ g := by
 rintro rfl
 rcases hn.2 with ⟨rfl, _⟩ | ⟨g, off, cap, L, rfl, bk, _⟩
 · simp [Value.ownBlock] at hg
 · simp only [Value.ownBlock, Option.some.injEq] at hg
   subst hg
   by_cases ho : o < L.length
   · have := bk.cell ho
     rw [h.c0] at this; simp at this
   · obtain ⟨T, hb⟩ := bk
     have := h.c0
     simp [World.cell?, hb, ho] at this

theorem IntIs.keep {S : Nat → Prop} {w w' : World} {b o : Nat} {neg : Bool} {v : Value} {l : List Nat} (h : IntIs w b o neg v l) (hk : Keep S w w') (hs : ¬ S b) (hv : ∀ g, v.ownBlock = some g → ¬ S g) : IntIs w' b o neg v l :=
 ⟨h.str.keep hk hs, h.nat.keep hk hv, h.norm, h.zero⟩

theorem IntIs.fresh {w w' : World} {b o : Nat} {neg : Bool} {v : Value} {l : List Nat} (h : IntIs w b o neg v l) (hk : Fresh w w') : IntIs w' b o neg v l :=
 h.keep hk (fun h => h) (fun _ _ h => h)

theorem IntIs.drewN {w : World} {b o : Nat} {neg : Bool} {v : Value} {l : List Nat} (h : IntIs w b o neg v l) (n : Nat) : IntIs (w.drewN n) b o neg v l := ⟨h.str.drewN n, h.nat, h.norm, h.zero⟩

theorem setCell_natAt {w : World} {v : Value} {l : List Nat} (h : NatAt w v l) {b o : Nat} (hb : ∀ g, v.ownBlock = some g → b ≠ g) (u : Value) : NatAt (w.setCell ⟨b, o, none⟩ u) v l :=
 h.keep (Keep.setCell (S := fun k => k = b) (Keep.refl _ w) (fun _ => rfl) u) (fun g hg e => hb g hg e.symm)

def IntRet (w : World) (b o : Nat) (vz : Value) (n : Int) (e : Ending) (w' : World) : Prop :=
 e = .returned (.pointer (some ⟨b, o, none⟩)) ∧ ∃ neg v l, IntIs w' b o neg v l ∧ ival neg l = n ∧ Keep (fun k => k = b ∨ vz.ownBlock = some k) w w' ∧ (∀ k, v.ownBlock = some k → vz.ownBlock = some k ∨ w.heap.size ≤ k)

def IntSet (w : World) (b o : Nat) (vz : Value) (n : Int) (e : Ending) (w' : World) : Prop :=
 e = .returned (.tuple #[]) ∧ ∃ neg v l, IntIs w' b o neg v l ∧ ival neg l = n ∧ Keep (fun k => k = b ∨ vz.ownBlock = some k) w w' ∧ (∀ k, v.ownBlock = some k → vz.ownBlock = some k ∨ w.heap.size ≤ k)

theorem IntIs.made {w w1 : World} {b o : Nat} {neg0 : Bool} {vz rv : Value} {lz l : List Nat} (hz : StrAt w b o neg0 vz) (hzn : NatAt w vz lz) (hop : NatOp w vz rv l w1) (hnorm : Norm l) (neg : Bool) (hneg : l = [] → neg = false) (n : Int) (hn : ival neg l = n)
 {w2 : World} (hw2 : w2 = (w1.setCell ⟨b, o + 1, none⟩ rv).setCell ⟨b, o, none⟩ (.bool neg)) :
 ∃ neg v l, IntIs w2 b o neg v l ∧ ival neg l = n ∧ Keep (fun k => k = b ∨ vz.ownBlock = some k) w w2 ∧ (∀ k, v.ownBlock = some k → vz.ownBlock = some k ∨ w.heap.size ≤ k) := by
 subst hw2
 have hbz : ∀ g, vz.ownBlock = some g → b ≠ g := fun g hg => IntIs.ne hz hzn hg
 have hs1 : StrAt w1 b o neg0 vz := hz.keep hop.keep (fun h => hbz b h rfl)
 have hbr : ∀ g, rv.ownBlock = some g → b ≠ g := fun g hg => by
  rcases hop.own g hg with h | h
  · exact hbz g h
  · have := hz.lt; omega
 refine ⟨neg, rv, l, ⟨(hs1.set1 rv).set0 neg, setCell_natAt (setCell_natAt hop.nat hbr _) hbr _, hnorm, hneg⟩, hn, ?_, hop.own⟩
 have k1 : Keep (fun k => k = b ∨ vz.ownBlock = some k) w w1 := hop.keep.mono (fun k _ h => Or.inr h)
 exact (k1.setCell (p := ⟨b, o + 1, none⟩) (fun _ => Or.inl rfl) _).setCell (p := ⟨b, o, none⟩) (fun _ => Or.inl rfl) _

theorem Norm.len_lt {l : List Nat} (h : Norm l) {k : Nat} (hv : val l < wpow k) : l.length ≤ k := h.len_le hv

end Go.Proofs.YtllencgncinphaaGreatDoor
