/- big: Int.QuoRem by a number of one word. -/
import Derived.Test.YtjjolcjeiogdmabGreatDoorK5
import Derived.Test.YtjjolcjeiogdmabGreatDoorK20
import Derived.Test.YtjjolcjeiogdmabGreatDoorK23
namespace Go.Proofs.YtjjolcjeiogdmabGreatDoor
open Go.RowKit

section
variable {P : Program} {ops : Array Oper} {Q : Exit → Act → World → Prop} {md : Region.Mode} {S : World → Prop} {s : Nat}

/-- a load that operation s itself waits for may be taken first -/
theorem wpAnyE_loadD {i : Nat} {oi os : Oper} {v : Value} (hi : ops[i]? = some oi) (hs : ops[s]? = some os) (his : i ≠ s)
    (hsi : ∃ e ∈ os.after, Region.binds md e = true ∧ e.on = i)
    (hsel : ∀ (j : Nat) (o : Oper) cs b, ops[j]? = some o → o.op ≠ .select cs b)
    (hQ : ∀ c a w, Q (.panic c) (a.put oi.dst v) w → Q (.panic c) a w) :
    ∀ (fuel : Nat) (listed : Array Bool) (a : Act) (w : World),
      (∀ j oj, ops[j]? = some oj → j ≠ i → listed.getD j true = false → (∀ e ∈ oj.after, Region.binds md e = true → e.on ≠ i) → oi.apart ops oj = true) →
      i ∈ Region.ready md ops listed → listed.getD s true = false → YieldsIf P ops S oi v a → S w →
      wpAnyE P md ops Q S s fuel (listed.setIfInBounds i true) (a.put oi.dst v) w → wpAnyE P md ops Q S s (fuel + 1) listed a w := by
  intro fuel
  induction fuel with
  | zero =>
    intro listed a w _ hr _ hy hS H
    refine ⟨fun h => (by rw [h] at hr; cases hr), fun j hj => ?_⟩
    by_cases hji : j = i
    · subst hji; exact hy.wpOp hi hS ⟨fun _ => hS, H⟩
    · have := ready_mono hj hji
      rw [H.1] at this
      cases this
  | succ fuel ih =>
    intro listed a w hfree hr hsl hy hS H
    refine ⟨fun h => (by rw [h] at hr; cases hr), fun j hj => ?_⟩
    by_cases hji : j = i
    · subst hji; exact hy.wpOp hi hS ⟨fun _ => hS, H⟩
    · have h1 := H.2 j (ready_mono hj hji)
      obtain ⟨hjun, oj, hoj, hall⟩ := mem_ready.1 hj
      have hnot : ∀ e ∈ oj.after, Region.binds md e = true → e.on ≠ i := fun e he hb heq => by
        have h1 := hall e he hb
        have h0 := (mem_ready.1 hr).1
        rw [heq] at h1
        rcases Nat.lt_or_ge i listed.size with h' | h'
        · simp [h'] at h0 h1; rw [h0] at h1; cases h1
        · simp [Array.getElem?_eq_none h'] at h1
      have hjs : j ≠ s := by
        rintro rfl
        obtain ⟨e, he, hb, heq⟩ := hsi
        rw [hs] at hoj
        cases hoj
        exact hnot e he hb heq
      have h2 := wpOp_putIf hoj (hfree j oj hoj hji hjun hnot) (fun cs b => hsel i oi cs b hi) (fun cs b => hsel j oj cs b hoj) hQ hy h1
      have hfree' : ∀ k ok, ops[k]? = some ok → k ≠ i → (listed.setIfInBounds j true).getD k true = false →
          (∀ e ∈ ok.after, Region.binds md e = true → e.on ≠ i) → oi.apart ops ok = true := fun k ok hk hki hun hno => by
        refine hfree k ok hk hki ?_ hno
        by_cases hjk : j = k
        · subst hjk; exact hjun
        · rw [getD_set_ne true hjk] at hun; exact hun
      have hsl' : (listed.setIfInBounds j true).getD s true = false := by rw [getD_set_ne true hjs]; exact hsl
      refine wpOp_mono (fun a' w' h3 => ?_) h2
      have hS' : S w' := h3.2.1 (by rw [getD_set_ne true hjs, getD_set_ne true his]; exact hsl)
      refine ⟨fun _ => hS', ih (listed.setIfInBounds j true) a' w' hfree' (ready_mono hr (Ne.symm hji)) hsl' h3.1 hS' ?_⟩
      rw [Array.setIfInBounds_comm _ _ hji]
      exact h3.2.2

theorem wpAnyE_takeD {i : Nat} {oi : Oper} {v : Value} {fuel : Nat} {listed : Array Bool} {a : Act} {w : World} (hi : ops[i]? = some oi)
    (hk : (Region.noSelect ops && Region.free md ops listed i && (Region.ready md ops listed).contains i && (i != s) && waits md ops s i && !listed.getD s true) = true)
    (hQ : ∀ c a w, Q (.panic c) (a.put oi.dst v) w → Q (.panic c) a w) (hy : Region.wanted oi (yielded ops a.tmps) = true ∧ ∀ w, S w → (execOp a.eval oi).run P w = .ok (.value v) w) (hS : S w)
    (h : wpAnyE P md ops Q S s fuel (listed.setIfInBounds i true) (a.put oi.dst v) w) : wpAnyE P md ops Q S s (fuel + 1) listed a w := by
  simp only [Bool.and_eq_true, bne_iff_ne, Bool.not_eq_true'] at hk
  obtain ⟨⟨⟨⟨⟨h1, h2⟩, h3⟩, h4⟩, h6⟩, h8⟩ := hk
  obtain ⟨os, hs, hsc⟩ := waits_spec h6
  exact wpAnyE_loadD hi hs h4 hsc (Region.noSelect_spec h1) hQ fuel listed a w (Region.free_spec hi h2) (by simpa using h3) h8 (Or.inl hy) hS h

end

theorem StrAt.setFar {w : World} {b o : Nat} {neg : Bool} {v : Value} (h : StrAt w b o neg v) {b' : Nat} (hne : b ≠ b') (o' : Nat) (u : Value) : StrAt (w.setCell ⟨b', o', none⟩ u) b o neg v :=
  h.keep (Keep.setCell (S := fun k => k = b') (Keep.refl _ w) (fun _ => rfl) u) hne

/-- what has been reached inside QuoRem: z's and r's structs hold a and b, the two numbers lie where they were made, nothing else has turned -/
structure QS (w V : World) (bz br bx bY : Nat) (vz vr a b qv rv : Value) (lq lr : List Nat) : Prop where
  z : StrAt V bz 0 false a
  r : StrAt V br 0 false b
  x : V.cell? ⟨bx, 0, none⟩ = some (.bool false)
  y : V.cell? ⟨bY, 0, none⟩ = some (.bool false)
  q : NatAt V qv lq
  t : NatAt V rv lr
  k : Keep (fun k => k = bz ∨ k = br ∨ vz.ownBlock = some k ∨ vr.ownBlock = some k) w V

section
variable {w V : World} {bz br bx bY : Nat} {vz vr a b qv rv : Value} {lq lr : List Nat}

theorem QS.drew (h : QS w V bz br bx bY vz vr a b qv rv lq lr) : QS w V.drew bz br bx bY vz vr a b qv rv lq lr :=
  ⟨h.z.drew, h.r.drew, h.x, h.y, h.q.drew, h.t.drew, h.k.drew⟩

theorem QS.z1 (h : QS w V bz br bx bY vz vr a b qv rv lq lr) (hne : bz ≠ br) (hq : ∀ k, qv.ownBlock = some k → k ≠ bz ∧ k ≠ br) (hr : ∀ k, rv.ownBlock = some k → k ≠ bz ∧ k ≠ br) (u : Value) :
    QS w (V.setCell ⟨bz, 1, none⟩ u) bz br bx bY vz vr u b qv rv lq lr :=
  ⟨h.z.set1 u, h.r.setFar (Ne.symm hne) 1 u, (cell?_setCell_ne (by right; simp)).trans h.x, (cell?_setCell_ne (by right; simp)).trans h.y,
    setCell_natAt h.q (fun g hg => Ne.symm (hq g hg).1) u, setCell_natAt h.t (fun g hg => Ne.symm (hr g hg).1) u, h.k.setCell (fun _ => .inl rfl) u⟩

theorem QS.r1 (h : QS w V bz br bx bY vz vr a b qv rv lq lr) (hne : bz ≠ br) (hq : ∀ k, qv.ownBlock = some k → k ≠ bz ∧ k ≠ br) (hr : ∀ k, rv.ownBlock = some k → k ≠ bz ∧ k ≠ br) (u : Value) :
    QS w (V.setCell ⟨br, 1, none⟩ u) bz br bx bY vz vr a u qv rv lq lr :=
  ⟨h.z.setFar hne 1 u, h.r.set1 u, (cell?_setCell_ne (by right; simp)).trans h.x, (cell?_setCell_ne (by right; simp)).trans h.y,
    setCell_natAt h.q (fun g hg => Ne.symm (hq g hg).2) u, setCell_natAt h.t (fun g hg => Ne.symm (hr g hg).2) u, h.k.setCell (fun _ => .inr (.inl rfl)) u⟩

theorem cell0_set {V : World} {b b' : Nat} (h : V.cell? ⟨b, 0, none⟩ = some (.bool false)) : (V.setCell ⟨b', 0, none⟩ (.bool false)).cell? ⟨b, 0, none⟩ = some (.bool false) := by
  by_cases e : b = b'
  · subst e; exact cell?_setCell_eq rfl (by rw [h]; rfl)
  · exact (cell?_setCell_ne (.inl e)).trans h

theorem QS.z0 (h : QS w V bz br bx bY vz vr a b qv rv lq lr) (hne : bz ≠ br) (hq : ∀ k, qv.ownBlock = some k → k ≠ bz ∧ k ≠ br) (hr : ∀ k, rv.ownBlock = some k → k ≠ bz ∧ k ≠ br) :
    QS w (V.setCell ⟨bz, 0, none⟩ (.bool false)) bz br bx bY vz vr a b qv rv lq lr :=
  ⟨h.z.set0 _, h.r.setFar (Ne.symm hne) 0 _, cell0_set h.x, cell0_set h.y,
    setCell_natAt h.q (fun g hg => Ne.symm (hq g hg).1) _, setCell_natAt h.t (fun g hg => Ne.symm (hr g hg).1) _, h.k.setCell (fun _ => .inl rfl) _⟩

theorem QS.r0 (h : QS w V bz br bx bY vz vr a b qv rv lq lr) (hne : bz ≠ br) (hq : ∀ k, qv.ownBlock = some k → k ≠ bz ∧ k ≠ br) (hr : ∀ k, rv.ownBlock = some k → k ≠ bz ∧ k ≠ br) :
    QS w (V.setCell ⟨br, 0, none⟩ (.bool false)) bz br bx bY vz vr a b qv rv lq lr :=
  ⟨h.z.setFar hne 0 _, h.r.set0 _, cell0_set h.x, cell0_set h.y,
    setCell_natAt h.q (fun g hg => Ne.symm (hq g hg).2) _, setCell_natAt h.t (fun g hg => Ne.symm (hr g hg).2) _, h.k.setCell (fun _ => .inr (.inl rfl)) _⟩

/-- quotient and rest are set; nothing else has turned but what the two held -/
def QRSet (w : World) (bz br : Nat) (vz vr : Value) (q r : Nat) (w' : World) : Prop :=
  ∃ v u, BI w' bz v q ∧ BI w' br u r ∧ Keep (fun k => k = bz ∨ k = br ∨ vz.ownBlock = some k ∨ vr.ownBlock = some k) w w' ∧
    (∀ k, v.ownBlock = some k → vz.ownBlock = some k ∨ w.heap.size ≤ k) ∧ (∀ k, u.ownBlock = some k → vr.ownBlock = some k ∨ w.heap.size ≤ k) ∧ (∀ k, v.ownBlock = some k → u.ownBlock ≠ some k)

theorem QS.fin {n m : Nat} (h : QS w V bz br bx bY vz vr qv rv qv rv lq lr) (h1 : Norm lq) (h2 : val lq = n) (h3 : Norm lr) (h4 : val lr = m)
    (h5 : ∀ k, qv.ownBlock = some k → vz.ownBlock = some k ∨ w.heap.size ≤ k) (h6 : ∀ k, rv.ownBlock = some k → vr.ownBlock = some k ∨ w.heap.size ≤ k) (h7 : ∀ k, qv.ownBlock = some k → rv.ownBlock ≠ some k) :
    QRSet w bz br vz vr n m V :=
  ⟨qv, rv, ⟨lq, ⟨h.z, h.q, h1, fun _ => rfl⟩, h2⟩, ⟨lr, ⟨h.r, h.t, h3, fun _ => rfl⟩, h4⟩, h.k, h5, h6, h7⟩

end

end Go.Proofs.YtjjolcjeiogdmabGreatDoor
