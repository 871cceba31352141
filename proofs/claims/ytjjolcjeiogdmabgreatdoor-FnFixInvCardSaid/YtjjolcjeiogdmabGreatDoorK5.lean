/- A region that draws its order, whose last store may write what its loads read: a condition on the world is held up to that store. After the library's OrdersHeld. -/
import Derived.Deep.RegionHeld3
import Derived.Test.YtjjolcjeiogdmabGreatDoorK1
import Derived.Test.YtjjolcjeiogdmabGreatDoorK2
import Derived.Test.YtjjolcjeiogdmabGreatDoorK3
import Derived.Test.YtjjolcjeiogdmabGreatDoorK4
namespace Go.Proofs.YtjjolcjeiogdmabGreatDoor
open Go.RowKit

section
variable {P : Program} {ops : Array Oper} {Q : Exit → Act → World → Prop} {md : Region.Mode} {S : World → Prop} {s : Nat}

/-- whatever order is picked from here on; S holds as long as operation s has not come up -/
def wpAnyE (P : Program) (md : Region.Mode) (ops : Array Oper) (Q : Exit → Act → World → Prop) (S : World → Prop) (s : Nat) : Nat → Array Bool → Act → World → Prop
  | 0, listed, a, w => Region.ready md ops listed = [] ∧ Q .normal a w
  | fuel + 1, listed, a, w =>
    (Region.ready md ops listed = [] → Q .normal a w) ∧
    ∀ i ∈ Region.ready md ops listed, wpOp P ops Q i (fun a' w' => ((listed.setIfInBounds i true).getD s true = false → S w') ∧ wpAnyE P md ops Q S s fuel (listed.setIfInBounds i true) a' w') a w

theorem wpAny_of_E : ∀ (fuel : Nat) (listed : Array Bool) (a : Act) (w : World), wpAnyE P md ops Q S s fuel listed a w → wpAny P md ops Q fuel listed a w
  | 0, _, _, _, h => h
  | fuel + 1, _, _, _, h => ⟨h.1, fun i hi => wpOp_mono (fun a' w' h' => wpAny_of_E fuel _ a' w' h'.2) (h.2 i hi)⟩

/-- an operation that yields its value in whatever world may be taken first -/
theorem wpAnyE_pure {i : Nat} {oi : Oper} {v : Value} (hi : ops[i]? = some oi) (his : i ≠ s) (hsel : ∀ (j : Nat) (o : Oper) cs b, ops[j]? = some o → o.op ≠ .select cs b)
    (hQ : ∀ c a w, Q (.panic c) (a.put oi.dst v) w → Q (.panic c) a w) :
    ∀ (fuel : Nat) (listed : Array Bool) (a : Act) (w : World),
      (∀ j oj, ops[j]? = some oj → j ≠ i → listed.getD j true = false → (∀ e ∈ oj.after, Region.binds md e = true → e.on ≠ i) → oi.apart ops oj = true) →
      i ∈ Region.ready md ops listed → YieldsIf P ops (fun _ => True) oi v a → (listed.getD s true = false → S w) →
      wpAnyE P md ops Q S s fuel (listed.setIfInBounds i true) (a.put oi.dst v) w → wpAnyE P md ops Q S s (fuel + 1) listed a w := by
  intro fuel
  induction fuel with
  | zero =>
    intro listed a w _ hr hy hS H
    refine ⟨fun h => (by rw [h] at hr; cases hr), fun j hj => ?_⟩
    by_cases hji : j = i
    · subst hji; exact hy.wpOp hi trivial ⟨fun h => hS (by rw [getD_set_ne true his] at h; exact h), H⟩
    · have := ready_mono hj hji
      rw [H.1] at this
      cases this
  | succ fuel ih =>
    intro listed a w hfree hr hy hS H
    refine ⟨fun h => (by rw [h] at hr; cases hr), fun j hj => ?_⟩
    by_cases hji : j = i
    · subst hji; exact hy.wpOp hi trivial ⟨fun h => hS (by rw [getD_set_ne true his] at h; exact h), H⟩
    · have h1 := H.2 j (ready_mono hj hji)
      obtain ⟨hjun, oj, hoj, hall⟩ := mem_ready.1 hj
      have hnot : ∀ e ∈ oj.after, Region.binds md e = true → e.on ≠ i := fun e he hb heq => by
        have h1 := hall e he hb
        have h0 := (mem_ready.1 hr).1
        rw [heq] at h1
        rcases Nat.lt_or_ge i listed.size with h' | h'
        · simp [h'] at h0 h1; rw [h0] at h1; cases h1
        · simp [Array.getElem?_eq_none h'] at h1
      have h2 := wpOp_putIf hoj (hfree j oj hoj hji hjun hnot) (fun cs b => hsel i oi cs b hi) (fun cs b => hsel j oj cs b hoj) hQ hy h1
      have hfree' : ∀ k ok, ops[k]? = some ok → k ≠ i → (listed.setIfInBounds j true).getD k true = false →
          (∀ e ∈ ok.after, Region.binds md e = true → e.on ≠ i) → oi.apart ops ok = true := fun k ok hk hki hun hno => by
        refine hfree k ok hk hki ?_ hno
        by_cases hjk : j = k
        · subst hjk; exact hjun
        · rw [getD_set_ne true hjk] at hun; exact hun
      have hsw : ∀ l : Array Bool, (l.setIfInBounds i true).getD s true = l.getD s true := fun l => getD_set_ne true his
      refine wpOp_mono (fun a' w' h3 => ?_) h2
      have hS' : (listed.setIfInBounds j true).getD s true = false → S w' := fun h => h3.2.1 (by rw [← Array.setIfInBounds_comm _ _ hji, hsw]; exact h)
      refine ⟨hS', ih (listed.setIfInBounds j true) a' w' hfree' (ready_mono hr (Ne.symm hji)) h3.1 hS' ?_⟩
      rw [Array.setIfInBounds_comm _ _ hji]
      exact h3.2.2

/-- an operation that yields its value in every world that meets S may be taken first, if operation c waits for it, and operation s for c -/
theorem wpAnyE_load {i c : Nat} {oi oc os : Oper} {v : Value} (hi : ops[i]? = some oi) (hc : ops[c]? = some oc) (hs : ops[s]? = some os) (hic : i ≠ c)
    (hci : ∃ e ∈ oc.after, Region.binds md e = true ∧ e.on = i) (hsc : ∃ e ∈ os.after, Region.binds md e = true ∧ e.on = c)
    (hsel : ∀ (j : Nat) (o : Oper) cs b, ops[j]? = some o → o.op ≠ .select cs b)
    (hQ : ∀ c a w, Q (.panic c) (a.put oi.dst v) w → Q (.panic c) a w) :
    ∀ (fuel : Nat) (listed : Array Bool) (a : Act) (w : World),
      (∀ j oj, ops[j]? = some oj → j ≠ i → listed.getD j true = false → (∀ e ∈ oj.after, Region.binds md e = true → e.on ≠ i) → oi.apart ops oj = true) →
      i ∈ Region.ready md ops listed → listed.getD c true = false → listed.getD s true = false → YieldsIf P ops S oi v a → S w →
      wpAnyE P md ops Q S s fuel (listed.setIfInBounds i true) (a.put oi.dst v) w → wpAnyE P md ops Q S s (fuel + 1) listed a w := by
  intro fuel
  induction fuel with
  | zero =>
    intro listed a w _ hr _ _ hy hS H
    refine ⟨fun h => (by rw [h] at hr; cases hr), fun j hj => ?_⟩
    by_cases hji : j = i
    · subst hji; exact hy.wpOp hi hS ⟨fun _ => hS, H⟩
    · have := ready_mono hj hji
      rw [H.1] at this
      cases this
  | succ fuel ih =>
    intro listed a w hfree hr hcl hsl hy hS H
    refine ⟨fun h => (by rw [h] at hr; cases hr), fun j hj => ?_⟩
    by_cases hji : j = i
    · subst hji; exact hy.wpOp hi hS ⟨fun _ => hS, H⟩
    · have h1 := H.2 j (ready_mono hj hji)
      obtain ⟨hjun, oj, hoj, hall⟩ := mem_ready.1 hj
      have hiun : ∀ k, listed.getD k true = false → ∀ e ∈ oj.after, Region.binds md e = true → e.on ≠ k := fun k h0 e he hb heq => by
        have h1 := hall e he hb
        rw [heq] at h1
        rcases Nat.lt_or_ge k listed.size with h' | h'
        · simp [h'] at h0 h1; rw [h0] at h1; cases h1
        · simp [Array.getElem?_eq_none h'] at h1
      have hnot := hiun i (mem_ready.1 hr).1
      have hjc : j ≠ c := by
        rintro rfl
        obtain ⟨e, he, hb, heq⟩ := hci
        rw [hc] at hoj
        cases hoj
        exact hnot e he hb heq
      have hjs : j ≠ s := by
        rintro rfl
        obtain ⟨e, he, hb, heq⟩ := hsc
        rw [hs] at hoj
        cases hoj
        exact hiun c hcl e he hb heq
      have h2 := wpOp_putIf hoj (hfree j oj hoj hji hjun hnot) (fun cs b => hsel i oi cs b hi) (fun cs b => hsel j oj cs b hoj) hQ hy h1
      have hfree' : ∀ k ok, ops[k]? = some ok → k ≠ i → (listed.setIfInBounds j true).getD k true = false →
          (∀ e ∈ ok.after, Region.binds md e = true → e.on ≠ i) → oi.apart ops ok = true := fun k ok hk hki hun hno => by
        refine hfree k ok hk hki ?_ hno
        by_cases hjk : j = k
        · subst hjk; exact hjun
        · rw [getD_set_ne true hjk] at hun; exact hun
      have hcl' : (listed.setIfInBounds j true).getD c true = false := by rw [getD_set_ne true hjc]; exact hcl
      have his : i ≠ s := by
        rintro rfl
        obtain ⟨e, he, hb, heq⟩ := hsc
        have h1 := (mem_ready.1 hr).2
        obtain ⟨oi', hoi, h1⟩ := h1
        rw [hs] at hoi
        cases hoi
        have h2 := h1 e he hb
        rw [heq] at h2
        rcases Nat.lt_or_ge c listed.size with h' | h'
        · simp [h'] at hcl h2; rw [hcl] at h2; cases h2
        · simp [Array.getElem?_eq_none h'] at hcl
      have hsl' : (listed.setIfInBounds j true).getD s true = false := by rw [getD_set_ne true hjs]; exact hsl
      refine wpOp_mono (fun a' w' h3 => ?_) h2
      have hS' : S w' := h3.2.1 (by rw [getD_set_ne true hjs, getD_set_ne true his]; exact hsl)
      refine ⟨fun _ => hS', ih (listed.setIfInBounds j true) a' w' hfree' (ready_mono hr (Ne.symm hji)) hcl' hsl' h3.1 hS' ?_⟩
      rw [Array.setIfInBounds_comm _ _ hji]
      exact h3.2.2

/-- does operation j wait for operation i? -/
def waits (md : Region.Mode) (ops : Array Oper) (j i : Nat) : Bool :=
  match ops[j]? with
  | some o => o.after.any fun e => Region.binds md e && e.on == i
  | none => false

theorem waits_spec {j i : Nat} (h : waits md ops j i = true) : ∃ o, ops[j]? = some o ∧ ∃ e ∈ o.after, Region.binds md e = true ∧ e.on = i := by
  unfold waits at h
  cases hj : ops[j]? with
  | none => rw [hj] at h; simp at h
  | some o =>
    rw [hj] at h
    simp only [Array.any_eq_true'] at h
    obtain ⟨e, he, h⟩ := h
    rw [Bool.and_eq_true, beq_iff_eq] at h
    exact ⟨o, rfl, e, he, h.1, h.2⟩

theorem wpAnyE_takeP {i : Nat} {oi : Oper} {v : Value} {fuel : Nat} {listed : Array Bool} {a : Act} {w : World} (hi : ops[i]? = some oi)
    (hk : (Region.noSelect ops && Region.free md ops listed i && (Region.ready md ops listed).contains i && (i != s)) = true)
    (hQ : ∀ c a w, Q (.panic c) (a.put oi.dst v) w → Q (.panic c) a w) (hy : Region.wanted oi (yielded ops a.tmps) = true ∧ ∀ w, (execOp a.eval oi).run P w = .ok (.value v) w) (hS : S w)
    (h : wpAnyE P md ops Q S s fuel (listed.setIfInBounds i true) (a.put oi.dst v) w) : wpAnyE P md ops Q S s (fuel + 1) listed a w := by
  simp only [Bool.and_eq_true, bne_iff_ne] at hk
  obtain ⟨⟨⟨h1, h2⟩, h3⟩, h4⟩ := hk
  exact wpAnyE_pure hi h4 (Region.noSelect_spec h1) hQ fuel listed a w (Region.free_spec hi h2) (by simpa using h3) (Or.inl ⟨hy.1, fun w _ => hy.2 w⟩) (fun _ => hS) h

theorem wpAnyE_takeL {i c : Nat} {oi : Oper} {v : Value} {fuel : Nat} {listed : Array Bool} {a : Act} {w : World} (hi : ops[i]? = some oi)
    (hk : (Region.noSelect ops && Region.free md ops listed i && (Region.ready md ops listed).contains i && (i != c) && waits md ops c i && waits md ops s c && !listed.getD c true && !listed.getD s true) = true)
    (hQ : ∀ c a w, Q (.panic c) (a.put oi.dst v) w → Q (.panic c) a w) (hy : Region.wanted oi (yielded ops a.tmps) = true ∧ ∀ w, S w → (execOp a.eval oi).run P w = .ok (.value v) w) (hS : S w)
    (h : wpAnyE P md ops Q S s fuel (listed.setIfInBounds i true) (a.put oi.dst v) w) : wpAnyE P md ops Q S s (fuel + 1) listed a w := by
  simp only [Bool.and_eq_true, bne_iff_ne, Bool.not_eq_true'] at hk
  obtain ⟨⟨⟨⟨⟨⟨⟨h1, h2⟩, h3⟩, h4⟩, h5⟩, h6⟩, h7⟩, h8⟩ := hk
  obtain ⟨oc, hc, hci⟩ := waits_spec h5
  obtain ⟨os, hs, hsc⟩ := waits_spec h6
  exact wpAnyE_load hi hc hs h4 hci hsc (Region.noSelect_spec h1) hQ fuel listed a w (Region.free_spec hi h2) (by simpa using h3) h7 h8 (Or.inl hy) hS h

/-- an operation whose guard is false is passed over -/
theorem wpAnyE_takeU {i : Nat} {oi : Oper} {fuel : Nat} {listed : Array Bool} {a : Act} {w : World} (hi : ops[i]? = some oi)
    (hk : (Region.noSelect ops && Region.free md ops listed i && (Region.ready md ops listed).contains i && (i != s)) = true)
    (hQ : ∀ c a w, Q (.panic c) (a.put oi.dst undef) w → Q (.panic c) a w) (hy : Region.wanted oi (yielded ops a.tmps) = false) (hS : S w)
    (h : wpAnyE P md ops Q S s fuel (listed.setIfInBounds i true) (a.put oi.dst undef) w) : wpAnyE P md ops Q S s (fuel + 1) listed a w := by
  simp only [Bool.and_eq_true, bne_iff_ne] at hk
  obtain ⟨⟨⟨h1, h2⟩, h3⟩, h4⟩ := hk
  exact wpAnyE_pure hi h4 (Region.noSelect_spec h1) hQ fuel listed a w (Region.free_spec hi h2) (by simpa using h3) (Or.inr ⟨hy, rfl⟩) (fun _ => hS) h

/-- one operation alone may come up -/
theorem wpAnyE_one {i : Nat} {o : Oper} {fuel : Nat} {listed : Array Bool} {a : Act} {w : World} (ho : ops[i]? = some o) (hr : Region.ready md ops listed = [i])
    (h : ∀ K' : Act → World → Prop, Shut (∀ a w, ((listed.setIfInBounds i true).getD s true = false → S w) → wpAnyE P md ops Q S s fuel (listed.setIfInBounds i true) a w → K' a w) →
      if Region.wanted o (yielded ops a.tmps) = true then Oper.wp P o a w K' Q else K' (a.put o.dst undef) w) : wpAnyE P md ops Q S s (fuel + 1) listed a w := by
  refine ⟨fun h0 => by rw [hr] at h0; simp at h0, fun j hj => ?_⟩
  rw [hr] at hj
  obtain rfl : j = i := by simpa using hj
  exact wpOp_step ho (fun K' hK => h K' (fun a w hS hW => hK a w ⟨hS, hW⟩))

theorem wpAnyE_done {listed : Array Bool} {a : Act} {w : World} (hr : Region.ready md ops listed = []) (h : Q .normal a w) :
    ∀ fuel, wpAnyE P md ops Q S s fuel listed a w
  | 0 => ⟨hr, h⟩
  | _ + 1 => ⟨fun _ => h, by rw [hr]; simp⟩

theorem wp_region_E (s : Nat) {id : Nat} {a : Act} {w : World} (hm : P.follows .mixedOrders = true) (hS : S w.drew)
    (h : S w.drew → wpAnyE P .any ops Q S s ops.size (Array.replicate ops.size false) a w.drew) : (Code.region id ops true).wp P Q a w :=
  wp_region_any hm (wpAny_of_E _ _ _ _ (h hS))

end
theorem yA {α : Type _} {xs : List α} {i : Nat} (h : i < xs.toArray.size) : xs.toArray[i] = xs[i]'h := rfl
theorem yB {α : Type _} (a : α) (xs : List α) (h : 0 < (a :: xs).length) : (a :: xs)[0]'h = a := rfl
theorem yC {α : Type _} (a : α) (xs : List α) (i : Nat) (h : i + 1 < (a :: xs).length) : (a :: xs)[i + 1]'h = xs[i]'(Nat.lt_of_succ_lt_succ h) := rfl
theorem yD {α : Type _} (xs : List α) (i : Nat) (a : α) : xs.toArray.setIfInBounds i a = (xs.set i a).toArray := List.setIfInBounds_toArray ..
theorem yE {α : Type _} {x y : α} {xs : List α} : (x :: xs).set 0 y = y :: xs := rfl
theorem yF {α : Type _} {x y : α} {xs : List α} {n : Nat} : (x :: xs).set (n + 1) y = x :: xs.set n y := rfl

end Go.Proofs.YtjjolcjeiogdmabGreatDoor

/- A region that draws its order, of which m operations may come up in many orders (allocations among them): shown by one condition on what is listed, on the slots that they fill and on the world. -/
namespace Go.Proofs.YtjjolcjeiogdmabGreatDoor
open Go.RowKit

theorem row_set_ne {w : World} {g h i : Nat} {o : Option Obj} {v : Value} (hne : g ≠ h) (k : w.heap[h]? = o) : (w.setCell ⟨g, i, none⟩ v).heap[h]? = o := by
  simp only [World.setCell, Array.getElem?_modify]
  rw [if_neg hne]; exact k

theorem row3 {w : World} {g : Nat} {a b c x y z : Value} {T : TypeId} (h : w.heap[g]? = some (.cells #[a, b, c] T (0, 0))) :
    (((w.setCell ⟨g, 0, none⟩ x).setCell ⟨g, 1, none⟩ y).setCell ⟨g, 2, none⟩ z).heap[g]? = some (.cells #[x, y, z] T (0, 0)) := row_set (row_set (row_set h))

theorem row3_ne {w : World} {g h : Nat} {x y z : Value} {o : Option Obj} (hne : g ≠ h) (k : w.heap[h]? = o) :
    (((w.setCell ⟨g, 0, none⟩ x).setCell ⟨g, 1, none⟩ y).setCell ⟨g, 2, none⟩ z).heap[h]? = o := row_set_ne hne (row_set_ne hne (row_set_ne hne k))

theorem lt_of_row {w : World} {g : Nat} {o : Obj} (h : w.heap[g]? = some o) : g < w.heap.size := by
  rcases Nat.lt_or_ge g w.heap.size with hlt | hge
  · exact hlt
  · rw [Array.getElem?_eq_none hge] at h; cases h

theorem SFr.set3 {w : World} {g : Nat} {x u : Value} {z : Int} {d : Nat} (h : SFr w x z d) (hc : w.cell? ⟨g, 0, none⟩ = some u) (hu : ∀ n, u ≠ wd .u32 n) (v1 v2 v3 : Value) :
    SFr (((w.setCell ⟨g, 0, none⟩ v1).setCell ⟨g, 1, none⟩ v2).setCell ⟨g, 2, none⟩ v3) x z d := by
  obtain ⟨neg, v, l, dv, dl, h1, h2, h3, h4, h5, h6, h7⟩ := h
  have o1 := h2.off hc hu
  have o2 := h6.off hc hu
  exact ⟨neg, v, l, dv, dl, h1, ((h2.setOff o1).setOff o1).setOff o1, h3, h4, h5, ((h6.setOff o2).setOff o2).setOff o2, h7⟩

section
variable {P : Program} {ops : Array Oper} {Q : Exit → Act → World → Prop} {md : Region.Mode}

end
end Go.Proofs.YtjjolcjeiogdmabGreatDoor

/- The contracts of the reference's fractions: Frac.Add, Frac.Mul. -/
namespace Go.Proofs.YtjjolcjeiogdmabGreatDoor
open Go.RowKit

end Go.Proofs.YtjjolcjeiogdmabGreatDoor

/- The contracts of the reference's natural numbers: natTrim and NatSub with the block of the result. -/
namespace Go.Proofs.YtjjolcjeiogdmabGreatDoor
open Go.RowKit

/-- the call returns a number that lies where v lay -/
def SRetO (w : World) (v0 : Value) (n : Nat) (e : Ending) (w' : World) : Prop := ∃ v l, e = .returned v ∧ SNat w' v l ∧ Norm l ∧ sval l = n ∧ Fresh w w' ∧ (∀ k, v.ownBlock = some k → v0.ownBlock = some k)

/-- the call returns a number that lies in a block of its own -/
def SNew (w : World) (n : Nat) (e : Ending) (w' : World) : Prop := ∃ v l, e = .returned v ∧ SNat w' v l ∧ Norm l ∧ sval l = n ∧ Fresh w w' ∧ (∀ k, v.ownBlock = some k → w.heap.size ≤ k)

set_option maxHeartbeats 400000 in
theorem natTrim_own (v : Value) (l : List Nat) (w : World) (h : SNat w v l) : Calls Tryz.prog 42 #[v] w (SRetO w v (sval l)) := by
  by_cases h0 : l.length = 0
  · obtain rfl : l = [] := List.eq_nil_of_length_eq_zero h0
    obtain ⟨a, c, rfl⟩ := h.form
    have H_h := Lib.hid h
    clear h h0
    go_enter Tryz.func42, Tryz.ntmps42
    go_wp2
    refine wp_loop_rounds 1 ?_
    rw [rounds_succ]
    go_wp2
    go_ret
    exact ⟨_, [], rfl, H_h.out, Norm.nil, rfl, Keep.refl _ _, fun _ h => h⟩
  · obtain ⟨g, cap, rfl, h1, h2, h3, h4⟩ := h.open_pos (by omega)
    have hlen := h.len
    generalize hn : l.length = n at *
    have H_h := Lib.hid h; clear h
    have H_h4 := Lib.hid h4; clear h4
    go_enter Tryz.func42, Tryz.ntmps42
    go_wp2
    go_loop [0] (fun v => ∃ k : Nat, k ≤ n ∧ v = .slice (some ⟨g, 0, none⟩) k cap ∧ Hid (normL.normK l n = normL.normK l k)) (fun v => match v with | .slice _ m _ => m | _ => 0)
    case atStart => exact ⟨n, Nat.le_refl _, rfl, rfl⟩
    case round =>
      obtain ⟨k, hk, rfl, he⟩ := hrel
      cases k with
      | zero =>
        go_wp2
        go_ret
        have hc := SNat.cut (w := w) (l := l) (by rw [hn]; exact H_h.out) (n := 0) (by omega)
        have hv : sval (normL l) = sval l := normL_sval l
        have hz : normL l = l.take 0 := by unfold normL; rw [hn, he.out]; rfl
        exact ⟨_, l.take 0, rfl, hc, by rw [← hz]; exact normL_norm l, by rw [← hz]; exact hv, Keep.refl _ _, fun _ h => h⟩
      | succ k =>
        have hc := H_h4.out k (by omega)
        generalize hx : l.getD k 0 = x at *
        have H_hx := Lib.hid hx
        clear hx
        have e1 : ((k : Int) + 1 - 1) = (k : Int) := by omega
        have e2 : ((k : Int) + 1 - 1).toNat = k := by omega
        by_cases hx0 : x = 0
        · have ht : ((x : Int) == 0) = true := by subst hx0; rfl
          have H_hx0 := Lib.hid hx0
          clear hx0
          go_wp2
          go_round
          case rel =>
            refine ⟨k, by omega, by simp, ?_⟩
            have := he.out
            simp only [normL.normK] at this
            rw [if_pos (by rw [H_hx.out]; exact H_hx0.out)] at this
            exact this
          case measure => simp
        · have ht : ((x : Int) == 0) = false := by rw [beq_eq_false_iff_ne]; omega
          have H_hx0 := Lib.hid hx0
          clear hx0
          go_wp2
          go_ret
          have hc := SNat.cut (w := w) (l := l) (by rw [hn]; exact H_h.out) (n := k + 1) (by omega)
          have hz : normL l = l.take (k + 1) := by
            unfold normL; rw [hn, he.out]; simp only [normL.normK]; rw [if_neg (by rw [H_hx.out]; exact H_hx0.out)]
          exact ⟨_, l.take (k + 1), rfl, hc, by rw [← hz]; exact normL_norm l, by rw [← hz]; exact normL_sval l, Keep.refl _ _, fun _ h => h⟩

set_option maxRecDepth 20000 in
set_option maxHeartbeats 2000000 in
theorem NatSub_own (xv yv : Value) (xs ys : List Nat) (w : World) (hx : SNat w xv xs) (hy : SNat w yv ys) (hm : ys.length ≤ xs.length) (hle : sval ys ≤ sval xs) (hlen : xs.length ≤ 100000) :
    Calls Tryz.prog 51 #[xv, yv] w (SNew w (sval xs - sval ys)) := by
  obtain ⟨i0, hi, hz0, hz1, hz2⟩ := info_parts info_u32
  obtain ⟨ax, cx, rfl⟩ := hx.form
  obtain ⟨ay, cy, rfl⟩ := hy.form
  obtain ⟨n, hn⟩ : ∃ n, n = xs.length := ⟨_, rfl⟩
  obtain ⟨m, hmm⟩ : ∃ m, m = ys.length := ⟨_, rfl⟩
  rw [← hn] at hlen hm hx ⊢
  rw [← hmm] at hm hy ⊢
  have H_hx := Lib.hid hx; clear hx
  have H_hy := Lib.hid hy; clear hy
  have H_hn := Lib.hid hn; clear hn
  have H_hmm := Lib.hid hmm; clear hmm
  have H_hle := Lib.hid hle; clear hle
  go_enter Tryz.func51, Tryz.ntmps51
  go_wp2_with (fail)
  go_loopw [5, 6, 12] (fun o b i wr => ∃ (k br : Nat) (L : List Nat), k ≤ n ∧ i = .int .i64 k ∧ b = .int .u32 br ∧ br ≤ 1 ∧ wr.ownsRow w.heap.size 78 1 o L.length (L.map (wd .u32)) ∧ Hid (Lim L) ∧ Hid (L.length = k) ∧ Hid (sval (xs.take k) + spow k * br = sval L + sval (ys.take k)) ∧ Hid (Fresh w wr)) (fun _ _ i _ => n - (intOf i).toNat)
  case atStart => exact ⟨0, 0, [], by omega, rfl, rfl, by omega, World.ownsRow_nil _ _ _ _, Lim.nil, Lib.hid rfl, Lib.hid (by simp [sval]), Keep.refl _ _⟩
  case round =>
    obtain ⟨k, br, L, hk, rfl, rfl, hbr, hown, hlim, hLl, hval, hfr⟩ := hrel
    have H_hown := Lib.hid hown
    clear hown
    by_cases hlt : k < n
    · obtain ⟨gx, rfl, hcx, hgx, hcells⟩ := (H_hx.out.fresh hfr.out).cells H_hn.out (by omega)
      have hxk := hcells k hlt
      have hxlim := H_hx.out.lim.getD k
      have hylim := H_hy.out.lim.getD k
      have hstep0 := fun (q : Nat) (hb : br + ys.getD k 0 ≤ xs.getD k 0) (e : q = xs.getD k 0 - (br + ys.getD k 0)) => sub_step0 (y := ys.getD k 0) (x := xs.getD k 0) hval.out hb
      have hstep1 := fun (q : Nat) (hb : br + ys.getD k 0 ≤ xs.getD k 0 + 1000000000) (e : q = xs.getD k 0 + 1000000000 - (br + ys.getD k 0)) => sub_step1 (y := ys.getD k 0) (x := xs.getD k 0) hval.out hb
      rw [← sval_take_succ' xs k, ← sval_take_succ' ys k, ← spow_succ] at hstep0 hstep1
      have hLk := hLl.out
      obtain ⟨x, hxx⟩ : ∃ x, x = xs.getD k 0 := ⟨_, rfl⟩
      obtain ⟨y, hyy⟩ : ∃ y, y = ys.getD k 0 := ⟨_, rfl⟩
      rw [← hxx] at hxk hxlim hstep0 hstep1
      rw [← hyy] at hylim hstep0 hstep1
      have hlt' : (k : Int) < (n : Int) := by omega
      have t1 : decide ((k : Int) < (n : Int)) = true := by simp; omega
      have hsz := hfr.out.size
      obtain ⟨d, hd⟩ : ∃ d, d = br + y := ⟨_, rfl⟩
      rw [← hd] at hstep0 hstep1
      have H_hcells := Lib.hid hcells; clear hcells
      have H_hxx := Lib.hid hxx; clear hxx
      by_cases hkm : k < m
      · obtain ⟨gy, rfl, hcy, hgy, hcells⟩ := (H_hy.out.fresh hfr.out).cells H_hmm.out (by omega)
        have hyk := hcells k hkm
        rw [← hyy] at hyk
        have hkm' : (k : Int) < (m : Int) := by omega
        have t2 : decide ((k : Int) < (m : Int)) = true := by simp; omega
        have hdI : (br : Int) + (y : Int) = (d : Int) := by omega
        have hd9 : d ≤ 1000000000 := by omega
        clear hd
        have H_hcells := Lib.hid hcells; clear hcells
        have H_hyy := Lib.hid hyy; clear hyy
        by_cases hxd : x < d
        · obtain ⟨q, hq⟩ : ∃ q, q = x + 1000000000 - d := ⟨_, rfl⟩
          have hstep := hstep1 q (by omega) hq
          rw [← hq] at hstep
          clear hstep0 hstep1
          have t3 : decide ((x : Int) < (d : Int)) = true := by simp; omega
          have hqI : (x : Int) + 1000000000 - (d : Int) = (q : Int) := by omega
          have hq9 : q < 1000000000 := by omega
          have hown2 := H_hown.out
          rw [hLk] at hown2
          have H_hstep := Lib.hid hstep; clear hstep
          clear hq
          go_wp2_with (at_builtin; refine wpList_append_own _ rfl _ _ 30 rfl w.heap.size 78 i0 (.int .u32 0) 1 4 Tryz.underlying30 hi hz0 hz1 hz2 rfl (by decide) _ _ _ rfl (hown2.alloc _) ⟨wr.heap.size, 0, none⟩ 1 1 [Value.int .u32 (q : Int)] rfl rfl ?c1 ?c2 ?c3 ?c4 ?c5 ?_)
          case c1 =>
            intro j u hj
            match j, hj with
            | 0, hj => simp at hj; subst hj; simp [Addr.add]
          case c2 => intro u hu; simp at hu; subst hu; rfl
          case c3 => unfold maxLen; omega
          case c4 => omega
          case c5 => simp; omega
          · intro v' w1 hown' hgrow _
            have hf1 : Fresh w w1 := Fresh.owns (hfr.out.alloc _) (H_hown.out.alloc _) (Nat.le_refl _) hgrow
            have hL : (L ++ [q]).length = L.length + 1 := by simp
            have hown1 : w1.ownsRow w.heap.size 78 1 v' (L ++ [q]).length ((L ++ [q]).map (wd .u32)) := by
              rw [hL, hLk, List.map_append]; exact hown'
            have H_hown1 := Lib.hid hown1; clear hown1
            have H_hf1 := Lib.hid hf1; clear hf1
            clear hown' hgrow hown2
            go_wp2_with (fail)
            go_roundw
            case rel => exact ⟨k + 1, 1, L ++ [q], by omega, by simp, rfl, by omega, H_hown1.out, Lib.hid (hlim.out.append (Lim.one hq9)), Lib.hid (by rw [hL, hLk]), Lib.hid (by have h9 := H_hstep.out; rw [sval_append, hLk]; simpa [sval] using h9), H_hf1⟩
            case measure => simp [intOf]; omega
        · obtain ⟨q, hq⟩ : ∃ q, q = x - d := ⟨_, rfl⟩
          have hstep := hstep0 q (by omega) hq
          rw [← hq] at hstep
          clear hstep0 hstep1
          have t3 : decide ((x : Int) < (d : Int)) = false := by simp; omega
          have hqI : (x : Int) - (d : Int) = (q : Int) := by omega
          have hq9 : q < 1000000000 := by omega
          have hown2 := H_hown.out
          rw [hLk] at hown2
          have H_hstep := Lib.hid hstep; clear hstep
          clear hq
          go_wp2_with (at_builtin; refine wpList_append_own _ rfl _ _ 30 rfl w.heap.size 78 i0 (.int .u32 0) 1 4 Tryz.underlying30 hi hz0 hz1 hz2 rfl (by decide) _ _ _ rfl (hown2.alloc _) ⟨wr.heap.size, 0, none⟩ 1 1 [Value.int .u32 (q : Int)] rfl rfl ?c1 ?c2 ?c3 ?c4 ?c5 ?_)
          case c1 =>
            intro j u hj
            match j, hj with
            | 0, hj => simp at hj; subst hj; simp [Addr.add]
          case c2 => intro u hu; simp at hu; subst hu; rfl
          case c3 => unfold maxLen; omega
          case c4 => omega
          case c5 => simp; omega
          · intro v' w1 hown' hgrow _
            have hf1 : Fresh w w1 := Fresh.owns (hfr.out.alloc _) (H_hown.out.alloc _) (Nat.le_refl _) hgrow
            have hL : (L ++ [q]).length = L.length + 1 := by simp
            have hown1 : w1.ownsRow w.heap.size 78 1 v' (L ++ [q]).length ((L ++ [q]).map (wd .u32)) := by
              rw [hL, hLk, List.map_append]; exact hown'
            have H_hown1 := Lib.hid hown1; clear hown1
            have H_hf1 := Lib.hid hf1; clear hf1
            clear hown' hgrow hown2
            go_wp2_with (fail)
            go_roundw
            case rel => exact ⟨k + 1, 0, L ++ [q], by omega, by simp, rfl, by omega, H_hown1.out, Lib.hid (hlim.out.append (Lim.one hq9)), Lib.hid (by rw [hL, hLk]), Lib.hid (by have h9 := H_hstep.out; rw [sval_append, hLk]; simpa [sval] using h9), H_hf1⟩
            case measure => simp [intOf]; omega
      · have hy0 : y = 0 := by
          have hml := H_hmm.out
          rw [hyy]; simp [List.getD, List.getElem?_eq_none (show ys.length ≤ k by omega)]
        have t2 : decide ((k : Int) < (m : Int)) = false := by simp; omega
        have hdb : br = d := by omega
        subst hdb
        clear hd
        have hyy' := hyy
        clear hyy hy0 hylim
        have H_hyy := Lib.hid hyy'
        clear hyy'
        by_cases hxd : x < br
        · obtain ⟨q, hq⟩ : ∃ q, q = x + 1000000000 - br := ⟨_, rfl⟩
          have hstep := hstep1 q (by omega) hq
          rw [← hq] at hstep
          clear hstep0 hstep1
          have t3 : decide ((x : Int) < (br : Int)) = true := by simp; omega
          have hqI : (x : Int) + 1000000000 - (br : Int) = (q : Int) := by omega
          have hq9 : q < 1000000000 := by omega
          have hown2 := H_hown.out
          rw [hLk] at hown2
          have H_hstep := Lib.hid hstep; clear hstep
          clear hq
          go_wp2_with (at_builtin; refine wpList_append_own _ rfl _ _ 30 rfl w.heap.size 78 i0 (.int .u32 0) 1 4 Tryz.underlying30 hi hz0 hz1 hz2 rfl (by decide) _ _ _ rfl (hown2.alloc _) ⟨wr.heap.size, 0, none⟩ 1 1 [Value.int .u32 (q : Int)] rfl rfl ?c1 ?c2 ?c3 ?c4 ?c5 ?_)
          case c1 =>
            intro j u hj
            match j, hj with
            | 0, hj => simp at hj; subst hj; simp [Addr.add]
          case c2 => intro u hu; simp at hu; subst hu; rfl
          case c3 => unfold maxLen; omega
          case c4 => omega
          case c5 => simp; omega
          · intro v' w1 hown' hgrow _
            have hf1 : Fresh w w1 := Fresh.owns (hfr.out.alloc _) (H_hown.out.alloc _) (Nat.le_refl _) hgrow
            have hL : (L ++ [q]).length = L.length + 1 := by simp
            have hown1 : w1.ownsRow w.heap.size 78 1 v' (L ++ [q]).length ((L ++ [q]).map (wd .u32)) := by
              rw [hL, hLk, List.map_append]; exact hown'
            have H_hown1 := Lib.hid hown1; clear hown1
            have H_hf1 := Lib.hid hf1; clear hf1
            clear hown' hgrow hown2
            go_wp2_with (fail)
            go_roundw
            case rel => exact ⟨k + 1, 1, L ++ [q], by omega, by simp, rfl, by omega, H_hown1.out, Lib.hid (hlim.out.append (Lim.one hq9)), Lib.hid (by rw [hL, hLk]), Lib.hid (by have h9 := H_hstep.out; rw [sval_append, hLk]; simpa [sval] using h9), H_hf1⟩
            case measure => simp [intOf]; omega
        · obtain ⟨q, hq⟩ : ∃ q, q = x - br := ⟨_, rfl⟩
          have hstep := hstep0 q (by omega) hq
          rw [← hq] at hstep
          clear hstep0 hstep1
          have t3 : decide ((x : Int) < (br : Int)) = false := by simp; omega
          have hqI : (x : Int) - (br : Int) = (q : Int) := by omega
          have hq9 : q < 1000000000 := by omega
          have hown2 := H_hown.out
          rw [hLk] at hown2
          have H_hstep := Lib.hid hstep; clear hstep
          clear hq
          go_wp2_with (at_builtin; refine wpList_append_own _ rfl _ _ 30 rfl w.heap.size 78 i0 (.int .u32 0) 1 4 Tryz.underlying30 hi hz0 hz1 hz2 rfl (by decide) _ _ _ rfl (hown2.alloc _) ⟨wr.heap.size, 0, none⟩ 1 1 [Value.int .u32 (q : Int)] rfl rfl ?c1 ?c2 ?c3 ?c4 ?c5 ?_)
          case c1 =>
            intro j u hj
            match j, hj with
            | 0, hj => simp at hj; subst hj; simp [Addr.add]
          case c2 => intro u hu; simp at hu; subst hu; rfl
          case c3 => unfold maxLen; omega
          case c4 => omega
          case c5 => simp; omega
          · intro v' w1 hown' hgrow _
            have hf1 : Fresh w w1 := Fresh.owns (hfr.out.alloc _) (H_hown.out.alloc _) (Nat.le_refl _) hgrow
            have hL : (L ++ [q]).length = L.length + 1 := by simp
            have hown1 : w1.ownsRow w.heap.size 78 1 v' (L ++ [q]).length ((L ++ [q]).map (wd .u32)) := by
              rw [hL, hLk, List.map_append]; exact hown'
            have H_hown1 := Lib.hid hown1; clear hown1
            have H_hf1 := Lib.hid hf1; clear hf1
            clear hown' hgrow hown2
            go_wp2_with (fail)
            go_roundw
            case rel => exact ⟨k + 1, 0, L ++ [q], by omega, by simp, rfl, by omega, H_hown1.out, Lib.hid (hlim.out.append (Lim.one hq9)), Lib.hid (by rw [hL, hLk]), Lib.hid (by have h9 := H_hstep.out; rw [sval_append, hLk]; simpa [sval] using h9), H_hf1⟩
            case measure => simp [intOf]; omega
    · obtain rfl : k = n := by omega
      have t1 : decide ((k : Int) < (k : Int)) = false := by simp
      have hs := SNat.of_owns H_hown.out hlim.out (by have := hLl.out; omega)
      obtain ⟨ao, co, rfl⟩ := hs.form
      have hcall := natTrim_own _ _ _ hs
      have H_hcall := Lib.hid hcall; clear hcall
      clear hs
      go_wp2_with (fail)
      refine H_hcall.out.mono ?_
      rintro e w2 ⟨v, l, rfl, h1, h2, h3, h4, h5⟩
      have H_h1 := Lib.hid h1; clear h1
      have H_h2 := Lib.hid h2; clear h2
      have H_h3 := Lib.hid h3; clear h3
      have H_h4 := Lib.hid h4; clear h4
      have H_h5 := Lib.hid h5; clear h5
      go_wp2_with (fail)
      go_ret
      refine ⟨_, l, rfl, H_h1.out, H_h2.out, ?_, fresh_trans hfr.out H_h4.out, fun k hk => (H_hown.out.lt k (H_h5.out k hk)).1⟩
      have hv := hval.out
      have hlt2 := sval_lt hlim.out
      rw [hLl.out] at hlt2
      rw [List.take_of_length_le (by have := H_hn.out; omega), List.take_of_length_le (by have := H_hmm.out; omega)] at hv
      have hl := H_hle.out
      have hb0 : br = 0 := by
        rcases Nat.eq_zero_or_pos br with h | h
        · exact h
        · obtain rfl : br = 1 := by omega
          omega
      subst hb0
      rw [H_h3.out]
      omega

end Go.Proofs.YtjjolcjeiogdmabGreatDoor
