/- The contracts of the reference's whole numbers: Mul. -/
import Derived.Test.YthemaneoighaoaaGreatDoorSMul
import Derived.Deep.RegionHeld3
namespace Go.Proofs.YthemaneoighaoaaGreatDoor
open Go.RowKit

/-- a whole number with its sign -/
def sint (neg : Bool) (l : List Nat) : Int := if neg then -(sval l : Int) else (sval l : Int)

/-- the pair is the whole number z, in canonical form -/
def SWh (w : World) (x : Value) (z : Int) : Prop := ∃ neg v l, x = swh neg v ∧ SNat w v l ∧ Norm l ∧ (l = [] → neg = false) ∧ sint neg l = z

theorem SWh.fresh {w w' : World} {x : Value} {z : Int} (h : SWh w x z) (hk : Fresh w w') : SWh w' x z := by
  obtain ⟨neg, v, l, h1, h2, h3⟩ := h
  exact ⟨neg, v, l, h1, h2.fresh hk, h3⟩

def WRet (w : World) (z : Int) (e : Ending) (w' : World) : Prop := ∃ x, e = .returned x ∧ SWh w' x z ∧ Fresh w w'

/-- two structs that came in, and the room of the result, each in a block of its own -/
theorem boxes3 (w : World) (c1 c2 c3 : Array Value) (T1 T2 T3 : TypeId) : ∀ g, g = w.heap.size → ∀ w1, ((w.alloc (.cells c1 T1)).alloc (.cells c2 T2)).alloc (.cells c3 T3) = w1 →
    w1.heap[g]? = some (.cells c1 T1 (0, 0)) ∧ w1.heap[g + 1]? = some (.cells c2 T2 (0, 0)) ∧ w1.heap[g + 1 + 1]? = some (.cells c3 T3 (0, 0)) ∧ Fresh w w1 ∧ w.heap.size = g := by
  rintro g rfl w1 rfl
  have s1 : (w.alloc (.cells c1 T1)).heap.size = w.heap.size + 1 := by simp
  have s2 : ((w.alloc (.cells c1 T1)).alloc (.cells c2 T2)).heap.size = w.heap.size + 1 + 1 := by simp
  refine ⟨?_, ?_, ?_, (((Keep.refl _ _).alloc _).alloc _).alloc _, rfl⟩
  · rw [(((Keep.refl (fun _ => False) (w.alloc (.cells c1 T1))).alloc (.cells c2 T2)).alloc (.cells c3 T3)).block w.heap.size (by omega) (fun h => h)]
    exact heap_alloc_new w _
  · rw [((Keep.refl (fun _ => False) ((w.alloc (.cells c1 T1)).alloc (.cells c2 T2))).alloc (.cells c3 T3)).block (w.heap.size + 1) (by omega) (fun h => h), ← s1]
    exact heap_alloc_new _ _
  · rw [← s2]
    exact heap_alloc_new _ _

theorem row_cell {w : World} {g : Nat} {cs : Array Value} {T : TypeId} (h : w.heap[g]? = some (.cells cs T (0, 0))) (i : Nat) : w.cell? ⟨g, i, none⟩ = cs[i]? := cell_of_row w g i cs T _ h

theorem cell_fresh {w w' : World} {p : Addr} {v : Value} (h : w.cell? p = some v) (hk : Fresh w w') : w'.cell? p = some v := (hk.cell (World.block_lt_of_cell? _ _ h) (fun h => h)).trans h

theorem far2 {w : World} {g h o o1 o2 : Nat} {v1 v2 : Value} {u : Option Value} (hne : h ≠ g) (k : w.cell? ⟨h, o, none⟩ = u) : ((w.setCell ⟨g, o1, none⟩ v1).setCell ⟨g, o2, none⟩ v2).cell? ⟨h, o, none⟩ = u := by
  rw [cell?_setCell_ne (.inl hne), cell?_setCell_ne (.inl hne)]; exact k

theorem row_set {w : World} {g i : Nat} {cs : Array Value} {T : TypeId} {v : Value} (h : w.heap[g]? = some (.cells cs T (0, 0))) : (w.setCell ⟨g, i, none⟩ v).heap[g]? = some (.cells (cs.setIfInBounds i v) T (0, 0)) := by
  simp only [World.setCell, Array.getElem?_modify, if_true, h]; rfl

theorem row_fresh {w w' : World} {g : Nat} {o : Obj} (h : w.heap[g]? = some o) (hk : Fresh w w') : w'.heap[g]? = some o := by
  have hlt : g < w.heap.size := by
    rcases Nat.lt_or_ge g w.heap.size with hlt | hge
    · exact hlt
    · rw [Array.getElem?_eq_none hge] at h; cases h
  rw [hk.block g hlt (fun h => h)]; exact h

/-- a store into a cell that holds no limb leaves the number -/
theorem SNat.far {w : World} {v : Value} {l : List Nat} {g o : Nat} {u x : Value} (h : SNat w v l) (hc : w.cell? ⟨g, o, none⟩ = some u) (hu : ∀ n, u ≠ wd .u32 n) : SNat (w.setCell ⟨g, o, none⟩ x) v l := by
  refine ⟨h.1, h.2.1, ?_⟩
  rcases h.2.2 with h0 | ⟨b, cap, cur, T, rfl, hg, h1, h2, h3, h4⟩
  · exact .inl h0
  · by_cases hb : b = g
    · subst hb
      have ho : l.length ≤ o := by
        rcases Nat.lt_or_ge o l.length with hlt | hge
        · exfalso
          rw [cell_of_row w b o cur T _ hg] at hc
          have e := congrArg (fun L => L[o]?) h4
          simp only [List.getElem?_take, List.getElem?_map] at e
          rw [if_pos hlt, Array.getElem?_toList, hc, List.getElem?_eq_getElem hlt] at e
          exact hu _ (Option.some.inj e)
        · exact hge
      refine .inr ⟨b, cap, _, T, rfl, row_set hg, h1, h2, by simp; exact h3, ?_⟩
      rw [Array.toList_setIfInBounds, List.take_set_of_le ho]; exact h4
    · refine .inr ⟨b, cap, cur, T, rfl, ?_, h1, h2, h3, h4⟩
      simp only [World.setCell, Array.getElem?_modify]
      rw [if_neg (fun e => hb e.symm)]; exact hg

theorem sint_mul {na nb : Bool} {la lb l : List Nat} (h : sval l = sval la * sval lb) (hn : Norm l) : sint ((na != nb) && decide (0 < l.length)) l = sint na la * sint nb lb := by
  by_cases h0 : 0 < l.length
  · simp only [h0, decide_true, Bool.and_true]
    cases na <;> cases nb <;> simp [sint, h, Int.neg_mul, Int.mul_neg]
  · obtain rfl : l = [] := List.eq_nil_of_length_eq_zero (by omega)
    have h' : (sval la : Int) * (sval lb : Int) = 0 := by rw [← Int.natCast_mul, ← h]; rfl
    simp only [List.length_nil, Nat.lt_irrefl, decide_false, Bool.and_false]
    cases na <;> cases nb <;> simp only [sint, if_true, if_false, Bool.false_eq_true, Int.neg_mul, Int.mul_neg, h'] <;> rfl

set_option maxRecDepth 20000 in
set_option maxHeartbeats 2000000 in
theorem WholeMul_any (na nb : Bool) (va vb : Value) (la lb : List Nat) (w : World) (ha : SNat w va la) (hb : SNat w vb lb) (hlen : la.length + lb.length ≤ 1000000) :
    Calls Tryz.prog 54 #[swh na va, swh nb vb] w (WRet w (sint na la * sint nb lb)) := by
  obtain ⟨aa, ca, rfl⟩ := ha.form
  obtain ⟨ab, cb, rfl⟩ := hb.form
  obtain ⟨g, hg⟩ : ∃ g, g = w.heap.size := ⟨_, rfl⟩
  have bx := boxes3 w #[.bool na, .slice aa la.length ca] #[.bool nb, .slice ab lb.length cb] #[.bool false, .slice none 0 0] 29 29 29 g hg
  have H_ha := Lib.hid ha; clear ha
  have H_hb := Lib.hid hb; clear hb
  have H_bx := Lib.hid bx; clear bx
  go_enter Tryz.func54, Tryz.ntmps54
  go_wp2_with (fail)
  generalize hw1 : ((w.alloc _).alloc _).alloc _ = w1
  rw [← hg]
  obtain ⟨b1, b2, b3, hf, hgs⟩ := H_bx.out w1 hw1
  have k0 := row_cell b1 0
  have k1 := row_cell b1 1
  have k2 := row_cell b2 0
  have k3 := row_cell b2 1
  simp at k0 k1 k2 k3
  have hcall : ∀ W, Fresh w1 W → Calls Tryz.prog 64 #[.slice aa la.length ca, .slice ab lb.length cb] W (SRet W (sval la * sval lb)) := fun W hW => NatMul_any _ _ la lb W ((H_ha.out.fresh hf).fresh hW) ((H_hb.out.fresh hf).fresh hW) hlen
  have H_b1 := Lib.hid b1; clear b1
  have H_b2 := Lib.hid b2; clear b2
  have H_b3 := Lib.hid b3; clear b3
  have H_hf := Lib.hid hf; clear hf
  have H_hcall := Lib.hid hcall; clear hcall
  have H_hw1 := Lib.hid hw1; clear hw1
  have H_hg := Lib.hid hg; clear hg
  have H_hgs := Lib.hid hgs; clear hgs
  go_region_held3 (fun (w' : World) => w'.cell? ⟨g, 0, none⟩ = some (.bool na) ∧ w'.cell? ⟨g, 1, none⟩ = some (.slice aa la.length ca) ∧ w'.cell? ⟨g + 1, 0, none⟩ = some (.bool nb) ∧ w'.cell? ⟨g + 1, 1, none⟩ = some (.slice ab lb.length cb)) (first | exact ⟨k0, k1, k2, k3⟩ | exact ⟨m0, m1, m2, m3⟩ | exact ⟨n0, n1, n2, n3⟩ | exact ⟨far2 (by omega) n0, far2 (by omega) n1, far2 (by omega) n2, far2 (by omega) n3⟩) (first
    | (go_at_call 64; refine (H_hcall.out _ (by first | exact Keep.refl _ _ | exact (Keep.refl _ _).drew | exact (Keep.refl _ _).drewN _)).mono ?_; rintro e w3 ⟨v, l, rfl, r1, r2, r3, r4⟩; obtain ⟨av, cv, rfl⟩ := r1.form; have hf3 : Fresh w1 w3 := (by first | exact r4 | exact r4.of_drew | exact r4.of_drewN); have m0 := cell_fresh k0 hf3; have m1 := cell_fresh k1 hf3; have m2 := cell_fresh k2 hf3; have m3 := cell_fresh k3 hf3; have H_r1 := Lib.hid r1; have H_r2 := Lib.hid r2; have H_r3 := Lib.hid r3; have H_r4 := Lib.hid r4; have H_hf3 := Lib.hid hf3; clear r1 r2 r3 r4 hf3)
    | (go_at_call 29; refine (wholeOf_any _ _ _ _ H_r1.out).mono ?_; rintro e w4 ⟨rfl, r5⟩; have n0 := cell_fresh m0 r5; have n1 := cell_fresh m1 r5; have n2 := cell_fresh m2 r5; have n3 := cell_fresh m3 r5; have b4 := row_fresh (row_fresh H_b3.out H_hf3.out) r5; have p0 := row_cell b4 0; have p1 := row_cell b4 1; have q0 : w4.frozen? ⟨g + 1 + 1, 0, none⟩ = false := frozen_of_row _ _ _ _ _ b4; have q1 : w4.frozen? ⟨g + 1 + 1, 1, none⟩ = false := frozen_of_row _ _ _ _ _ b4; simp at p0 p1; have H_r5 := Lib.hid r5; have H_b4 := Lib.hid b4; clear r5 b4))
  go_wp2
  refine bodyPost_ret (results_cell_row rfl _ _ (g + 1 + 1) 29 #[.bool ((na != nb) && decide (0 < l.length)), .slice av l.length cv] (0, 0) _ rfl (row_set (row_set H_b4.out)) Tryz.underlying29 rfl (by kernel_rfl)) rfl ?_
  refine ⟨_, rfl, ⟨_, _, l, rfl, ?_, H_r2.out, ?_, sint_mul H_r3.out H_r2.out⟩, ?_⟩
  · exact ((H_r1.out.fresh H_r5.out).far p0 (fun n e => by simp at e)).far ((cell?_setCell_ne (.inr (by show (1 : Nat) ≠ 0; omega))).trans p1) (fun n e => by simp at e)
  · rintro rfl; simp
  · exact (((H_hf.out.trans H_hf3.out (fun _ _ h => h) (fun _ _ h => h)).trans H_r5.out (fun _ _ h => h) (fun _ _ h => h)).setCell (fun h => by have := H_hg.out; change g + 1 + 1 < w.heap.size at h; omega) _).setCell (fun h => by have := H_hg.out; change g + 1 + 1 < w.heap.size at h; omega) _

end Go.Proofs.YthemaneoighaoaaGreatDoor
