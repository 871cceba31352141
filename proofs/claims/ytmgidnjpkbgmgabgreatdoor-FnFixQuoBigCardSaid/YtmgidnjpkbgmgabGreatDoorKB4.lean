/- The contracts of the reference's whole numbers: Mul. -/
import Derived.Deep.RegionHeld3
import Derived.Test.YtmgidnjpkbgmgabGreatDoorKB3
namespace Go.Proofs.YtmgidnjpkbgmgabGreatDoor
open Go.RowKit

/-- a whole number with its sign -/
def sint (neg : Bool) (l : List Nat) : Int := if neg then -(sval l : Int) else (sval l : Int)

/-- the pair is the whole number z, in canonical form -/
def SWh (w : World) (x : Value) (z : Int) : Prop := ∃ neg v l, x = swh neg v ∧ SNat w v l ∧ Norm l ∧ (l = [] → neg = false) ∧ sint neg l = z

theorem SWh.fresh {w w' : World} {x : Value} {z : Int} (h : SWh w x z) (hk : Fresh w w') : SWh w' x z := by
  obtain ⟨neg, v, l, h1, h2, h3⟩ := h
  exact ⟨neg, v, l, h1, h2.fresh hk, h3⟩

def WRet (w : World) (z : Int) (e : Ending) (w' : World) : Prop := ∃ x, e = .returned x ∧ SWh w' x z ∧ Fresh w w'

/-- two structs that came in, and the room of the result, each in a block of its own -/
theorem boxes3 (w : World) (c1 c2 c3 : Array Value) (T1 T2 T3 : TypeId) : ∀ g, g = w.heap.size → ∀ w1, ((w.alloc (.cells c1 T1)).alloc (.cells c2 T2)).alloc (.cells c3 T3) = w1 →
    w1.heap[g]? = some (.cells c1 T1 (0, 0)) ∧ w1.heap[g + 1]? = some (.cells c2 T2 (0, 0)) ∧ w1.heap[g + 1 + 1]? = some (.cells c3 T3 (0, 0)) ∧ Fresh w w1 ∧ w.heap.size = g := by
  rintro g rfl w1 rfl
  have s1 : (w.alloc (.cells c1 T1)).heap.size = w.heap.size + 1 := by simp
  have s2 : ((w.alloc (.cells c1 T1)).alloc (.cells c2 T2)).heap.size = w.heap.size + 1 + 1 := by simp
  refine ⟨?_, ?_, ?_, (((Keep.refl _ _).alloc _).alloc _).alloc _, rfl⟩
  · rw [(((Keep.refl (fun _ => False) (w.alloc (.cells c1 T1))).alloc (.cells c2 T2)).alloc (.cells c3 T3)).block w.heap.size (by omega) (fun h => h)]
    exact heap_alloc_new w _
  · rw [((Keep.refl (fun _ => False) ((w.alloc (.cells c1 T1)).alloc (.cells c2 T2))).alloc (.cells c3 T3)).block (w.heap.size + 1) (by omega) (fun h => h), ← s1]
    exact heap_alloc_new _ _
  · rw [← s2]
    exact heap_alloc_new _ _

theorem row_cell {w : World} {g : Nat} {cs : Array Value} {T : TypeId} (h : w.heap[g]? = some (.cells cs T (0, 0))) (i : Nat) : w.cell? ⟨g, i, none⟩ = cs[i]? := cell_of_row w g i cs T _ h

theorem cell_fresh {w w' : World} {p : Addr} {v : Value} (h : w.cell? p = some v) (hk : Fresh w w') : w'.cell? p = some v := (hk.cell (World.block_lt_of_cell? _ _ h) (fun h => h)).trans h

theorem far2 {w : World} {g h o o1 o2 : Nat} {v1 v2 : Value} {u : Option Value} (hne : h ≠ g) (k : w.cell? ⟨h, o, none⟩ = u) : ((w.setCell ⟨g, o1, none⟩ v1).setCell ⟨g, o2, none⟩ v2).cell? ⟨h, o, none⟩ = u := by
  rw [cell?_setCell_ne (.inl hne), cell?_setCell_ne (.inl hne)]; exact k

theorem row_set {w : World} {g i : Nat} {cs : Array Value} {T : TypeId} {v : Value} (h : w.heap[g]? = some (.cells cs T (0, 0))) : (w.setCell ⟨g, i, none⟩ v).heap[g]? = some (.cells (cs.setIfInBounds i v) T (0, 0)) := by
  simp only [World.setCell, Array.getElem?_modify, if_true, h]; rfl

theorem row_fresh {w w' : World} {g : Nat} {o : Obj} (h : w.heap[g]? = some o) (hk : Fresh w w') : w'.heap[g]? = some o := by
  have hlt : g < w.heap.size := by
    rcases Nat.lt_or_ge g w.heap.size with hlt | hge
    · exact hlt
    · rw [Array.getElem?_eq_none hge] at h; cases h
  rw [hk.block g hlt (fun h => h)]; exact h

/-- a store into a cell that holds no limb leaves the number -/
theorem SNat.far {w : World} {v : Value} {l : List Nat} {g o : Nat} {u x : Value} (h : SNat w v l) (hc : w.cell? ⟨g, o, none⟩ = some u) (hu : ∀ n, u ≠ wd .u32 n) : SNat (w.setCell ⟨g, o, none⟩ x) v l := by
  refine ⟨h.1, h.2.1, ?_⟩
  rcases h.2.2 with h0 | ⟨b, cap, cur, T, rfl, hg, h1, h2, h3, h4⟩
  · exact .inl h0
  · by_cases hb : b = g
    · subst hb
      have ho : l.length ≤ o := by
        rcases Nat.lt_or_ge o l.length with hlt | hge
        · exfalso
          rw [cell_of_row w b o cur T _ hg] at hc
          have e := congrArg (fun L => L[o]?) h4
          simp only [List.getElem?_take, List.getElem?_map] at e
          rw [if_pos hlt, Array.getElem?_toList, hc, List.getElem?_eq_getElem hlt] at e
          exact hu _ (Option.some.inj e)
        · exact hge
      refine .inr ⟨b, cap, _, T, rfl, row_set hg, h1, h2, by simp; exact h3, ?_⟩
      rw [Array.toList_setIfInBounds, List.take_set_of_le ho]; exact h4
    · refine .inr ⟨b, cap, cur, T, rfl, ?_, h1, h2, h3, h4⟩
      simp only [World.setCell, Array.getElem?_modify]
      rw [if_neg (fun e => hb e.symm)]; exact hg

theorem sint_mul {na nb : Bool} {la lb l : List Nat} (h : sval l = sval la * sval lb) (hn : Norm l) : sint ((na != nb) && decide (0 < l.length)) l = sint na la * sint nb lb := by
  by_cases h0 : 0 < l.length
  · simp only [h0, decide_true, Bool.and_true]
    cases na <;> cases nb <;> simp [sint, h, Int.neg_mul, Int.mul_neg]
  · obtain rfl : l = [] := List.eq_nil_of_length_eq_zero (by omega)
    have h' : (sval la : Int) * (sval lb : Int) = 0 := by rw [← Int.natCast_mul, ← h]; rfl
    simp only [List.length_nil, Nat.lt_irrefl, decide_false, Bool.and_false]
    cases na <;> cases nb <;> simp only [sint, if_true, if_false, Bool.false_eq_true, Int.neg_mul, Int.mul_neg, h'] <;> rfl

set_option maxRecDepth 20000 in
set_option maxHeartbeats 2000000 in
theorem WholeMul_any (na nb : Bool) (va vb : Value) (la lb : List Nat) (w : World) (ha : SNat w va la) (hb : SNat w vb lb) (hlen : la.length + lb.length ≤ 1000000) :
    Calls Tryz.prog 57 #[swh na va, swh nb vb] w (WRet w (sint na la * sint nb lb)) := by
  obtain ⟨aa, ca, rfl⟩ := ha.form
  obtain ⟨ab, cb, rfl⟩ := hb.form
  obtain ⟨g, hg⟩ : ∃ g, g = w.heap.size := ⟨_, rfl⟩
  have bx := boxes3 w #[.bool na, .slice aa la.length ca] #[.bool nb, .slice ab lb.length cb] #[.bool false, .slice none 0 0] 37 37 37 g hg
  have H_ha := Lib.hid ha; clear ha
  have H_hb := Lib.hid hb; clear hb
  have H_bx := Lib.hid bx; clear bx
  go_enter Tryz.func57, Tryz.ntmps57
  go_wp2_with (fail)
  generalize hw1 : ((w.alloc _).alloc _).alloc _ = w1
  rw [← hg]
  obtain ⟨b1, b2, b3, hf, hgs⟩ := H_bx.out w1 hw1
  have k0 := row_cell b1 0
  have k1 := row_cell b1 1
  have k2 := row_cell b2 0
  have k3 := row_cell b2 1
  simp at k0 k1 k2 k3
  have hcall : ∀ W, Fresh w1 W → Calls Tryz.prog 49 #[.slice aa la.length ca, .slice ab lb.length cb] W (SRet W (sval la * sval lb)) := fun W hW => NatMul_any _ _ la lb W ((H_ha.out.fresh hf).fresh hW) ((H_hb.out.fresh hf).fresh hW) hlen
  have H_b1 := Lib.hid b1; clear b1
  have H_b2 := Lib.hid b2; clear b2
  have H_b3 := Lib.hid b3; clear b3
  have H_hf := Lib.hid hf; clear hf
  have H_hcall := Lib.hid hcall; clear hcall
  have H_hw1 := Lib.hid hw1; clear hw1
  have H_hg := Lib.hid hg; clear hg
  have H_hgs := Lib.hid hgs; clear hgs
  go_region_held3 (fun (w' : World) => w'.cell? ⟨g, 0, none⟩ = some (.bool na) ∧ w'.cell? ⟨g, 1, none⟩ = some (.slice aa la.length ca) ∧ w'.cell? ⟨g + 1, 0, none⟩ = some (.bool nb) ∧ w'.cell? ⟨g + 1, 1, none⟩ = some (.slice ab lb.length cb)) (first | exact ⟨k0, k1, k2, k3⟩ | exact ⟨m0, m1, m2, m3⟩ | exact ⟨n0, n1, n2, n3⟩ | exact ⟨far2 (by omega) n0, far2 (by omega) n1, far2 (by omega) n2, far2 (by omega) n3⟩) (first
    | (go_at_call 49; refine (H_hcall.out _ (by first | exact Keep.refl _ _ | exact (Keep.refl _ _).drew | exact (Keep.refl _ _).drewN _)).mono ?_; rintro e w3 ⟨v, l, rfl, r1, r2, r3, r4⟩; obtain ⟨av, cv, rfl⟩ := r1.form; have hf3 : Fresh w1 w3 := (by first | exact r4 | exact r4.of_drew | exact r4.of_drewN); have m0 := cell_fresh k0 hf3; have m1 := cell_fresh k1 hf3; have m2 := cell_fresh k2 hf3; have m3 := cell_fresh k3 hf3; have H_r1 := Lib.hid r1; have H_r2 := Lib.hid r2; have H_r3 := Lib.hid r3; have H_r4 := Lib.hid r4; have H_hf3 := Lib.hid hf3; clear r1 r2 r3 r4 hf3)
    | (go_at_call 48; refine (wholeOf_any _ _ _ _ H_r1.out).mono ?_; rintro e w4 ⟨rfl, r5⟩; have n0 := cell_fresh m0 r5; have n1 := cell_fresh m1 r5; have n2 := cell_fresh m2 r5; have n3 := cell_fresh m3 r5; have b4 := row_fresh (row_fresh H_b3.out H_hf3.out) r5; have p0 := row_cell b4 0; have p1 := row_cell b4 1; have q0 : w4.frozen? ⟨g + 1 + 1, 0, none⟩ = false := frozen_of_row _ _ _ _ _ b4; have q1 : w4.frozen? ⟨g + 1 + 1, 1, none⟩ = false := frozen_of_row _ _ _ _ _ b4; simp at p0 p1; have H_r5 := Lib.hid r5; have H_b4 := Lib.hid b4; clear r5 b4))
  go_wp2
  refine bodyPost_ret (results_cell_row rfl _ _ (g + 1 + 1) 37 #[.bool ((na != nb) && decide (0 < l.length)), .slice av l.length cv] (0, 0) _ rfl (row_set (row_set H_b4.out)) Tryz.underlying37 rfl (by kernel_rfl)) rfl ?_
  refine ⟨_, rfl, ⟨_, _, l, rfl, ?_, H_r2.out, ?_, sint_mul H_r3.out H_r2.out⟩, ?_⟩
  · exact ((H_r1.out.fresh H_r5.out).far p0 (fun n e => by simp at e)).far ((cell?_setCell_ne (.inr (by show (1 : Nat) ≠ 0; omega))).trans p1) (fun n e => by simp at e)
  · rintro rfl; simp
  · exact (((H_hf.out.trans H_hf3.out (fun _ _ h => h) (fun _ _ h => h)).trans H_r5.out (fun _ _ h => h) (fun _ _ h => h)).setCell (fun h => by have := H_hg.out; change g + 1 + 1 < w.heap.size at h; omega) _).setCell (fun h => by have := H_hg.out; change g + 1 + 1 < w.heap.size at h; omega) _

end Go.Proofs.YtmgidnjpkbgmgabGreatDoor

/- The contracts of the reference's whole numbers: Cmp. -/
namespace Go.Proofs.YtmgidnjpkbgmgabGreatDoor
open Go.RowKit

/-- how two whole numbers compare -/
def cmpZ (a b : Int) : Int := if a < b then -1 else if b < a then 1 else 0

theorem sint_pos {l : List Nat} (hn : Norm l) (h : l ≠ []) : 0 < sval l := (sval_pos_iff hn).1 (List.length_pos_iff.2 h)

theorem boxes2 (w : World) (c1 c2 : Array Value) (T1 T2 : TypeId) : ∀ g, g = w.heap.size → ∀ w1, (w.alloc (.cells c1 T1)).alloc (.cells c2 T2) = w1 →
    w1.heap[g]? = some (.cells c1 T1 (0, 0)) ∧ w1.heap[g + 1]? = some (.cells c2 T2 (0, 0)) ∧ Fresh w w1 := by
  rintro g rfl w1 rfl
  have s1 : (w.alloc (.cells c1 T1)).heap.size = w.heap.size + 1 := by simp
  refine ⟨?_, ?_, ((Keep.refl _ _).alloc _).alloc _⟩
  · rw [((Keep.refl (fun _ => False) (w.alloc (.cells c1 T1))).alloc (.cells c2 T2)).block w.heap.size (by omega) (fun h => h)]
    exact heap_alloc_new w _
  · rw [← s1]
    exact heap_alloc_new _ _

theorem cmpZ_nn (a b : Nat) : cmpZ (-(a : Int)) (-(b : Int)) = cmpN b a := by unfold cmpZ cmpN; split <;> split <;> (try split) <;> (try split) <;> omega
theorem cmpZ_pp (a b : Nat) : cmpZ (a : Int) (b : Int) = cmpN a b := by unfold cmpZ cmpN; split <;> split <;> (try split) <;> (try split) <;> omega

/-- the call returns an int, and leaves all that was there -/
def IRet (w : World) (z : Int) (e : Ending) (w' : World) : Prop := e = .returned (.int .i64 z) ∧ Fresh w w'

theorem cmpZ_np {la lb : List Nat} (hna : Norm la) (hca : la = [] → true = false) : cmpZ (sint true la) (sint false lb) = -1 := by
  have := sint_pos hna (fun e => by have := hca e; simp at this)
  unfold cmpZ sint; simp only [if_true, Bool.false_eq_true, if_false]; rw [if_pos (by omega)]
theorem cmpZ_pn {la lb : List Nat} (hnb : Norm lb) (hcb : lb = [] → true = false) : cmpZ (sint false la) (sint true lb) = 1 := by
  have := sint_pos hnb (fun e => by have := hcb e; simp at this)
  unfold cmpZ sint; simp only [if_true, Bool.false_eq_true, if_false]; rw [if_neg (by omega), if_pos (by omega)]

set_option maxRecDepth 20000 in
set_option maxHeartbeats 2000000 in
theorem WholeCmp_ff (va vb : Value) (la lb : List Nat) (w : World) (ha : SNat w va la) (hb : SNat w vb lb) (hna : Norm la) (hnb : Norm lb) (hca : la = [] → false = false) (hcb : lb = [] → false = false) :
    Calls Tryz.prog 84 #[swh false va, swh false vb] w (IRet w (cmpZ (sint false la) (sint false lb))) := by
  obtain ⟨aa, ca, rfl⟩ := ha.form
  obtain ⟨ab, cb, rfl⟩ := hb.form
  obtain ⟨g, hg⟩ : ∃ g, g = w.heap.size := ⟨_, rfl⟩
  have hf : Fresh w ((w.alloc (.cells #[.bool false, .slice aa la.length ca] 37)).alloc (.cells #[.bool false, .slice ab lb.length cb] 37)) := ((Keep.refl _ _).alloc _).alloc _
  have hcall := NatCmp_any _ _ la lb _ (ha.fresh hf) (hb.fresh hf) hna hnb
  have hres : cmpZ (sint false la) (sint false lb) = cmpN (sval la) (sval lb) := cmpZ_pp _ _
  have H_ha := Lib.hid ha; clear ha
  have H_hb := Lib.hid hb; clear hb
  have H_hna := Lib.hid hna; clear hna
  have H_hnb := Lib.hid hnb; clear hnb
  have H_hca := Lib.hid hca; clear hca
  have H_hcb := Lib.hid hcb; clear hcb
  have H_hcall := Lib.hid hcall; clear hcall
  have H_hres := Lib.hid hres; clear hres
  have H_hf := Lib.hid hf; clear hf
  have H_hg := Lib.hid hg; clear hg
  go_enter Tryz.func84, Tryz.ntmps84
  go_wp2_with (fail)
  refine H_hcall.out.mono ?_
  rintro e w2 ⟨rfl, n, rfl⟩
  go_wp2_with (fail)
  go_ret
  exact ⟨by rw [H_hres.out]; rfl, H_hf.out.drewN n⟩

set_option maxRecDepth 20000 in
set_option maxHeartbeats 2000000 in
theorem WholeCmp_ft (va vb : Value) (la lb : List Nat) (w : World) (ha : SNat w va la) (hb : SNat w vb lb) (hna : Norm la) (hnb : Norm lb) (hca : la = [] → false = false) (hcb : lb = [] → true = false) :
    Calls Tryz.prog 84 #[swh false va, swh true vb] w (IRet w (cmpZ (sint false la) (sint true lb))) := by
  obtain ⟨aa, ca, rfl⟩ := ha.form
  obtain ⟨ab, cb, rfl⟩ := hb.form
  obtain ⟨g, hg⟩ : ∃ g, g = w.heap.size := ⟨_, rfl⟩
  have hf : Fresh w ((w.alloc (.cells #[.bool false, .slice aa la.length ca] 37)).alloc (.cells #[.bool true, .slice ab lb.length cb] 37)) := ((Keep.refl _ _).alloc _).alloc _
  have hres : cmpZ (sint false la) (sint true lb) = 1 := cmpZ_pn hnb hcb
  have H_ha := Lib.hid ha; clear ha
  have H_hb := Lib.hid hb; clear hb
  have H_hna := Lib.hid hna; clear hna
  have H_hnb := Lib.hid hnb; clear hnb
  have H_hca := Lib.hid hca; clear hca
  have H_hcb := Lib.hid hcb; clear hcb
  have H_hres := Lib.hid hres; clear hres
  have H_hf := Lib.hid hf; clear hf
  have H_hg := Lib.hid hg; clear hg
  go_enter Tryz.func84, Tryz.ntmps84
  go_wp2_with (fail)
  go_ret
  exact ⟨by rw [H_hres.out]; rfl, H_hf.out⟩

set_option maxRecDepth 20000 in
set_option maxHeartbeats 2000000 in
theorem WholeCmp_tf (va vb : Value) (la lb : List Nat) (w : World) (ha : SNat w va la) (hb : SNat w vb lb) (hna : Norm la) (hnb : Norm lb) (hca : la = [] → true = false) (hcb : lb = [] → false = false) :
    Calls Tryz.prog 84 #[swh true va, swh false vb] w (IRet w (cmpZ (sint true la) (sint false lb))) := by
  obtain ⟨aa, ca, rfl⟩ := ha.form
  obtain ⟨ab, cb, rfl⟩ := hb.form
  obtain ⟨g, hg⟩ : ∃ g, g = w.heap.size := ⟨_, rfl⟩
  have hf : Fresh w ((w.alloc (.cells #[.bool true, .slice aa la.length ca] 37)).alloc (.cells #[.bool false, .slice ab lb.length cb] 37)) := ((Keep.refl _ _).alloc _).alloc _
  have hres : cmpZ (sint true la) (sint false lb) = -1 := cmpZ_np hna hca
  have H_ha := Lib.hid ha; clear ha
  have H_hb := Lib.hid hb; clear hb
  have H_hna := Lib.hid hna; clear hna
  have H_hnb := Lib.hid hnb; clear hnb
  have H_hca := Lib.hid hca; clear hca
  have H_hcb := Lib.hid hcb; clear hcb
  have H_hres := Lib.hid hres; clear hres
  have H_hf := Lib.hid hf; clear hf
  have H_hg := Lib.hid hg; clear hg
  go_enter Tryz.func84, Tryz.ntmps84
  go_wp2_with (fail)
  go_ret
  exact ⟨by rw [H_hres.out]; rfl, H_hf.out⟩

set_option maxRecDepth 20000 in
set_option maxHeartbeats 2000000 in
theorem WholeCmp_tt (va vb : Value) (la lb : List Nat) (w : World) (ha : SNat w va la) (hb : SNat w vb lb) (hna : Norm la) (hnb : Norm lb) (hca : la = [] → true = false) (hcb : lb = [] → true = false) :
    Calls Tryz.prog 84 #[swh true va, swh true vb] w (IRet w (cmpZ (sint true la) (sint true lb))) := by
  obtain ⟨aa, ca, rfl⟩ := ha.form
  obtain ⟨ab, cb, rfl⟩ := hb.form
  obtain ⟨g, hg⟩ : ∃ g, g = w.heap.size := ⟨_, rfl⟩
  have hf : Fresh w ((w.alloc (.cells #[.bool true, .slice aa la.length ca] 37)).alloc (.cells #[.bool true, .slice ab lb.length cb] 37)) := ((Keep.refl _ _).alloc _).alloc _
  have hcall := NatCmp_any _ _ lb la _ (hb.fresh hf) (ha.fresh hf) hnb hna
  have hres : cmpZ (sint true la) (sint true lb) = cmpN (sval lb) (sval la) := cmpZ_nn _ _
  have H_ha := Lib.hid ha; clear ha
  have H_hb := Lib.hid hb; clear hb
  have H_hna := Lib.hid hna; clear hna
  have H_hnb := Lib.hid hnb; clear hnb
  have H_hca := Lib.hid hca; clear hca
  have H_hcb := Lib.hid hcb; clear hcb
  have H_hcall := Lib.hid hcall; clear hcall
  have H_hres := Lib.hid hres; clear hres
  have H_hf := Lib.hid hf; clear hf
  have H_hg := Lib.hid hg; clear hg
  go_enter Tryz.func84, Tryz.ntmps84
  go_wp2_with (fail)
  refine H_hcall.out.mono ?_
  rintro e w2 ⟨rfl, n, rfl⟩
  go_wp2_with (fail)
  go_ret
  exact ⟨by rw [H_hres.out]; rfl, H_hf.out.drewN n⟩

theorem WholeCmp_any (xa xb : Value) (za zb : Int) (w : World) (ha : SWh w xa za) (hb : SWh w xb zb) :
    Calls Tryz.prog 84 #[xa, xb] w (IRet w (cmpZ za zb)) := by
  obtain ⟨na, va, la, rfl, ha, hna, hca, rfl⟩ := ha
  obtain ⟨nb, vb, lb, rfl, hb, hnb, hcb, rfl⟩ := hb
  cases na <;> cases nb
  · exact WholeCmp_ff va vb la lb w ha hb hna hnb hca hcb
  · exact WholeCmp_ft va vb la lb w ha hb hna hnb hca hcb
  · exact WholeCmp_tf va vb la lb w ha hb hna hnb hca hcb
  · exact WholeCmp_tt va vb la lb w ha hb hna hnb hca hcb

end Go.Proofs.YtmgidnjpkbgmgabGreatDoor

/- The contracts of the reference's fractions: Dec.Frac. -/
namespace Go.Proofs.YtmgidnjpkbgmgabGreatDoor
open Go.RowKit

/-- the three cells are a fraction: numerator z, denominator d -/
def SFr (w : World) (x : Value) (z : Int) (d : Nat) : Prop := ∃ neg v l dv dl, x = .agg #[.bool neg, v, dv] ∧ SNat w v l ∧ Norm l ∧ (l = [] → neg = false) ∧ sint neg l = z ∧ SNat w dv dl ∧ Norm dl ∧ sval dl = d

theorem SFr.fresh {w w' : World} {x : Value} {z : Int} {d : Nat} (h : SFr w x z d) (hk : Fresh w w') : SFr w' x z d := by
  obtain ⟨neg, v, l, dv, dl, h1, h2, h3, h4, h5, h6, h7⟩ := h
  exact ⟨neg, v, l, dv, dl, h1, h2.fresh hk, h3, h4, h5, h6.fresh hk, h7⟩

def FRet (w : World) (z : Int) (d : Nat) (e : Ending) (w' : World) : Prop := ∃ x, e = .returned x ∧ SFr w' x z d ∧ Fresh w w'

/-- a number does not lie in a block that begins with something else -/
theorem SNat.off {w : World} {v : Value} {l : List Nat} {g : Nat} {u : Value} (h : SNat w v l) (hc : w.cell? ⟨g, 0, none⟩ = some u) (hu : ∀ n, u ≠ wd .u32 n) : l = [] ∨ v.ownBlock ≠ some g := by
  rcases Nat.eq_zero_or_pos l.length with h0 | h0
  · exact .inl (List.eq_nil_of_length_eq_zero h0)
  · obtain ⟨b, cap, rfl, _, _, _, h4⟩ := h.open_pos h0
    refine .inr (fun e => ?_)
    have e' : b = g := Option.some.inj e
    subst e'
    have := h4 0 h0
    rw [hc] at this
    exact hu _ (Option.some.inj this)

theorem SNat.setOff {w : World} {v : Value} {l : List Nat} {g o : Nat} {x : Value} (h : SNat w v l) (ho : l = [] ∨ v.ownBlock ≠ some g) : SNat (w.setCell ⟨g, o, none⟩ x) v l := by
  refine ⟨h.1, h.2.1, ?_⟩
  rcases h.2.2 with h0 | ⟨b, cap, cur, T, rfl, hg, h1, h2, h3, h4⟩
  · exact .inl h0
  · by_cases hb : b = g
    · subst hb
      rcases ho with rfl | ho
      · exact .inr ⟨b, cap, _, T, rfl, row_set hg, h1, h2, by simp; exact h3, by simp⟩
      · exact absurd rfl ho
    · refine .inr ⟨b, cap, cur, T, rfl, ?_, h1, h2, h3, h4⟩
      simp only [World.setCell, Array.getElem?_modify]
      rw [if_neg (fun e => hb e.symm)]; exact hg

theorem far3 {w : World} {g h o o1 o2 o3 : Nat} {v1 v2 v3 : Value} {u : Option Value} (hne : h ≠ g) (k : w.cell? ⟨h, o, none⟩ = u) : (((w.setCell ⟨g, o1, none⟩ v1).setCell ⟨g, o2, none⟩ v2).setCell ⟨g, o3, none⟩ v3).cell? ⟨h, o, none⟩ = u := by
  rw [cell?_setCell_ne (.inl hne), cell?_setCell_ne (.inl hne), cell?_setCell_ne (.inl hne)]; exact k

theorem Fresh.set3 {w w1 : World} {g : Nat} {o1 o2 o3 : Nat} {v1 v2 v3 : Value} (h : Fresh w w1) (hg : w.heap.size ≤ g) : Fresh w (((w1.setCell ⟨g, o1, none⟩ v1).setCell ⟨g, o2, none⟩ v2).setCell ⟨g, o3, none⟩ v3) :=
  ((h.setCell (fun h => absurd h (by show ¬ g < w.heap.size; omega)) _).setCell (fun h => absurd h (by show ¬ g < w.heap.size; omega)) _).setCell (fun h => absurd h (by show ¬ g < w.heap.size; omega)) _

theorem fresh_trans {a b c : World} (h : Fresh a b) (k : Fresh b c) : Fresh a c := h.trans k (fun _ _ h => h) (fun _ _ h => h)

theorem wrap_nat (n : Nat) (h : n ≤ 1000000) : IntKind.i64.wrap (n : Int) = (n : Int) := by
  rw [IntKind.wrap_i64]; omega

set_option maxRecDepth 20000 in
set_option maxHeartbeats 4000000 in
theorem DecFrac_neg (neg : Bool) (v : Value) (l : List Nat) (n : Nat) (w : World) (h : SNat w v l) (hn : Norm l) (hc : l = [] → neg = false) (h0 : 0 < n) (hb : n ≤ 1000000) :
    Calls Tryz.prog 21 #[.agg #[.bool neg, v, .int .i64 (-(n : Int))]] w (FRet w (sint neg l) (10 ^ n)) := by
  obtain ⟨a, c, rfl⟩ := h.form
  obtain ⟨g, hg⟩ : ∃ g, g = w.heap.size := ⟨_, rfl⟩
  have bx := boxes2 w #[.bool neg, .slice a l.length c, .int .i64 (-(n : Int))] #[.bool false, .slice none 0 0, .slice none 0 0] 45 39 g hg
  have t1 : decide ((0 : Int) ≤ -(n : Int)) = false := by simp; omega
  have t2 : IntKind.i64.wrap (n : Int) = (n : Int) := wrap_nat n hb
  have H_h := Lib.hid h; clear h
  have H_bx := Lib.hid bx; clear bx
  have H_hn := Lib.hid hn; clear hn
  have H_hc := Lib.hid hc; clear hc
  go_enter Tryz.func21, Tryz.ntmps21
  go_wp2_with (fail)
  generalize hw1 : (w.alloc _).alloc _ = w1
  rw [← hg]
  obtain ⟨b1, b2, hf⟩ := H_bx.out w1 hw1
  have k0 := row_cell b1 0
  have k1 := row_cell b1 1
  have k2 := row_cell b1 2
  simp at k0 k1 k2
  have H_b1 := Lib.hid b1; clear b1
  have H_b2 := Lib.hid b2; clear b2
  have H_hf := Lib.hid hf; clear hf
  have H_hw1 := Lib.hid hw1; clear hw1
  have H_hg := Lib.hid hg; clear hg
  go_region_held3 (fun (w' : World) => w'.cell? ⟨g, 0, none⟩ = some (.bool neg) ∧ w'.cell? ⟨g, 1, none⟩ = some (.slice a l.length c) ∧ w'.cell? ⟨g, 2, none⟩ = some (.int .i64 (-(n : Int)))) (first | exact ⟨k0, k1, k2⟩ | exact ⟨m0, m1, m2⟩ | exact ⟨far3 (by omega) m0, far3 (by omega) m1, far3 (by omega) m2⟩) (first
    | (go_at_call 50; (with_reducible refine (Pow10_any n _ hb).mono ?_); rintro e w3 ⟨dv, dl, rfl, r1, r2, r3, r4⟩; have hf3 : Fresh w1 w3 := (by first | exact r4 | exact r4.of_drew | exact r4.of_drewN); obtain ⟨ad, cd, rfl⟩ := r1.form; have m0 := cell_fresh k0 hf3; have m1 := cell_fresh k1 hf3; have m2 := cell_fresh k2 hf3; have b4 := row_fresh H_b2.out hf3; have p0 := row_cell b4 0; have p1 := row_cell b4 1; have p2 := row_cell b4 2; have q0 : w3.frozen? ⟨g + 1, 0, none⟩ = false := frozen_of_row _ _ _ _ _ b4; have q1 : w3.frozen? ⟨g + 1, 1, none⟩ = false := frozen_of_row _ _ _ _ _ b4; have q2 : w3.frozen? ⟨g + 1, 2, none⟩ = false := frozen_of_row _ _ _ _ _ b4; simp at p0 p1 p2; have H_r1 := Lib.hid r1; have H_r2 := Lib.hid r2; have H_r3 := Lib.hid r3; have H_hf3 := Lib.hid hf3; have H_b4 := Lib.hid b4; clear r1 r2 r3 r4 hf3 b4))
  go_wp2
  refine bodyPost_ret (results_cell_row rfl _ _ (g + 1) 39 #[.bool neg, .slice a l.length c, .slice ad dl.length cd] (0, 0) _ rfl (row_set (row_set (row_set H_b4.out))) Tryz.underlying39 rfl (by kernel_rfl)) rfl ?_
  have s1 := (H_h.out.fresh H_hf.out).fresh H_hf3.out
  have f1 := s1.off p0 (fun n e => by simp at e)
  have f2 := H_r1.out.off p0 (fun n e => by simp at e)
  exact ⟨_, rfl, ⟨neg, _, l, _, dl, rfl, ((s1.setOff f1).setOff f1).setOff f1, H_hn.out, H_hc.out, rfl, ((H_r1.out.setOff f2).setOff f2).setOff f2, H_r2.out, H_r3.out⟩, (fresh_trans H_hf.out H_hf3.out).set3 (by have := H_hg.out; omega)⟩

theorem ten_lt (n : Nat) : 10 ^ n < spow (n + 1) := by
  rw [spow_ten]; exact Nat.pow_lt_pow_right (by omega) (by omega)

set_option maxRecDepth 20000 in
set_option maxHeartbeats 4000000 in
theorem DecFrac_pos (neg : Bool) (v : Value) (l : List Nat) (n : Nat) (w : World) (h : SNat w v l) (hlen : l.length ≤ 500000) (hb : n ≤ 1000000) (hb2 : n ≤ 400000) :
    Calls Tryz.prog 21 #[.agg #[.bool neg, v, .int .i64 (n : Int)]] w (FRet w (sint neg l * (10 ^ n : Nat)) 1) := by
  obtain ⟨a, c, rfl⟩ := h.form
  obtain ⟨g, hg⟩ : ∃ g, g = w.heap.size := ⟨_, rfl⟩
  have bx := boxes2 w #[.bool neg, .slice a l.length c, .int .i64 (n : Int)] #[.bool false, .slice none 0 0, .slice none 0 0] 45 39 g hg
  have t1 : decide ((0 : Int) ≤ (n : Int)) = true := by simp
  have H_h := Lib.hid h; clear h
  have H_bx := Lib.hid bx; clear bx
  go_enter Tryz.func21, Tryz.ntmps21
  go_wp2_with (fail)
  generalize hw1 : (w.alloc _).alloc _ = w1
  rw [← hg]
  obtain ⟨b1, b2, hf⟩ := H_bx.out w1 hw1
  have k0 := row_cell b1 0
  have k1 := row_cell b1 1
  have k2 := row_cell b1 2
  simp at k0 k1 k2
  have H_b1 := Lib.hid b1; clear b1
  have H_b2 := Lib.hid b2; clear b2
  have H_hf := Lib.hid hf; clear hf
  have H_hw1 := Lib.hid hw1; clear hw1
  have H_hg := Lib.hid hg; clear hg
  go_region_held3 (fun (w' : World) => w'.cell? ⟨g, 0, none⟩ = some (.bool neg) ∧ w'.cell? ⟨g, 1, none⟩ = some (.slice a l.length c) ∧ w'.cell? ⟨g, 2, none⟩ = some (.int .i64 (n : Int))) (first | exact ⟨k0, k1, k2⟩ | exact ⟨m0, m1, m2⟩ | exact ⟨n0, n1, n2⟩ | exact ⟨o0, o1, o2⟩ | exact ⟨u0, u1, u2⟩ | exact ⟨far3 (by omega) u0, far3 (by omega) u1, far3 (by omega) u2⟩) (first
    | (go_at_call 50; (with_reducible refine (Pow10_any n _ hb).mono ?_); rintro e w3 ⟨dv, dl, rfl, r1, r2, r3, r4⟩; have hf3 : Fresh w1 w3 := (by first | exact r4 | exact r4.of_drew | exact r4.of_drewN); obtain ⟨ad, cd, rfl⟩ := r1.form; have m0 := cell_fresh k0 hf3; have m1 := cell_fresh k1 hf3; have m2 := cell_fresh k2 hf3; have H_r1 := Lib.hid r1; have H_r2 := Lib.hid r2; have H_r3 := Lib.hid r3; have H_hf3 := Lib.hid hf3; clear r1 r2 r3 r4 hf3)
    | (go_at_call 49; (with_reducible refine (NatMul_any _ _ l dl _ ((H_h.out.fresh H_hf.out).fresh H_hf3.out) H_r1.out (by have := H_r2.out.s_len_le (k := n + 1) (by rw [H_r3.out]; exact ten_lt n); omega)).mono ?_); rintro e w4 ⟨pv, pl, rfl, s1, s2, s3, s4⟩; obtain ⟨ap, cp, rfl⟩ := s1.form; have n0 := cell_fresh m0 s4; have n1 := cell_fresh m1 s4; have n2 := cell_fresh m2 s4; have H_s1 := Lib.hid s1; have H_s2 := Lib.hid s2; have H_s3 := Lib.hid s3; have H_s4 := Lib.hid s4; clear s1 s2 s3 s4)
    | (go_at_call 48; (with_reducible refine (wholeOf_any _ _ _ _ H_s1.out).mono ?_); rintro e w5 ⟨rfl, r5⟩; have o0 := cell_fresh n0 r5; have o1 := cell_fresh n1 r5; have o2 := cell_fresh n2 r5; have H_r5 := Lib.hid r5; clear r5)
    | (go_at_call 51; (with_reducible refine (one_any _).mono ?_); rintro e w6 ⟨ov, ol, rfl, t1, t2, t3, t4⟩; obtain ⟨ao, co, rfl⟩ := t1.form; have u0 := cell_fresh o0 t4; have u1 := cell_fresh o1 t4; have u2 := cell_fresh o2 t4; have hf6 := fresh_trans (fresh_trans (fresh_trans H_hf3.out H_s4.out) H_r5.out) t4; have b4 := row_fresh H_b2.out hf6; have p0 := row_cell b4 0; have p1 := row_cell b4 1; have p2 := row_cell b4 2; have q0 : w6.frozen? ⟨g + 1, 0, none⟩ = false := frozen_of_row _ _ _ _ _ b4; have q1 : w6.frozen? ⟨g + 1, 1, none⟩ = false := frozen_of_row _ _ _ _ _ b4; have q2 : w6.frozen? ⟨g + 1, 2, none⟩ = false := frozen_of_row _ _ _ _ _ b4; simp at p0 p1 p2; have H_t1 := Lib.hid t1; have H_t2 := Lib.hid t2; have H_t3 := Lib.hid t3; have H_t4 := Lib.hid t4; have H_hf6 := Lib.hid hf6; have H_b4 := Lib.hid b4; clear t1 t2 t3 t4 hf6 b4))
  go_wp2
  refine bodyPost_ret (results_cell_row rfl _ _ (g + 1) 39 #[.bool (neg && decide (0 < pl.length)), .slice ap pl.length cp, .slice ao ol.length co] (0, 0) _ rfl (row_set (row_set (row_set H_b4.out))) Tryz.underlying39 rfl (by kernel_rfl)) rfl ?_
  have s1 := (H_s1.out.fresh H_r5.out).fresh H_t4.out
  have f1 := s1.off p0 (fun n e => by simp at e)
  have f2 := H_t1.out.off p0 (fun n e => by simp at e)
  have hv := sint_mul (na := neg) (nb := false) H_s3.out H_s2.out
  rw [show (neg != false) = neg by cases neg <;> rfl] at hv
  exact ⟨_, rfl, ⟨_, _, pl, _, ol, rfl, ((s1.setOff f1).setOff f1).setOff f1, H_s2.out, by rintro rfl; simp, by rw [hv]; unfold sint; rw [H_r3.out]; simp, ((H_t1.out.setOff f2).setOff f2).setOff f2, H_t2.out, H_t3.out⟩, (fresh_trans H_hf.out H_hf6.out).set3 (by have := H_hg.out; omega)⟩

end Go.Proofs.YtmgidnjpkbgmgabGreatDoor

/- The contracts of the reference's fractions: Frac.Cmp. -/
namespace Go.Proofs.YtmgidnjpkbgmgabGreatDoor
open Go.RowKit

theorem sint_natAbs (neg : Bool) (l : List Nat) : (sint neg l).natAbs = sval l := by unfold sint; split <;> simp

set_option maxRecDepth 20000 in
set_option maxHeartbeats 4000000 in
theorem FracCmp_any (xa xb : Value) (za zb : Int) (da db : Nat) (w : World) (ha : SFr w xa za da) (hb : SFr w xb zb db) (h1 : za.natAbs < spow 1000) (h2 : zb.natAbs < spow 1000) (h3 : da < spow 1000) (h4 : db < spow 1000) :
    Calls Tryz.prog 47 #[xa, xb] w (IRet w (cmpZ (za * db) (zb * da))) := by
  obtain ⟨na, va, la, dva, dla, rfl, ha, hna, hca, rfl, hda, hdna, rfl⟩ := ha
  obtain ⟨nb, vb, lb, dvb, dlb, rfl, hb, hnb, hcb, rfl, hdb, hdnb, rfl⟩ := hb
  rw [sint_natAbs] at h1 h2
  have l1 := hna.s_len_le h1
  have l2 := hnb.s_len_le h2
  have l3 := hdna.s_len_le h3
  have l4 := hdnb.s_len_le h4
  obtain ⟨aa, ca, rfl⟩ := ha.form
  obtain ⟨ab, cb, rfl⟩ := hb.form
  obtain ⟨ada, cda, rfl⟩ := hda.form
  obtain ⟨adb, cdb, rfl⟩ := hdb.form
  obtain ⟨g, hg⟩ : ∃ g, g = w.heap.size := ⟨_, rfl⟩
  have bx := boxes2 w #[.bool na, .slice aa la.length ca, .slice ada dla.length cda] #[.bool nb, .slice ab lb.length cb, .slice adb dlb.length cdb] 39 39 g hg
  have hmul1 : ∀ w1, Fresh w w1 → ∀ W, Fresh w1 W → Calls Tryz.prog 57 #[swh na (.slice aa la.length ca), swh false (.slice adb dlb.length cdb)] W (WRet W (sint na la * sint false dlb)) := fun w1 hf W hW => WholeMul_any _ _ _ _ la dlb W ((ha.fresh hf).fresh hW) ((hdb.fresh hf).fresh hW) (by omega)
  have hmul2 : ∀ w1, Fresh w w1 → ∀ W, Fresh w1 W → Calls Tryz.prog 57 #[swh nb (.slice ab lb.length cb), swh false (.slice ada dla.length cda)] W (WRet W (sint nb lb * sint false dla)) := fun w1 hf W hW => WholeMul_any _ _ _ _ lb dla W ((hb.fresh hf).fresh hW) ((hda.fresh hf).fresh hW) (by omega)
  have H_ha := Lib.hid ha; clear ha
  have H_hb := Lib.hid hb; clear hb
  have H_hda := Lib.hid hda; clear hda
  have H_hdb := Lib.hid hdb; clear hdb
  have H_bx := Lib.hid bx; clear bx
  have H_hna := Lib.hid hna; clear hna
  have H_hca := Lib.hid hca; clear hca
  have H_hnb := Lib.hid hnb; clear hnb
  have H_hcb := Lib.hid hcb; clear hcb
  have H_hdna := Lib.hid hdna; clear hdna
  have H_hdnb := Lib.hid hdnb; clear hdnb
  have H_h1 := Lib.hid h1; clear h1
  have H_h2 := Lib.hid h2; clear h2
  have H_h3 := Lib.hid h3; clear h3
  have H_h4 := Lib.hid h4; clear h4
  have H_hmul1 := Lib.hid hmul1; clear hmul1
  have H_hmul2 := Lib.hid hmul2; clear hmul2
  go_enter Tryz.func47, Tryz.ntmps47
  go_wp2_with (fail)
  generalize hw1 : (w.alloc _).alloc _ = w1
  rw [← hg]
  obtain ⟨b1, b2, hf⟩ := H_bx.out w1 hw1
  have k0 := row_cell b1 0
  have k1 := row_cell b1 1
  have k2 := row_cell b1 2
  have k3 := row_cell b2 0
  have k4 := row_cell b2 1
  have k5 := row_cell b2 2
  simp at k0 k1 k2 k3 k4 k5
  have hmul1 := H_hmul1.out w1 hf
  have hmul2 := H_hmul2.out w1 hf
  clear H_hmul1 H_hmul2
  have H_b1 := Lib.hid b1; clear b1
  have H_b2 := Lib.hid b2; clear b2
  have H_hf := Lib.hid hf; clear hf
  have H_hw1 := Lib.hid hw1; clear hw1
  have H_hg := Lib.hid hg; clear hg
  have H_hmul1 := Lib.hid hmul1; clear hmul1
  have H_hmul2 := Lib.hid hmul2; clear hmul2
  go_region_held3 (fun (w' : World) => w'.cell? ⟨g, 0, none⟩ = some (.bool na) ∧ w'.cell? ⟨g, 1, none⟩ = some (.slice aa la.length ca) ∧ w'.cell? ⟨g, 2, none⟩ = some (.slice ada dla.length cda) ∧ w'.cell? ⟨g + 1, 0, none⟩ = some (.bool nb) ∧ w'.cell? ⟨g + 1, 1, none⟩ = some (.slice ab lb.length cb) ∧ w'.cell? ⟨g + 1, 2, none⟩ = some (.slice adb dlb.length cdb)) (first | exact ⟨k0, k1, k2, k3, k4, k5⟩ | exact ⟨m0, m1, m2, m3, m4, m5⟩ | exact ⟨n0, n1, n2, n3, n4, n5⟩ | exact ⟨o0, o1, o2, o3, o4, o5⟩) (first
    | (go_at_call 57; (with_reducible refine (H_hmul1.out _ ?c1).mono ?_); (case c1 => first | exact Keep.refl _ _ | exact (Keep.refl _ _).drew | exact (Keep.refl _ _).drewN _); rintro e w3 ⟨x1, rfl, r1, r2⟩; have hf3 : Fresh w1 w3 := (by first | exact r2 | exact r2.of_drew | exact r2.of_drewN); have m0 := cell_fresh k0 hf3; have m1 := cell_fresh k1 hf3; have m2 := cell_fresh k2 hf3; have m3 := cell_fresh k3 hf3; have m4 := cell_fresh k4 hf3; have m5 := cell_fresh k5 hf3; have H_r1 := Lib.hid r1; have H_hf3 := Lib.hid hf3; clear r1 r2 hf3)
    | (go_at_call 57; (with_reducible refine (H_hmul2.out _ H_hf3.out).mono ?_); rintro e w4 ⟨x2, rfl, s1, s2⟩; have n0 := cell_fresh m0 s2; have n1 := cell_fresh m1 s2; have n2 := cell_fresh m2 s2; have n3 := cell_fresh m3 s2; have n4 := cell_fresh m4 s2; have n5 := cell_fresh m5 s2; have H_s1 := Lib.hid s1; have H_s2 := Lib.hid s2; clear s1 s2)
    | (go_at_call 84; (with_reducible refine (WholeCmp_any _ _ _ _ _ (H_r1.out.fresh H_s2.out) H_s1.out).mono ?_); rintro e w5 ⟨rfl, t1⟩; have o0 := cell_fresh n0 t1; have o1 := cell_fresh n1 t1; have o2 := cell_fresh n2 t1; have o3 := cell_fresh n3 t1; have o4 := cell_fresh n4 t1; have o5 := cell_fresh n5 t1; have H_t1 := Lib.hid t1; clear t1))
  go_wp2
  go_ret
  refine ⟨?_, fresh_trans (fresh_trans (fresh_trans H_hf.out H_hf3.out) H_s2.out) H_t1.out⟩
  simp [sint]

end Go.Proofs.YtmgidnjpkbgmgabGreatDoor

/- The contracts of govalues' decimals: IsNeg, Coef, Scale, newUnsafe. -/
namespace Go.Proofs.YtmgidnjpkbgmgabGreatDoor
open Go.RowKit

/-- a decimal of govalues -/
abbrev gd (neg : Bool) (s c : Nat) : Value := .agg #[.bool neg, .int .i8 s, .int .u64 c]
/-- a decimal of the thin package -/
abbrev fx (neg : Bool) (c s : Nat) : Value := .agg #[.bool neg, .int .u64 c, .int .i64 s]

/-- the call returns the value v, and changes nothing that was there -/
def VRet (w : World) (v : Value) (e : Ending) (w' : World) : Prop := e = .returned v ∧ Fresh w w'

theorem IsNeg_any (neg : Bool) (s c : Nat) (w : World) : Calls Tryz.prog 65 #[gd neg s c] w (VRet w (.bool neg)) := by
  go_enter Tryz.func65, Tryz.ntmps65
  go_wp2
  go_ret
  exact ⟨rfl, (Keep.refl _ _).alloc _⟩

theorem Coef_any (neg : Bool) (s c : Nat) (w : World) : Calls Tryz.prog 66 #[gd neg s c] w (VRet w (.int .u64 c)) := by
  go_enter Tryz.func66, Tryz.ntmps66
  go_wp2
  go_ret
  exact ⟨rfl, (Keep.refl _ _).alloc _⟩

theorem Scale_any (neg : Bool) (s c : Nat) (w : World) (hs : s ≤ 19) : Calls Tryz.prog 67 #[gd neg s c] w (VRet w (.int .i64 s)) := by
  have hw : IntKind.i64.wrap (s : Int) = (s : Int) := wrap_nat s (by omega)
  go_enter Tryz.func67, Tryz.ntmps67
  go_wp2
  go_ret
  exact ⟨rfl, (Keep.refl _ _).alloc _⟩

theorem wrap_i8 (s : Nat) (hs : s ≤ 19) : IntKind.i8.wrap (s : Int) = (s : Int) := by
  have : ∀ n : Fin 20, IntKind.i8.wrap ((n.val : Nat) : Int) = ((n.val : Nat) : Int) := by decide
  exact this ⟨s, by omega⟩

theorem results_cell_tmp_row {P : Program} {fn : Func} {p u : Tmp} {ty : TypeId} (h : fn.results = #[.cell p ty, .tmp u]) (tmps : Array Value) (w : World) (g : Nat) (t : TypeId) (cs : Array Value) (fr : Nat × Nat) (d : TypeDesc)
    (hp : tmps.getD p undef = .pointer (some ⟨g, 0, none⟩)) (hg : w.heap[g]? = some (.cells cs t fr)) (hu : P.underlying ty = some d) (hd : (match d with | .struct _ | .array _ _ => true | _ => false) = true) (hi : (P.info? ty).map (·.size) = some cs.size) :
    (results fn tmps).run P w = .ok (.tuple #[.agg cs, tmps.getD u undef]) w := by
  rw [results_cell_tmp h, hp]
  simp [asAddr, Result.andThen, run_loadVar_row w g t ty cs fr d hg hu hd hi]

theorem newUnsafe_any (neg : Bool) (s c : Nat) (w : World) (hs : s ≤ 19) : Calls Tryz.prog 108 #[.bool neg, .int .u64 c, .int .i64 s] w (VRet w (gd (neg && decide (0 < c)) s c)) := by
  have hw := wrap_i8 s hs
  by_cases hc : c = 0
  · subst hc
    go_enter Tryz.func108, Tryz.ntmps108
    go_wp2
    refine bodyPost_ret (results_cell_row rfl _ _ (w.heap.size) 60 #[.bool false, .int .i8 s, .int .u64 (0 : Nat)] (0, 0) _ rfl (heap_alloc_new w _) Tryz.underlying60 rfl (by kernel_rfl)) rfl ?_
    exact ⟨by simp, (Keep.refl _ _).alloc _⟩
  · have t1 : ((c : Int) == 0) = false := by rw [beq_eq_false_iff_ne]; omega
    have t2 : decide (0 < c) = true := by simp; omega
    rw [t2, Bool.and_true]
    have H_hc := Lib.hid hc
    clear hc t2
    go_enter Tryz.func108, Tryz.ntmps108
    go_wp2
    refine bodyPost_ret (results_cell_row rfl _ _ (w.heap.size) 60 #[.bool neg, .int .i8 s, .int .u64 c] (0, 0) _ rfl (heap_alloc_new w _) Tryz.underlying60 rfl (by kernel_rfl)) rfl ?_
    exact ⟨rfl, (Keep.refl _ _).alloc _⟩

theorem newSafe_any (neg : Bool) (s c : Nat) (w : World) (hs : s ≤ 19) (hc : c ≤ 9999999999999999999) :
    Calls Tryz.prog 77 #[.bool neg, .int .u64 c, .int .i64 s] w (VRet w (.tuple #[gd (neg && decide (0 < c)) s c, .nilIface])) := by
  have t1 : decide ((s : Int) < 0) = false := by simp
  have t2 : decide ((19 : Int) < (s : Int)) = false := by simp; omega
  have t3 : decide ((9999999999999999999 : Int) < (c : Int)) = false := by simp; omega
  go_enter Tryz.func77, Tryz.ntmps77
  go_wp2_with (fail)
  refine (newUnsafe_any neg s c _ hs).mono ?_
  rintro e w2 ⟨rfl, hf⟩
  have b := row_fresh (heap_alloc_new w _) hf
  have p0 := row_cell b 0
  have p1 := row_cell b 1
  have p2 := row_cell b 2
  simp at p0 p1 p2
  have q0 : w2.frozen? ⟨w.heap.size, 0, none⟩ = false := frozen_of_row _ _ _ _ _ b
  have q1 : w2.frozen? ⟨w.heap.size, 1, none⟩ = false := frozen_of_row _ _ _ _ _ b
  have q2 : w2.frozen? ⟨w.heap.size, 2, none⟩ = false := frozen_of_row _ _ _ _ _ b
  have H_b := Lib.hid b; clear b
  have H_hf := Lib.hid hf; clear hf
  go_wp2_with (fail)
  refine bodyPost_ret (results_cell_tmp_row rfl _ _ w.heap.size 60 #[.bool (neg && decide (0 < c)), .int .i8 s, .int .u64 c] (0, 0) _ rfl (row_set (row_set (row_set H_b.out))) Tryz.underlying60 rfl (by kernel_rfl)) rfl ?_
  exact ⟨rfl, Fresh.set3 (fresh_trans ((Keep.refl _ _).alloc _) H_hf.out) (Nat.le_refl _)⟩

theorem ZzMake_any (neg : Bool) (s c : Nat) (w : World) (hs : s ≤ 19) (hc : c ≤ 9999999999999999999) :
    Calls Tryz.prog 63 #[.bool neg, .int .u64 c, .int .i64 s] w (VRet w (.tuple #[gd (neg && decide (0 < c)) s c, .nilIface])) := by
  go_enter Tryz.func63, Tryz.ntmps63
  go_wp2_with (fail)
  refine (newSafe_any neg s c _ hs hc).mono ?_
  rintro e w2 ⟨rfl, hf⟩
  have b := row_fresh (heap_alloc_new w _) hf
  have p0 := row_cell b 0
  have p1 := row_cell b 1
  have p2 := row_cell b 2
  simp at p0 p1 p2
  have q0 : w2.frozen? ⟨w.heap.size, 0, none⟩ = false := frozen_of_row _ _ _ _ _ b
  have q1 : w2.frozen? ⟨w.heap.size, 1, none⟩ = false := frozen_of_row _ _ _ _ _ b
  have q2 : w2.frozen? ⟨w.heap.size, 2, none⟩ = false := frozen_of_row _ _ _ _ _ b
  have H_b := Lib.hid b; clear b
  have H_hf := Lib.hid hf; clear hf
  go_wp2_with (fail)
  refine bodyPost_ret (results_cell_tmp_row rfl _ _ w.heap.size 60 #[.bool (neg && decide (0 < c)), .int .i8 s, .int .u64 c] (0, 0) _ rfl (row_set (row_set (row_set H_b.out))) Tryz.underlying60 rfl (by kernel_rfl)) rfl ?_
  exact ⟨rfl, Fresh.set3 (fresh_trans ((Keep.refl _ _).alloc _) H_hf.out) (Nat.le_refl _)⟩

end Go.Proofs.YtmgidnjpkbgmgabGreatDoor

/- The contracts of govalues' decimals: Neg, Abs, CopySign; of the thin package: fixed, fix. -/
namespace Go.Proofs.YtmgidnjpkbgmgabGreatDoor
open Go.RowKit

theorem fixed_any (neg : Bool) (s c : Nat) (w : World) (hs : s ≤ 19) (hc : c ≤ 9999999999999999999) :
    Calls Tryz.prog 31 #[fx neg c s] w (VRet w (.tuple #[gd (neg && decide (0 < c)) s c, .bool true])) := by
  obtain ⟨g, hg⟩ : ∃ g, g = w.heap.size := ⟨_, rfl⟩
  have bx := boxes2 w #[.bool neg, .int .u64 c, .int .i64 s] #[.bool false, .int .i8 0, .int .u64 0] 24 60 g hg
  have H_bx := Lib.hid bx; clear bx
  go_enter Tryz.func31, Tryz.ntmps31
  go_wp2_with (fail)
  generalize hw1 : (w.alloc _).alloc _ = w1
  rw [← hg]
  obtain ⟨b1, b2, hf⟩ := H_bx.out w1 hw1
  refine (ZzMake_any neg s c _ hs hc).mono ?_
  rintro e w2 ⟨rfl, hf2⟩
  have b3 := row_fresh b2 hf2
  have hg2 : g + 1 < w2.heap.size := by
    rcases Nat.lt_or_ge (g + 1) w2.heap.size with h | h
    · exact h
    · rw [Array.getElem?_eq_none h] at b3; cases b3
  have H_b1 := Lib.hid b1; clear b1
  have H_b2 := Lib.hid b2; clear b2
  have H_hf := Lib.hid hf; clear hf
  have H_hw1 := Lib.hid hw1; clear hw1
  have H_hg := Lib.hid hg; clear hg
  go_wp2_with (fail)
  generalize hneg : (neg && decide (0 < c)) = neg' at *
  obtain ⟨h, hh⟩ : ∃ h, h = w2.heap.size := ⟨_, rfl⟩
  generalize hw3 : w2.alloc _ = w3
  rw [← hh] at hg2 ⊢
  have hf3 : Fresh w2 w3 := by rw [← hw3]; exact (Keep.refl _ _).alloc _
  have b4 := row_fresh b3 hf3
  have b5 : w3.heap[h]? = some (.cells #[.bool neg', .int .i8 s, .int .u64 c] 60 (0, 0)) := by rw [← hw3, hh]; exact heap_alloc_new w2 _
  have p0 := row_cell b4 0
  have p1 := row_cell b4 1
  have p2 := row_cell b4 2
  simp at p0 p1 p2
  have q0 : w3.frozen? ⟨g + 1, 0, none⟩ = false := frozen_of_row _ _ _ _ _ b4
  have q1 : w3.frozen? ⟨g + 1, 1, none⟩ = false := frozen_of_row _ _ _ _ _ b4
  have q2 : w3.frozen? ⟨g + 1, 2, none⟩ = false := frozen_of_row _ _ _ _ _ b4
  have k0 := row_cell b5 0
  have k1 := row_cell b5 1
  have k2 := row_cell b5 2
  simp at k0 k1 k2
  have H_b3 := Lib.hid b3; clear b3
  have H_b4 := Lib.hid b4; clear b4
  have H_b5 := Lib.hid b5; clear b5
  have H_hh := Lib.hid hh; clear hh
  have H_hw3 := Lib.hid hw3; clear hw3
  have H_hf2 := Lib.hid hf2; clear hf2
  have H_hf3 := Lib.hid hf3; clear hf3
  have H_hneg := Lib.hid hneg; clear hneg
  go_region_held3 (fun (w' : World) => w'.cell? ⟨h, 0, none⟩ = some (.bool neg') ∧ w'.cell? ⟨h, 1, none⟩ = some (.int .i8 s) ∧ w'.cell? ⟨h, 2, none⟩ = some (.int .u64 c)) (first | exact ⟨k0, k1, k2⟩ | exact ⟨far3 (by omega) k0, far3 (by omega) k1, far3 (by omega) k2⟩) (first | fail)
  go_wp2
  refine bodyPost_ret (results_cell_tmp_row rfl _ _ (g + 1) 60 #[.bool neg', .int .i8 s, .int .u64 c] (0, 0) _ rfl (row_set (row_set (row_set H_b4.out))) Tryz.underlying60 rfl (by kernel_rfl)) rfl ?_
  exact ⟨by rfl, (Fresh.set3 (g := g + 1) (fresh_trans (fresh_trans H_hf.out H_hf2.out) H_hf3.out) (by have := H_hg.out; omega)).drew⟩

set_option maxRecDepth 20000 in
set_option maxHeartbeats 2000000 in
theorem fix_any (neg : Bool) (s c : Nat) (w : World) (hs : s ≤ 19) :
    Calls Tryz.prog 33 #[gd neg s c] w (VRet w (fx neg c s)) := by
  obtain ⟨g, hg⟩ : ∃ g, g = w.heap.size := ⟨_, rfl⟩
  have bx := boxes2 w #[.bool neg, .int .i8 s, .int .u64 c] #[.bool false, .int .u64 0, .int .i64 0] 60 24 g hg
  have H_bx := Lib.hid bx; clear bx
  go_enter Tryz.func33, Tryz.ntmps33
  go_wp2_with (fail)
  generalize hw1 : (w.alloc _).alloc _ = w1
  rw [← hg]
  obtain ⟨b1, b2, hf⟩ := H_bx.out w1 hw1
  have k0 := row_cell b1 0
  have k1 := row_cell b1 1
  have k2 := row_cell b1 2
  simp at k0 k1 k2
  have H_b1 := Lib.hid b1; clear b1
  have H_b2 := Lib.hid b2; clear b2
  have H_hf := Lib.hid hf; clear hf
  have H_hw1 := Lib.hid hw1; clear hw1
  have H_hg := Lib.hid hg; clear hg
  go_region_held3 (fun (w' : World) => w'.cell? ⟨g, 0, none⟩ = some (.bool neg) ∧ w'.cell? ⟨g, 1, none⟩ = some (.int .i8 s) ∧ w'.cell? ⟨g, 2, none⟩ = some (.int .u64 c)) (first | exact ⟨k0, k1, k2⟩ | exact ⟨m0, m1, m2⟩ | exact ⟨n0, n1, n2⟩ | exact ⟨o0, o1, o2⟩ | exact ⟨far3 (by omega) o0, far3 (by omega) o1, far3 (by omega) o2⟩) (first
    | (go_at_call 65; (with_reducible refine (IsNeg_any neg s c _).mono ?_); rintro e w2 ⟨rfl, r⟩; have hf0 : Fresh w1 w2 := (by first | exact r | exact r.of_drew | exact r.of_drewN); have m0 := cell_fresh k0 hf0; have m1 := cell_fresh k1 hf0; have m2 := cell_fresh k2 hf0; have H_hf0 := Lib.hid hf0; clear hf0 r)
    | (go_at_call 66; (with_reducible refine (Coef_any neg s c _).mono ?_); rintro e w3 ⟨rfl, r⟩; have hf1 : Fresh w2 w3 := r; have n0 := cell_fresh m0 hf1; have n1 := cell_fresh m1 hf1; have n2 := cell_fresh m2 hf1; have H_hf1 := Lib.hid hf1; clear hf1 r)
    | (go_at_call 67; (with_reducible refine (Scale_any neg s c _ hs).mono ?_); rintro e w4 ⟨rfl, r⟩; have hf2 : Fresh w3 w4 := r; have o0 := cell_fresh n0 hf2; have o1 := cell_fresh n1 hf2; have o2 := cell_fresh n2 hf2; have hfa : Fresh w1 w4 := fresh_trans (fresh_trans (H_hf0.out) H_hf1.out) hf2; have b4 := row_fresh H_b2.out hfa; have p0 := row_cell b4 0; have p1 := row_cell b4 1; have p2 := row_cell b4 2; simp at p0 p1 p2; have q0 : w4.frozen? ⟨g + 1, 0, none⟩ = false := frozen_of_row _ _ _ _ _ b4; have q1 : w4.frozen? ⟨g + 1, 1, none⟩ = false := frozen_of_row _ _ _ _ _ b4; have q2 : w4.frozen? ⟨g + 1, 2, none⟩ = false := frozen_of_row _ _ _ _ _ b4; have H_hfa := Lib.hid hfa; have H_b4 := Lib.hid b4; clear hfa b4; have H_hf2 := Lib.hid hf2; clear hf2 r))
  go_wp2
  refine bodyPost_ret (results_cell_row rfl _ _ (g + 1) 24 #[.bool neg, .int .u64 c, .int .i64 s] (0, 0) _ rfl (row_set (row_set (row_set H_b4.out))) Tryz.underlying24 rfl (by kernel_rfl)) rfl ?_
  exact ⟨rfl, (fresh_trans H_hf.out H_hfa.out).set3 (by have := H_hg.out; omega)⟩

end Go.Proofs.YtmgidnjpkbgmgabGreatDoor
