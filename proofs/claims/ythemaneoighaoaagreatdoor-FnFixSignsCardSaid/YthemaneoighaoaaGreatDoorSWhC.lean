/- The contracts of the reference's whole numbers: Cmp. -/
import Derived.Test.YthemaneoighaoaaGreatDoorSWhB
namespace Go.Proofs.YthemaneoighaoaaGreatDoor
open Go.RowKit

/-- how two whole numbers compare -/
def cmpZ (a b : Int) : Int := if a < b then -1 else if b < a then 1 else 0

theorem sint_pos {l : List Nat} (hn : Norm l) (h : l ≠ []) : 0 < sval l := (sval_pos_iff hn).1 (List.length_pos_iff.2 h)

theorem boxes2 (w : World) (c1 c2 : Array Value) (T1 T2 : TypeId) : ∀ g, g = w.heap.size → ∀ w1, (w.alloc (.cells c1 T1)).alloc (.cells c2 T2) = w1 →
    w1.heap[g]? = some (.cells c1 T1 (0, 0)) ∧ w1.heap[g + 1]? = some (.cells c2 T2 (0, 0)) ∧ Fresh w w1 := by
  rintro g rfl w1 rfl
  have s1 : (w.alloc (.cells c1 T1)).heap.size = w.heap.size + 1 := by simp
  refine ⟨?_, ?_, ((Keep.refl _ _).alloc _).alloc _⟩
  · rw [((Keep.refl (fun _ => False) (w.alloc (.cells c1 T1))).alloc (.cells c2 T2)).block w.heap.size (by omega) (fun h => h)]
    exact heap_alloc_new w _
  · rw [← s1]
    exact heap_alloc_new _ _

theorem cmpZ_nn (a b : Nat) : cmpZ (-(a : Int)) (-(b : Int)) = cmpN b a := by unfold cmpZ cmpN; split <;> split <;> (try split) <;> (try split) <;> omega
theorem cmpZ_pp (a b : Nat) : cmpZ (a : Int) (b : Int) = cmpN a b := by unfold cmpZ cmpN; split <;> split <;> (try split) <;> (try split) <;> omega

/-- the call returns an int, and leaves all that was there -/
def IRet (w : World) (z : Int) (e : Ending) (w' : World) : Prop := e = .returned (.int .i64 z) ∧ Fresh w w'

theorem cmpZ_np {la lb : List Nat} (hna : Norm la) (hca : la = [] → true = false) : cmpZ (sint true la) (sint false lb) = -1 := by
  have := sint_pos hna (fun e => by have := hca e; simp at this)
  unfold cmpZ sint; simp only [if_true, Bool.false_eq_true, if_false]; rw [if_pos (by omega)]
theorem cmpZ_pn {la lb : List Nat} (hnb : Norm lb) (hcb : lb = [] → true = false) : cmpZ (sint false la) (sint true lb) = 1 := by
  have := sint_pos hnb (fun e => by have := hcb e; simp at this)
  unfold cmpZ sint; simp only [if_true, Bool.false_eq_true, if_false]; rw [if_neg (by omega), if_pos (by omega)]

set_option maxRecDepth 20000 in
set_option maxHeartbeats 2000000 in
theorem WholeCmp_ff (va vb : Value) (la lb : List Nat) (w : World) (ha : SNat w va la) (hb : SNat w vb lb) (hna : Norm la) (hnb : Norm lb) (hca : la = [] → false = false) (hcb : lb = [] → false = false) :
    Calls Tryz.prog 55 #[swh false va, swh false vb] w (IRet w (cmpZ (sint false la) (sint false lb))) := by
  obtain ⟨aa, ca, rfl⟩ := ha.form
  obtain ⟨ab, cb, rfl⟩ := hb.form
  obtain ⟨g, hg⟩ : ∃ g, g = w.heap.size := ⟨_, rfl⟩
  have hf : Fresh w ((w.alloc (.cells #[.bool false, .slice aa la.length ca] 29)).alloc (.cells #[.bool false, .slice ab lb.length cb] 29)) := ((Keep.refl _ _).alloc _).alloc _
  have hcall := NatCmp_any _ _ la lb _ (ha.fresh hf) (hb.fresh hf) hna hnb
  have hres : cmpZ (sint false la) (sint false lb) = cmpN (sval la) (sval lb) := cmpZ_pp _ _
  have H_ha := Lib.hid ha; clear ha
  have H_hb := Lib.hid hb; clear hb
  have H_hna := Lib.hid hna; clear hna
  have H_hnb := Lib.hid hnb; clear hnb
  have H_hca := Lib.hid hca; clear hca
  have H_hcb := Lib.hid hcb; clear hcb
  have H_hcall := Lib.hid hcall; clear hcall
  have H_hres := Lib.hid hres; clear hres
  have H_hf := Lib.hid hf; clear hf
  have H_hg := Lib.hid hg; clear hg
  go_enter Tryz.func55, Tryz.ntmps55
  go_wp2_with (fail)
  refine H_hcall.out.mono ?_
  rintro e w2 ⟨rfl, n, rfl⟩
  go_wp2_with (fail)
  go_ret
  exact ⟨by rw [H_hres.out]; rfl, H_hf.out.drewN n⟩

set_option maxRecDepth 20000 in
set_option maxHeartbeats 2000000 in
theorem WholeCmp_ft (va vb : Value) (la lb : List Nat) (w : World) (ha : SNat w va la) (hb : SNat w vb lb) (hna : Norm la) (hnb : Norm lb) (hca : la = [] → false = false) (hcb : lb = [] → true = false) :
    Calls Tryz.prog 55 #[swh false va, swh true vb] w (IRet w (cmpZ (sint false la) (sint true lb))) := by
  obtain ⟨aa, ca, rfl⟩ := ha.form
  obtain ⟨ab, cb, rfl⟩ := hb.form
  obtain ⟨g, hg⟩ : ∃ g, g = w.heap.size := ⟨_, rfl⟩
  have hf : Fresh w ((w.alloc (.cells #[.bool false, .slice aa la.length ca] 29)).alloc (.cells #[.bool true, .slice ab lb.length cb] 29)) := ((Keep.refl _ _).alloc _).alloc _
  have hres : cmpZ (sint false la) (sint true lb) = 1 := cmpZ_pn hnb hcb
  have H_ha := Lib.hid ha; clear ha
  have H_hb := Lib.hid hb; clear hb
  have H_hna := Lib.hid hna; clear hna
  have H_hnb := Lib.hid hnb; clear hnb
  have H_hca := Lib.hid hca; clear hca
  have H_hcb := Lib.hid hcb; clear hcb
  have H_hres := Lib.hid hres; clear hres
  have H_hf := Lib.hid hf; clear hf
  have H_hg := Lib.hid hg; clear hg
  go_enter Tryz.func55, Tryz.ntmps55
  go_wp2_with (fail)
  go_ret
  exact ⟨by rw [H_hres.out]; rfl, H_hf.out⟩

set_option maxRecDepth 20000 in
set_option maxHeartbeats 2000000 in
theorem WholeCmp_tf (va vb : Value) (la lb : List Nat) (w : World) (ha : SNat w va la) (hb : SNat w vb lb) (hna : Norm la) (hnb : Norm lb) (hca : la = [] → true = false) (hcb : lb = [] → false = false) :
    Calls Tryz.prog 55 #[swh true va, swh false vb] w (IRet w (cmpZ (sint true la) (sint false lb))) := by
  obtain ⟨aa, ca, rfl⟩ := ha.form
  obtain ⟨ab, cb, rfl⟩ := hb.form
  obtain ⟨g, hg⟩ : ∃ g, g = w.heap.size := ⟨_, rfl⟩
  have hf : Fresh w ((w.alloc (.cells #[.bool true, .slice aa la.length ca] 29)).alloc (.cells #[.bool false, .slice ab lb.length cb] 29)) := ((Keep.refl _ _).alloc _).alloc _
  have hres : cmpZ (sint true la) (sint false lb) = -1 := cmpZ_np hna hca
  have H_ha := Lib.hid ha; clear ha
  have H_hb := Lib.hid hb; clear hb
  have H_hna := Lib.hid hna; clear hna
  have H_hnb := Lib.hid hnb; clear hnb
  have H_hca := Lib.hid hca; clear hca
  have H_hcb := Lib.hid hcb; clear hcb
  have H_hres := Lib.hid hres; clear hres
  have H_hf := Lib.hid hf; clear hf
  have H_hg := Lib.hid hg; clear hg
  go_enter Tryz.func55, Tryz.ntmps55
  go_wp2_with (fail)
  go_ret
  exact ⟨by rw [H_hres.out]; rfl, H_hf.out⟩

set_option maxRecDepth 20000 in
set_option maxHeartbeats 2000000 in
theorem WholeCmp_tt (va vb : Value) (la lb : List Nat) (w : World) (ha : SNat w va la) (hb : SNat w vb lb) (hna : Norm la) (hnb : Norm lb) (hca : la = [] → true = false) (hcb : lb = [] → true = false) :
    Calls Tryz.prog 55 #[swh true va, swh true vb] w (IRet w (cmpZ (sint true la) (sint true lb))) := by
  obtain ⟨aa, ca, rfl⟩ := ha.form
  obtain ⟨ab, cb, rfl⟩ := hb.form
  obtain ⟨g, hg⟩ : ∃ g, g = w.heap.size := ⟨_, rfl⟩
  have hf : Fresh w ((w.alloc (.cells #[.bool true, .slice aa la.length ca] 29)).alloc (.cells #[.bool true, .slice ab lb.length cb] 29)) := ((Keep.refl _ _).alloc _).alloc _
  have hcall := NatCmp_any _ _ lb la _ (hb.fresh hf) (ha.fresh hf) hnb hna
  have hres : cmpZ (sint true la) (sint true lb) = cmpN (sval lb) (sval la) := cmpZ_nn _ _
  have H_ha := Lib.hid ha; clear ha
  have H_hb := Lib.hid hb; clear hb
  have H_hna := Lib.hid hna; clear hna
  have H_hnb := Lib.hid hnb; clear hnb
  have H_hca := Lib.hid hca; clear hca
  have H_hcb := Lib.hid hcb; clear hcb
  have H_hcall := Lib.hid hcall; clear hcall
  have H_hres := Lib.hid hres; clear hres
  have H_hf := Lib.hid hf; clear hf
  have H_hg := Lib.hid hg; clear hg
  go_enter Tryz.func55, Tryz.ntmps55
  go_wp2_with (fail)
  refine H_hcall.out.mono ?_
  rintro e w2 ⟨rfl, n, rfl⟩
  go_wp2_with (fail)
  go_ret
  exact ⟨by rw [H_hres.out]; rfl, H_hf.out.drewN n⟩

theorem WholeCmp_any (xa xb : Value) (za zb : Int) (w : World) (ha : SWh w xa za) (hb : SWh w xb zb) :
    Calls Tryz.prog 55 #[xa, xb] w (IRet w (cmpZ za zb)) := by
  obtain ⟨na, va, la, rfl, ha, hna, hca, rfl⟩ := ha
  obtain ⟨nb, vb, lb, rfl, hb, hnb, hcb, rfl⟩ := hb
  cases na <;> cases nb
  · exact WholeCmp_ff va vb la lb w ha hb hna hnb hca hcb
  · exact WholeCmp_ft va vb la lb w ha hb hna hnb hca hcb
  · exact WholeCmp_tf va vb la lb w ha hb hna hnb hca hcb
  · exact WholeCmp_tt va vb la lb w ha hb hna hnb hca hcb

end Go.Proofs.YthemaneoighaoaaGreatDoor
