/- The contracts of govalues' decimals: IsNeg, Coef, Scale, newUnsafe. -/
import Derived.Test.YthemaneoighaoaaGreatDoorSFrB
namespace Go.Proofs.YthemaneoighaoaaGreatDoor
open Go.RowKit

/-- a decimal of govalues -/
abbrev gd (neg : Bool) (s c : Nat) : Value := .agg #[.bool neg, .int .i8 s, .int .u64 c]
/-- a decimal of the thin package -/
abbrev fx (neg : Bool) (c s : Nat) : Value := .agg #[.bool neg, .int .u64 c, .int .i64 s]

/-- the call returns the value v, and changes nothing that was there -/
def VRet (w : World) (v : Value) (e : Ending) (w' : World) : Prop := e = .returned v ∧ Fresh w w'

theorem IsNeg_any (neg : Bool) (s c : Nat) (w : World) : Calls Tryz.prog 60 #[gd neg s c] w (VRet w (.bool neg)) := by
  go_enter Tryz.func60, Tryz.ntmps60
  go_wp2
  go_ret
  exact ⟨rfl, (Keep.refl _ _).alloc _⟩

theorem Coef_any (neg : Bool) (s c : Nat) (w : World) : Calls Tryz.prog 61 #[gd neg s c] w (VRet w (.int .u64 c)) := by
  go_enter Tryz.func61, Tryz.ntmps61
  go_wp2
  go_ret
  exact ⟨rfl, (Keep.refl _ _).alloc _⟩

theorem Scale_any (neg : Bool) (s c : Nat) (w : World) (hs : s ≤ 19) : Calls Tryz.prog 62 #[gd neg s c] w (VRet w (.int .i64 s)) := by
  have hw : IntKind.i64.wrap (s : Int) = (s : Int) := wrap_nat s (by omega)
  go_enter Tryz.func62, Tryz.ntmps62
  go_wp2
  go_ret
  exact ⟨rfl, (Keep.refl _ _).alloc _⟩

theorem wrap_i8 (s : Nat) (hs : s ≤ 19) : IntKind.i8.wrap (s : Int) = (s : Int) := by
  have : ∀ n : Fin 20, IntKind.i8.wrap ((n.val : Nat) : Int) = ((n.val : Nat) : Int) := by decide
  exact this ⟨s, by omega⟩

theorem results_cell_tmp_row {P : Program} {fn : Func} {p u : Tmp} {ty : TypeId} (h : fn.results = #[.cell p ty, .tmp u]) (tmps : Array Value) (w : World) (g : Nat) (t : TypeId) (cs : Array Value) (fr : Nat × Nat) (d : TypeDesc)
    (hp : tmps.getD p undef = .pointer (some ⟨g, 0, none⟩)) (hg : w.heap[g]? = some (.cells cs t fr)) (hu : P.underlying ty = some d) (hd : (match d with | .struct _ | .array _ _ => true | _ => false) = true) (hi : (P.info? ty).map (·.size) = some cs.size) :
    (results fn tmps).run P w = .ok (.tuple #[.agg cs, tmps.getD u undef]) w := by
  rw [results_cell_tmp h, hp]
  simp [asAddr, Result.andThen, run_loadVar_row w g t ty cs fr d hg hu hd hi]

theorem newUnsafe_any (neg : Bool) (s c : Nat) (w : World) (hs : s ≤ 19) : Calls Tryz.prog 63 #[.bool neg, .int .u64 c, .int .i64 s] w (VRet w (gd (neg && decide (0 < c)) s c)) := by
  have hw := wrap_i8 s hs
  by_cases hc : c = 0
  · subst hc
    go_enter Tryz.func63, Tryz.ntmps63
    go_wp2
    refine bodyPost_ret (results_cell_row rfl _ _ (w.heap.size) 59 #[.bool false, .int .i8 s, .int .u64 (0 : Nat)] (0, 0) _ rfl (heap_alloc_new w _) Tryz.underlying59 rfl (by kernel_rfl)) rfl ?_
    exact ⟨by simp, (Keep.refl _ _).alloc _⟩
  · have t1 : ((c : Int) == 0) = false := by rw [beq_eq_false_iff_ne]; omega
    have t2 : decide (0 < c) = true := by simp; omega
    rw [t2, Bool.and_true]
    have H_hc := Lib.hid hc
    clear hc t2
    go_enter Tryz.func63, Tryz.ntmps63
    go_wp2
    refine bodyPost_ret (results_cell_row rfl _ _ (w.heap.size) 59 #[.bool neg, .int .i8 s, .int .u64 c] (0, 0) _ rfl (heap_alloc_new w _) Tryz.underlying59 rfl (by kernel_rfl)) rfl ?_
    exact ⟨rfl, (Keep.refl _ _).alloc _⟩

theorem newSafe_any (neg : Bool) (s c : Nat) (w : World) (hs : s ≤ 19) (hc : c ≤ 9999999999999999999) :
    Calls Tryz.prog 73 #[.bool neg, .int .u64 c, .int .i64 s] w (VRet w (.tuple #[gd (neg && decide (0 < c)) s c, .nilIface])) := by
  have t1 : decide ((s : Int) < 0) = false := by simp
  have t2 : decide ((19 : Int) < (s : Int)) = false := by simp; omega
  have t3 : decide ((9999999999999999999 : Int) < (c : Int)) = false := by simp; omega
  go_enter Tryz.func73, Tryz.ntmps73
  go_wp2_with (fail)
  refine (newUnsafe_any neg s c _ hs).mono ?_
  rintro e w2 ⟨rfl, hf⟩
  have b := row_fresh (heap_alloc_new w _) hf
  have p0 := row_cell b 0
  have p1 := row_cell b 1
  have p2 := row_cell b 2
  simp at p0 p1 p2
  have q0 : w2.frozen? ⟨w.heap.size, 0, none⟩ = false := frozen_of_row _ _ _ _ _ b
  have q1 : w2.frozen? ⟨w.heap.size, 1, none⟩ = false := frozen_of_row _ _ _ _ _ b
  have q2 : w2.frozen? ⟨w.heap.size, 2, none⟩ = false := frozen_of_row _ _ _ _ _ b
  have H_b := Lib.hid b; clear b
  have H_hf := Lib.hid hf; clear hf
  go_wp2_with (fail)
  refine bodyPost_ret (results_cell_tmp_row rfl _ _ w.heap.size 59 #[.bool (neg && decide (0 < c)), .int .i8 s, .int .u64 c] (0, 0) _ rfl (row_set (row_set (row_set H_b.out))) Tryz.underlying59 rfl (by kernel_rfl)) rfl ?_
  exact ⟨rfl, Fresh.set3 (fresh_trans ((Keep.refl _ _).alloc _) H_hf.out) (Nat.le_refl _)⟩

theorem ZzMake_any (neg : Bool) (s c : Nat) (w : World) (hs : s ≤ 19) (hc : c ≤ 9999999999999999999) :
    Calls Tryz.prog 59 #[.bool neg, .int .u64 c, .int .i64 s] w (VRet w (.tuple #[gd (neg && decide (0 < c)) s c, .nilIface])) := by
  go_enter Tryz.func59, Tryz.ntmps59
  go_wp2_with (fail)
  refine (newSafe_any neg s c _ hs hc).mono ?_
  rintro e w2 ⟨rfl, hf⟩
  have b := row_fresh (heap_alloc_new w _) hf
  have p0 := row_cell b 0
  have p1 := row_cell b 1
  have p2 := row_cell b 2
  simp at p0 p1 p2
  have q0 : w2.frozen? ⟨w.heap.size, 0, none⟩ = false := frozen_of_row _ _ _ _ _ b
  have q1 : w2.frozen? ⟨w.heap.size, 1, none⟩ = false := frozen_of_row _ _ _ _ _ b
  have q2 : w2.frozen? ⟨w.heap.size, 2, none⟩ = false := frozen_of_row _ _ _ _ _ b
  have H_b := Lib.hid b; clear b
  have H_hf := Lib.hid hf; clear hf
  go_wp2_with (fail)
  refine bodyPost_ret (results_cell_tmp_row rfl _ _ w.heap.size 59 #[.bool (neg && decide (0 < c)), .int .i8 s, .int .u64 c] (0, 0) _ rfl (row_set (row_set (row_set H_b.out))) Tryz.underlying59 rfl (by kernel_rfl)) rfl ?_
  exact ⟨rfl, Fresh.set3 (fresh_trans ((Keep.refl _ _).alloc _) H_hf.out) (Nat.le_refl _)⟩

end Go.Proofs.YthemaneoighaoaaGreatDoor
