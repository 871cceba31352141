/- The contracts of the thin package: FixNeg. -/
import Derived.Test.YthemaneoighaoaaGreatDoorGvB
import Derived.Defers
import Derived.Recover
namespace Go.Proofs.YthemaneoighaoaaGreatDoor
open Go.RowKit

theorem results_cell_cell {P : Program} {fn : Func} {p q : Tmp} {ty ty' : TypeId} (h : fn.results = #[.cell p ty, .cell q ty']) (tmps : Array Value) (w : World) (g : Nat) (t : TypeId) (cs : Array Value) (fr : Nat × Nat) (d : TypeDesc) (g' : Nat) (v : Value)
    (hp : tmps.getD p undef = .pointer (some ⟨g, 0, none⟩)) (hq : tmps.getD q undef = .pointer (some ⟨g', 0, none⟩)) (hg : w.heap[g]? = some (.cells cs t fr)) (hu : P.underlying ty = some d) (hd : (match d with | .struct _ | .array _ _ => true | _ => false) = true) (hi : (P.info? ty).map (·.size) = some cs.size)
    (hv : (loadVar ty' ⟨g', 0, none⟩).run P w = .ok v w) :
    (results fn tmps).run P w = .ok (.tuple #[.agg cs, v]) w := by
  have hp' : tmps[p]?.getD undef = .pointer (some ⟨g, 0, none⟩) := by simpa using hp
  have hq' : tmps[q]?.getD undef = .pointer (some ⟨g', 0, none⟩) := by simpa using hq
  simp [results, h, hp', hq', asAddr, run_loadVar_row w g t ty cs fr d hg hu hd hi, hv, Sem.run_bind, Result.andThen]

theorem row_far {w : World} {g h o : Nat} {x : Value} (hne : h ≠ g) : (w.setCell ⟨h, o, none⟩ x).heap[g]? = w.heap[g]? := by
  simp only [World.setCell, Array.getElem?_modify]
  rw [if_neg hne]

theorem FixNeg1_idle (p q : Addr) (w : World) :
    CallsD Tryz.prog 30 #[.pointer (some p), .pointer (some q)] .returning w fun e u' w' => e = .returned (.tuple #[]) ∧ u' = .returning ∧ w' = w := by
  refine callsD_of_wpS Tryz.func30 rfl fun c₀ cs hu => ?_
  apply wpS_seq
  apply wpS_region
  simp [wpOpsS, go_sem, recoverD, hu, Tryz.ntmps30, Exit.thenS]
  refine wpS_cond (t := false) (by simp [Act.eval, Array.replicate]) ?_
  simp only [Bool.false_eq_true, if_false]
  refine wpS_of_wp (wp_skip ?_)
  cases c₀
  simp_all [bodyPostS, results, Tryz.results30]

set_option maxRecDepth 20000 in
set_option maxHeartbeats 2000000 in
theorem FixNeg_any (neg : Bool) (s c : Nat) (w : World) (hs : s ≤ 19) (hc : c ≤ 9999999999999999999) :
    Calls Tryz.prog 9 #[fx neg c s] w (VRet w (.tuple #[fx (!(neg && decide (0 < c)) && decide (0 < c)) c s, .int .i64 0])) := by
  have hmf : ∀ (fn : Fn) (first cap : Array Value) (w : World), (Instr.makeFunc fn first cap).run Tryz.prog w = .ok (.func fn first cap) w := fun _ _ _ _ => rfl
  go_enter_defers Tryz.func9, Tryz.ntmps9
  go_wp2_with (fail)
  obtain ⟨g, hg⟩ : ∃ g, g = w.heap.size := ⟨_, rfl⟩
  have bx := boxes3 w #[.bool neg, .int .u64 c, .int .i64 s] #[.bool false, .int .u64 0, .int .i64 0] #[.int .i64 0] 24 24 3 g hg
  have H_bx := Lib.hid bx
  clear bx
  generalize hw1 : ((w.alloc _).alloc _).alloc _ = w1
  rw [← hg]
  obtain ⟨b1, b2, b3, hf, hgs⟩ := H_bx.out w1 hw1
  have H_b1 := Lib.hid b1; clear b1
  have H_b2 := Lib.hid b2; clear b2
  have H_b3 := Lib.hid b3; clear b3
  have H_hf := Lib.hid hf; clear hf
  have H_hw1 := Lib.hid hw1; clear hw1
  have H_hg := Lib.hid hg; clear hg
  have H_hgs := Lib.hid hgs; clear hgs
  refine (fixed_any neg s c _ hs hc).mono ?_
  rintro e w2 ⟨rfl, hf2⟩
  have H_hf2 := Lib.hid hf2
  clear hf2
  generalize hneg : (neg && decide (0 < c)) = neg' at *
  go_wp2_with (fail)
  generalize hw3 : w2.alloc _ = w3
  have hf3 : Fresh w2 w3 := by rw [← hw3]; exact (Keep.refl _ _).alloc _
  have H_hw3 := Lib.hid hw3; clear hw3
  have H_hf3 := Lib.hid hf3; clear hf3
  have H_hneg := Lib.hid hneg; clear hneg
  refine (Neg_any neg' s c _ hs).mono ?_
  rintro e w4 ⟨rfl, hf4⟩
  have H_hf4 := Lib.hid hf4
  clear hf4
  generalize hneg2 : (!neg' && decide (0 < c)) = neg2 at *
  go_wp2_with (fail)
  refine (fix_any neg2 s c _ hs).mono ?_
  rintro e w5 ⟨rfl, hf5⟩
  have hfa : Fresh w1 w5 := fresh_trans (fresh_trans (fresh_trans H_hf2.out H_hf3.out) H_hf4.out) hf5
  have c2 := row_fresh H_b2.out hfa
  have c3 := row_fresh H_b3.out hfa
  have p0 := row_cell c2 0
  have p1 := row_cell c2 1
  have p2 := row_cell c2 2
  have p3 := row_cell c3 0
  simp at p0 p1 p2 p3
  have q0 : w5.frozen? ⟨g + 1, 0, none⟩ = false := frozen_of_row _ _ _ _ _ c2
  have q1 : w5.frozen? ⟨g + 1, 1, none⟩ = false := frozen_of_row _ _ _ _ _ c2
  have q2 : w5.frozen? ⟨g + 1, 2, none⟩ = false := frozen_of_row _ _ _ _ _ c2
  have q3 : w5.frozen? ⟨g + 1 + 1, 0, none⟩ = false := frozen_of_row _ _ _ _ _ c3
  have H_hf5 := Lib.hid hf5; clear hf5
  have H_hfa := Lib.hid hfa; clear hfa
  have H_c2 := Lib.hid c2; clear c2
  have H_c3 := Lib.hid c3; clear c3
  have H_hneg2 := Lib.hid hneg2; clear hneg2
  go_wp2_with (fail)
  refine leaves_cons (f := 30) (args := #[.pointer (some ⟨g + 1, 0, none⟩), .pointer (some ⟨g + 1 + 1, 0, none⟩)]) (by simp) (by simp [go_sem]) ?_
  refine (FixNeg1_idle _ _ _).mono ?_
  rintro e u' w'' ⟨rfl, rfl, rfl⟩
  have c4 : (w5.setCell ⟨g + 1, 0, none⟩ (.bool neg2)).heap[g + 1]? = _ := row_set H_c2.out
  have c5 := row_set (i := 1) (v := .int .u64 c) c4
  have c6 := row_set (i := 2) (v := .int .i64 s) c5
  refine ⟨.tuple #[fx neg2 c s, .int .i64 0], results_cell_cell rfl _ _ (g + 1) 24 #[.bool neg2, .int .u64 c, .int .i64 s] (0, 0) _ (g + 1 + 1) _ rfl rfl ?_ Tryz.underlying24 rfl (by kernel_rfl) ?_, ?_⟩
  · rw [row_far (by omega)]; exact c6
  · have hcell : ((((w5.setCell ⟨g + 1, 0, none⟩ (.bool neg2)).setCell ⟨g + 1, 1, none⟩ (.int .u64 c)).setCell ⟨g + 1, 2, none⟩ (.int .i64 s)).setCell ⟨g + 1 + 1, 0, none⟩ (.int .i64 0)).cell? ⟨g + 1 + 1, 0, none⟩ = some (.int .i64 0) :=
      cell?_setCell_eq rfl (by rw [far3 (by omega) p3]; rfl)
    simp [loadVar, go_sem, hcell]
  · exact ⟨rfl, ((fresh_trans H_hf.out H_hfa.out).set3 (by have := H_hg.out; omega)).setCell (fun h => by have := H_hg.out; change g + 1 + 1 < w.heap.size at h; omega) _⟩

end Go.Proofs.YthemaneoighaoaaGreatDoor
