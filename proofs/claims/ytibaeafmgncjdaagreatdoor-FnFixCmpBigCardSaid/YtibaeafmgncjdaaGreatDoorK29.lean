/- The contracts of the thin package over two decimals: FixCmpBig. -/
import Derived.Test.YtibaeafmgncjdaaGreatDoorK10
import Derived.Test.YtibaeafmgncjdaaGreatDoorK12
import Derived.Test.YtibaeafmgncjdaaGreatDoorK23
namespace Go.Proofs.YtibaeafmgncjdaaGreatDoor
open Go.RowKit

set_option maxRecDepth 20000 in
theorem ZzCmpBig_any (n1 n2 : Bool) (c1 s1 c2 s2 : Nat) (z : Int) (w : World)
    (hcmp : ∀ W, Fresh w W → Calls Tryz.prog 87 #[gd n1 s1 c1, gd n2 s2 c2] W (VRet W (.int .i64 z))) :
    Calls Tryz.prog 74 #[gd n1 s1 c1, gd n2 s2 c2] w (VRet w (.int .i64 z)) := by
  obtain ⟨g, hg⟩ : ∃ g, g = w.heap.size := ⟨_, rfl⟩
  have bx := boxes2 w #[.bool n1, .int .i8 s1, .int .u64 c1] #[.bool n2, .int .i8 s2, .int .u64 c2] 62 62 g hg
  have H_bx := Lib.hid bx; clear bx
  have H_hcmp := Lib.hid hcmp; clear hcmp
  go_enter Tryz.func74, Tryz.ntmps74
  go_wp2_with (fail)
  generalize hw1 : (w.alloc _).alloc _ = w1
  obtain ⟨b1, b2, hf⟩ := H_bx.out w1 hw1
  have H_b1 := Lib.hid b1; clear b1
  have H_b2 := Lib.hid b2; clear b2
  have H_hf := Lib.hid hf; clear hf
  have H_hw1 := Lib.hid hw1; clear hw1
  have H_hg := Lib.hid hg; clear hg
  refine (H_hcmp.out _ H_hf.out).mono ?_
  rintro e w5 ⟨rfl, f5⟩
  have H_f5 := Lib.hid f5; clear f5
  go_wp2_with (fail)
  go_ret
  exact ⟨rfl, fresh_trans H_hf.out H_f5.out⟩

theorem FixCmpBig1_idle (p q : Addr) (w : World) :
    CallsD Tryz.prog 72 #[.pointer (some p), .pointer (some q)] .returning w fun e u' w' => e = .returned (.tuple #[]) ∧ u' = .returning ∧ w' = w := by
  refine callsD_of_wpS Tryz.func72 rfl fun c₀ cs hu => ?_
  apply wpS_seq
  apply wpS_region
  simp [wpOpsS, go_sem, recoverD, hu, Tryz.ntmps72, Exit.thenS]
  refine wpS_cond (t := false) (by simp [Act.eval, Array.replicate]) ?_
  simp only [Bool.false_eq_true, if_false]
  refine wpS_of_wp (wp_skip ?_)
  cases c₀
  simp_all [bodyPostS, results, Tryz.results72]

set_option maxRecDepth 20000 in
set_option maxHeartbeats 2000000 in
theorem FixCmpBig_any (na nb : Bool) (s c s2 c2 : Nat) (z sg : Int) (w : World) (hs : s ≤ 19) (hc : c ≤ 9999999999999999999) (hs2 : s2 ≤ 19) (hc2 : c2 ≤ 9999999999999999999)
    (hsa : gsign (na && decide (0 < c)) c = sg) (hsb : gsign (nb && decide (0 < c2)) c2 = sg)
    (hm : ∀ W, Fresh w W → Calls Tryz.prog 74 #[gd (na && decide (0 < c)) s c, gd (nb && decide (0 < c2)) s2 c2] W (VRet W (.int .i64 z))) :
    Calls Tryz.prog 34 #[fx na c s, fx nb c2 s2] w (VRet w (.tuple #[.int .i64 z, .int .i64 0])) := by
  have hmf : ∀ (fn : Fn) (first cap : Array Value) (w : World), (Instr.makeFunc fn first cap).run Tryz.prog w = .ok (.func fn first cap) w := fun _ _ _ _ => rfl
  obtain ⟨na', hna⟩ : ∃ n, n = (na && decide (0 < c)) := ⟨_, rfl⟩
  obtain ⟨nb', hnb⟩ : ∃ n, n = (nb && decide (0 < c2)) := ⟨_, rfl⟩
  rw [← hna, ← hnb] at hm
  rw [← hna] at hsa
  rw [← hnb] at hsb
  have hga : ∀ W, Calls Tryz.prog 73 #[gd na' s c] W (VRet W (.int .i64 sg)) := fun W => hsa ▸ Sign_any na' s c W
  have hgb : ∀ W, Calls Tryz.prog 73 #[gd nb' s2 c2] W (VRet W (.int .i64 sg)) := fun W => hsb ▸ Sign_any nb' s2 c2 W
  clear hsa hsb
  have H_hm := Lib.hid hm; clear hm
  have H_hna := Lib.hid hna; clear hna
  have H_hnb := Lib.hid hnb; clear hnb
  have H_hga := Lib.hid hga; clear hga
  have H_hgb := Lib.hid hgb; clear hgb
  go_enter_defers Tryz.func34, Tryz.ntmps34
  go_wp2_with (fail)
  obtain ⟨g, hg⟩ : ∃ g, g = w.heap.size := ⟨_, rfl⟩
  have bx := boxes4 w #[.bool na, .int .u64 c, .int .i64 s] #[.bool nb, .int .u64 c2, .int .i64 s2] #[.int .i64 0] #[.int .i64 0] 24 24 3 3 g hg
  have H_bx := Lib.hid bx
  clear bx
  generalize hw1 : (((w.alloc _).alloc _).alloc _).alloc _ = w1
  rw [← hg]
  obtain ⟨b1, b2, b3, b4, hf⟩ := H_bx.out w1 hw1
  have H_b1 := Lib.hid b1; clear b1
  have H_b2 := Lib.hid b2; clear b2
  have H_b3 := Lib.hid b3; clear b3
  have H_b4 := Lib.hid b4; clear b4
  have H_hf := Lib.hid hf; clear hf
  have H_hw1 := Lib.hid hw1; clear hw1
  have H_hg := Lib.hid hg; clear hg
  refine (fixed_any na s c _ hs hc).mono ?_
  rintro e w2 ⟨rfl, hf2⟩
  have H_hf2 := Lib.hid hf2
  clear hf2
  rw [← H_hna.out]
  have d2 := row_fresh H_b2.out H_hf2.out
  obtain ⟨h, hh⟩ : ∃ h, h = w2.heap.size := ⟨_, rfl⟩
  have hlt : g + 1 < h := by
    rw [hh]
    rcases Nat.lt_or_ge (g + 1) w2.heap.size with h | h
    · exact h
    · rw [Array.getElem?_eq_none h] at d2; cases d2
  have k0 := row_cell d2 0
  have k1 := row_cell d2 1
  have k2 := row_cell d2 2
  simp at k0 k1 k2
  have a0 := fun o => cell_fresh k0 ((Keep.refl (fun _ => False) w2).alloc o)
  have a1 := fun o => cell_fresh k1 ((Keep.refl (fun _ => False) w2).alloc o)
  have a2 := fun o => cell_fresh k2 ((Keep.refl (fun _ => False) w2).alloc o)
  clear k0 k1 k2
  have H_d2 := Lib.hid d2; clear d2
  have H_hh := Lib.hid hh; clear hh
  have H_hlt := Lib.hid hlt; clear hlt
  go_wp2_with (fail)
  generalize hw3 : w2.alloc _ = w3
  have hf3 : Fresh w2 w3 := by rw [← hw3]; exact (Keep.refl _ _).alloc _
  have e1 : w3.heap[h]? = some (.cells #[.bool na', .int .i8 s, .int .u64 c] 62 (0, 0)) := by rw [← hw3, H_hh.out]; exact heap_alloc_new w2 _
  rw [← H_hh.out]
  clear a0 a1 a2
  have H_hw3 := Lib.hid hw3; clear hw3
  have H_hf3 := Lib.hid hf3; clear hf3
  have H_e1 := Lib.hid e1; clear e1
  refine (fixed_any nb s2 c2 _ hs2 hc2).mono ?_
  rintro e w4 ⟨rfl, hf4⟩
  rw [← H_hnb.out]
  have e2 := row_fresh H_e1.out hf4
  have hlt2 : h < w4.heap.size := by
    rcases Nat.lt_or_ge h w4.heap.size with h | h
    · exact h
    · rw [Array.getElem?_eq_none h] at e2; cases e2
  have k0 := row_cell e2 0
  have k1 := row_cell e2 1
  have k2 := row_cell e2 2
  simp at k0 k1 k2
  have a0 := fun o => cell_fresh k0 ((Keep.refl (fun _ => False) w4).alloc o)
  have a1 := fun o => cell_fresh k1 ((Keep.refl (fun _ => False) w4).alloc o)
  have a2 := fun o => cell_fresh k2 ((Keep.refl (fun _ => False) w4).alloc o)
  clear k0 k1 k2
  have H_hf4 := Lib.hid hf4; clear hf4
  have H_e2 := Lib.hid e2; clear e2
  have H_hlt2 := Lib.hid hlt2; clear hlt2
  go_wp2_with (fail)
  obtain ⟨h2, hh2⟩ : ∃ h2, h2 = w4.heap.size := ⟨_, rfl⟩
  generalize hw5 : w4.alloc _ = w5
  have hf5 : Fresh w4 w5 := by rw [← hw5]; exact (Keep.refl _ _).alloc _
  have e4 : w5.heap[h2]? = some (.cells #[.bool nb', .int .i8 s2, .int .u64 c2] 62 (0, 0)) := by rw [← hw5, hh2]; exact heap_alloc_new w4 _
  have e3 := row_fresh H_e2.out hf5
  rw [← hh2]
  clear a0 a1 a2
  have f15 : Fresh w1 w5 := fresh_trans (fresh_trans (fresh_trans H_hf2.out H_hf3.out) H_hf4.out) hf5
  have q0 := row_cell e3 0
  have q1 := row_cell e3 1
  have q2 := row_cell e3 2
  simp at q0 q1 q2
  have q3 := row_cell e4 0
  have q4 := row_cell e4 1
  have q5 := row_cell e4 2
  simp at q3 q4 q5
  have H_hw5 := Lib.hid hw5; clear hw5
  have H_hf5 := Lib.hid hf5; clear hf5
  have H_f15 := Lib.hid f15; clear f15
  have H_e3 := Lib.hid e3; clear e3
  have H_e4 := Lib.hid e4; clear e4
  have H_hh2 := Lib.hid hh2; clear hh2
  go_region_held3 (fun (w' : World) => w'.cell? ⟨h, 0, none⟩ = some (.bool na') ∧ w'.cell? ⟨h, 1, none⟩ = some (.int .i8 s) ∧ w'.cell? ⟨h, 2, none⟩ = some (.int .u64 c) ∧ w'.cell? ⟨h2, 0, none⟩ = some (.bool nb') ∧ w'.cell? ⟨h2, 1, none⟩ = some (.int .i8 s2) ∧ w'.cell? ⟨h2, 2, none⟩ = some (.int .u64 c2)) (first | exact ⟨q0, q1, q2, q3, q4, q5⟩ | exact ⟨z2_0, z2_1, z2_2, z2_3, z2_4, z2_5⟩ | exact ⟨z4_0, z4_1, z4_2, z4_3, z4_4, z4_5⟩) (first
    | (go_at_call 73; (with_reducible refine (H_hga.out _).mono ?_); rintro e y1_ ⟨rfl, r⟩; have hy : Fresh w5 y1_ := (by first | exact r | exact r.of_drew | exact r.of_drewN); have z2_0 := cell_fresh q0 hy; have z2_1 := cell_fresh q1 hy; have z2_2 := cell_fresh q2 hy; have z2_3 := cell_fresh q3 hy; have z2_4 := cell_fresh q4 hy; have z2_5 := cell_fresh q5 hy; have fy1_ := hy; have H_fy1_ := Lib.hid fy1_; clear r hy fy1_)
    | (go_at_call 73; (with_reducible refine (H_hgb.out _).mono ?_); rintro e y3_ ⟨rfl, r⟩; have hy : Fresh y1_ y3_ := r; have z4_0 := cell_fresh z2_0 hy; have z4_1 := cell_fresh z2_1 hy; have z4_2 := cell_fresh z2_2 hy; have z4_3 := cell_fresh z2_3 hy; have z4_4 := cell_fresh z2_4 hy; have z4_5 := cell_fresh z2_5 hy; have fy3_ := fresh_trans H_fy1_.out hy; have H_fy3_ := Lib.hid fy3_; clear r hy fy3_))
  go_wp2_with (fail)
  have f16 := fresh_trans H_f15.out H_fy3_.out
  clear z4_0 z4_1 z4_2 z4_3 z4_4 z4_5
  refine (H_hm.out _ (fresh_trans H_hf.out f16)).mono ?_
  rintro e w6 ⟨rfl, hf6⟩
  have hfa : Fresh w1 w6 := fresh_trans f16 hf6
  clear f16
  have c2' := row_fresh H_b3.out hfa
  have c3 := row_fresh H_b4.out hfa
  have p0 := row_cell c2' 0
  have p3 := row_cell c3 0
  simp at p0 p3
  have q0 : w6.frozen? ⟨g + 1 + 1, 0, none⟩ = false := frozen_of_row _ _ _ _ _ c2'
  have q3 : w6.frozen? ⟨g + 1 + 1 + 1, 0, none⟩ = false := frozen_of_row _ _ _ _ _ c3
  have H_hf6 := Lib.hid hf6; clear hf6
  have H_hfa := Lib.hid hfa; clear hfa
  have H_c2' := Lib.hid c2'; clear c2'
  have H_c3 := Lib.hid c3; clear c3
  go_wp2_with (fail)
  refine leaves_cons (f := 72) (args := #[.pointer (some ⟨g + 1 + 1, 0, none⟩), .pointer (some ⟨g + 1 + 1 + 1, 0, none⟩)]) (by simp) (by simp [go_sem]) ?_
  refine (FixCmpBig1_idle _ _ _).mono ?_
  rintro e u' w'' ⟨rfl, rfl, rfl⟩
  have c4 : (w6.setCell ⟨g + 1 + 1, 0, none⟩ (.int .i64 z)).cell? ⟨g + 1 + 1, 0, none⟩ = some (.int .i64 z) := cell?_setCell_eq rfl (by rw [p0]; rfl)
  have c5 : ((w6.setCell ⟨g + 1 + 1, 0, none⟩ (.int .i64 z)).setCell ⟨g + 1 + 1 + 1, 0, none⟩ (.int .i64 0)).cell? ⟨g + 1 + 1, 0, none⟩ = some (.int .i64 z) := by
    rw [cell?_setCell_ne (.inl (by show g + 1 + 1 ≠ g + 1 + 1 + 1; omega))]; exact c4
  have c6 : ((w6.setCell ⟨g + 1 + 1, 0, none⟩ (.int .i64 z)).setCell ⟨g + 1 + 1 + 1, 0, none⟩ (.int .i64 0)).cell? ⟨g + 1 + 1 + 1, 0, none⟩ = some (.int .i64 0) :=
    cell?_setCell_eq rfl (by rw [cell?_setCell_ne (.inl (by show g + 1 + 1 + 1 ≠ g + 1 + 1; omega)), p3]; rfl)
  refine ⟨.tuple #[.int .i64 z, .int .i64 0], results_two_cells rfl _ _ (g + 1 + 1) (g + 1 + 1 + 1) _ _ rfl rfl (by simp [loadVar, go_sem, c5]) (by simp [loadVar, go_sem, c6]), ?_⟩
  exact ⟨rfl, ((fresh_trans H_hf.out H_hfa.out).setCell (fun h => by have := H_hg.out; change g + 1 + 1 < w.heap.size at h; omega) _).setCell (fun h => by have := H_hg.out; change g + 1 + 1 + 1 < w.heap.size at h; omega) _⟩

end Go.Proofs.YtibaeafmgncjdaaGreatDoor

/- FnFixCmpBig's walk. -/
namespace Go.Proofs.YtibaeafmgncjdaaGreatDoor
open Go.RowKit

theorem gsign_cmp (n : Bool) (c : Nat) : gsign (n && decide (0 < c)) c = cmpZ (zfix n c) 0 := by
  unfold gsign cmpZ zfix
  rcases Nat.eq_zero_or_pos c with h | h
  · subst h; cases n <;> simp
  · have h1 : decide (0 < c) = true := by simp; omega
    rw [h1]
    cases n
    · simp only [Bool.false_and, Bool.false_eq_true, if_false]
      rw [if_neg (by omega), if_neg (by omega), if_pos (by omega)]
    · simp only [Bool.true_and, if_true]
      rw [if_pos (by omega)]

theorem SFr.num {w : World} {a b c : Value} {z : Int} {d : Nat} (h : SFr w (.agg #[a, b, c]) z d) : SWh w (.agg #[a, b]) z := by
  obtain ⟨neg, v, l, dv, dl, he, h1, h2, h3, h4, _⟩ := h
  simp only [Value.agg.injEq, Array.mk.injEq, List.cons.injEq, and_true] at he
  obtain ⟨rfl, rfl, rfl⟩ := he
  exact ⟨neg, _, l, rfl, h1, h2, h3, h4⟩

set_option maxRecDepth 20000 in
theorem WholeSign_any (x : Value) (z : Int) (w : World) (h : SWh w x z) : Calls Tryz.prog 33 #[x] w (IRet w (cmpZ z 0)) := by
  have hcall := fun W (hW : Fresh w W) => WholeCmp_any x (.agg #[.bool false, .slice none 0 0]) z 0 W (h.fresh hW) ⟨false, _, [], rfl, SNat.nil _, Norm.nil, fun _ => rfl, rfl⟩
  obtain ⟨neg, v, l, rfl, h1, h2, h3, h4⟩ := h
  obtain ⟨a, c, rfl⟩ := h1.form
  generalize l.length = m at *
  have hal : Fresh w (w.alloc (.cells #[.bool neg, .slice a m c] 29)) := (Keep.refl _ _).alloc _
  clear h1 h2 h3 h4
  have H_hcall := Lib.hid hcall; clear hcall
  have H_hal := Lib.hid hal; clear hal
  go_enter Tryz.func33, Tryz.ntmps33
  go_wp2_with (fail)
  refine (H_hcall.out _ H_hal.out).mono ?_
  rintro e w2 ⟨rfl, f2⟩
  have H_f2 := Lib.hid f2; clear f2
  go_wp2_with (fail)
  go_ret
  exact ⟨rfl, fresh_trans H_hal.out H_f2.out⟩

set_option maxRecDepth 20000 in
set_option maxHeartbeats 2000000 in
theorem FnFixCmpBig_out (n1 n2 : Bool) (c1 c2 : Nat) (s1 s2 : Int) (w : World) (h : (fixIs c1 s1 && fixIs c2 s2) = false) :
    Calls Tryz.prog 10 #[.agg #[.bool n1, .int .u64 c1, .int .i64 s1], .agg #[.bool n2, .int .u64 c2, .int .i64 s2]] w (VRet w (.bool true)) := by
  obtain ⟨g, hg⟩ : ∃ g, g = w.heap.size := ⟨_, rfl⟩
  have bx := boxes3 w #[.bool n1, .int .u64 c1, .int .i64 s1] #[.bool n2, .int .u64 c2, .int .i64 s2] #[.bool n1, .int .u64 c1, .int .i64 s1, .bool n2, .int .u64 c2, .int .i64 s2] 24 24 24 g hg
  have H_bx := Lib.hid bx; clear bx
  have H_h := Lib.hid h; clear h
  go_enter Tryz.func10, Tryz.ntmps10
  go_wp2_with (fail)
  generalize hw1 : ((w.alloc _).alloc _).alloc _ = w1
  rw [← hg]
  obtain ⟨b1, b2, b3, hf, hgs⟩ := H_bx.out w1 hw1
  refine (FixAll_two n1 n2 c1 c2 s1 s2 _ _ b3).mono ?_
  rintro e w2 ⟨rfl, f2⟩
  rw [H_h.out]
  have H_b1 := Lib.hid b1; clear b1
  have H_b2 := Lib.hid b2; clear b2
  have H_b3 := Lib.hid b3; clear b3
  have H_hf := Lib.hid hf; clear hf
  have H_hw1 := Lib.hid hw1; clear hw1
  have H_hg := Lib.hid hg; clear hg
  have H_hgs := Lib.hid hgs; clear hgs
  have H_f2 := Lib.hid f2; clear f2
  go_wp2_with (fail)
  go_ret
  exact ⟨rfl, fresh_trans H_hf.out H_f2.out⟩

set_option maxRecDepth 100000 in
set_option maxHeartbeats 8000000 in
theorem FnFixCmpBig_ne (n1 n2 : Bool) (c1 s1 c2 s2 : Nat) (w : World) (hG : Glob w) (hP : Pow10s w) (hs1 : s1 ≤ 19) (hs2 : s2 ≤ 19) (hc1 : c1 ≤ 9999999999999999999) (hc2 : c2 ≤ 9999999999999999999) (hsg : cmpZ (zfix n1 c1) 0 ≠ cmpZ (zfix n2 c2) 0) :
    Calls Tryz.prog 10 #[fx n1 c1 s1, fx n2 c2 s2] w (VRet w (.bool true)) := by
  have h : (fixIs c1 s1 && fixIs c2 s2) = true := by unfold fixIs; simp; omega
  have hE : True := trivial
  have hga : ∀ W x, SWh W x (zfix n1 c1) → Calls Tryz.prog 33 #[x] W (IRet W (cmpZ (zfix n1 c1) 0)) := fun W x hx => WholeSign_any x _ W hx
  have hgb : ∀ W x, SWh W x (zfix n2 c2) → Calls Tryz.prog 33 #[x] W (IRet W (cmpZ (zfix n2 c2) 0)) := fun W x hx => WholeSign_any x _ W hx
  generalize cmpZ (zfix n1 c1) 0 = sa at *
  generalize cmpZ (zfix n2 c2) 0 = sb at *
  have tsg : (sa == sb) = false := by rw [beq_eq_false_iff_ne]; exact hsg
  have tsn : ¬ sa = sb := hsg
  clear hsg
  have H_hga := Lib.hid hga; clear hga
  have H_hgb := Lib.hid hgb; clear hgb
  obtain ⟨g, hg⟩ : ∃ g, g = w.heap.size := ⟨_, rfl⟩
  have bx := boxes3 w #[.bool n1, .int .u64 c1, .int .i64 s1] #[.bool n2, .int .u64 c2, .int .i64 s2] #[.bool n1, .int .u64 c1, .int .i64 s1, .bool n2, .int .u64 c2, .int .i64 s2] 24 24 24 g hg
  have H_bx := Lib.hid bx; clear bx
  have H_h := Lib.hid h; clear h
  have H_hG := Lib.hid hG; clear hG
  have H_hP := Lib.hid hP; clear hP
  have H_hE := Lib.hid hE; clear hE
  go_enter Tryz.func10, Tryz.ntmps10
  go_wp2_with (fail)
  generalize hw1 : ((w.alloc _).alloc _).alloc _ = w1
  rw [← hg]
  obtain ⟨b1, b2, b3, hf, hgs⟩ := H_bx.out w1 hw1
  refine (FixAll_two n1 n2 c1 c2 s1 s2 _ _ b3).mono ?_
  rintro e w2 ⟨rfl, f2⟩
  rw [H_h.out]
  have d1 := row_fresh b1 f2
  have d2 := row_fresh b2 f2
  have hfa := fresh_trans hf f2
  clear b1 b2 b3 hf f2
  have H_d1 := Lib.hid d1; clear d1
  have H_d2 := Lib.hid d2; clear d2
  have H_hw1 := Lib.hid hw1; clear hw1
  have H_hg := Lib.hid hg; clear hg
  have H_hgs := Lib.hid hgs; clear hgs
  have H_hfa := Lib.hid hfa; clear hfa
  go_wp2_with (fail)
  refine wp_region_slots 6 [14, 15, 16, 17, 5, 6] (fun l us w' => ∃ u0 u1 u2 u3 u4 u5 k4 k5, us = [u0, u1, u2, u3, u4, u5] ∧ Fresh w2 w' ∧ (l.getD 0 false = true → u0 = fx n1 c1 s1) ∧ (l.getD 1 false = true → SFr w' u1 (zfix n1 c1) (10 ^ s1)) ∧ (l.getD 2 false = true → u2 = fx n2 c2 s2) ∧ (l.getD 3 false = true → SFr w' u3 (zfix n2 c2) (10 ^ s2)) ∧ (l.getD 4 false = true → u4 = .pointer (some ⟨k4, 0, none⟩) ∧ w2.heap.size ≤ k4 ∧ w'.heap[k4]? = some (.cells #[.bool false, .slice none 0 0, .slice none 0 0] 31 (0, 0))) ∧ (l.getD 5 false = true → u5 = .pointer (some ⟨k5, 0, none⟩) ∧ w2.heap.size ≤ k5 ∧ w'.heap[k5]? = some (.cells #[.bool false, .slice none 0 0, .slice none 0 0] 31 (0, 0))) ∧ (l.getD 4 false = true → l.getD 5 false = true → k4 ≠ k5)) (by kernel_rfl) (by kernel_rfl) [undef, undef, undef, undef, undef, undef] rfl ⟨_, _, _, _, _, _, 0, 0, rfl, (Keep.refl _ _).drew, by simp, by simp, by simp, by simp, by simp, by simp, by simp⟩ ?step ?fin
  case step =>
    rintro l us w' i ⟨u0, u1, u2, u3, u4, u5, k4, k5, rfl, hf', h0, h1, h2, h3, h4, h5, h6⟩ hi hr K hK
    obtain rfl | rfl | rfl | rfl | rfl | rfl : i = 0 ∨ i = 1 ∨ i = 2 ∨ i = 3 ∨ i = 4 ∨ i = 5 := by omega
    · have d := row_fresh H_d1.out hf'
      have k0 := row_cell d 0
      have k1 := row_cell d 1
      have k2 := row_cell d 2
      simp at k0 k1 k2
      have hK0 := hK [fx n1 c1 s1, u1, u2, u3, u4, u5] w' ⟨_, _, _, _, _, _, k4, k5, rfl, hf', fun _ => rfl, fun h => h1 (was_up h (by decide)), fun h => h2 (was_up h (by decide)), fun h => h3 (was_up h (by decide)), fun h => h4 (was_up h (by decide)), fun h => h5 (was_up h (by decide)), fun h h' => h6 (was_up h (by decide)) (was_up h' (by decide))⟩
      have H_hK0 := Lib.hid hK0; clear hK0
      clear hK hf' h0 h1 h2 h3 h4 h5 h6 hr d
      refine wpOp_step rfl (fun K' hK' => ?_)
      have H_hK' := Lib.hid hK'; clear hK'
      try simp only [putAll, Act.put, List.getElem_toArray, List.getElem_cons_zero, List.setIfInBounds_toArray, List.set_cons_zero, List.set_cons_succ]
      go_simp
      exact H_hK'.out _ _ H_hK0.out
    · have e0 := h0 (ready_dep hr (by kernel_rfl))
      subst e0
      have hK0 := fun x w3 (hF : Fresh w' w3) (hx : SFr w3 x (zfix n1 c1) (10 ^ s1)) => hK [(fx n1 c1 s1), x, u2, u3, u4, u5] w3 ⟨_, _, _, _, _, _, k4, k5, rfl, fresh_trans hf' hF, fun _ => rfl, fun _ => hx, fun h => h2 (was_up h (by decide)), fun h => (h3 (was_up h (by decide))).fresh hF, fun h => ⟨(h4 (was_up h (by decide))).1, (h4 (was_up h (by decide))).2.1, row_fresh (h4 (was_up h (by decide))).2.2 hF⟩, fun h => ⟨(h5 (was_up h (by decide))).1, (h5 (was_up h (by decide))).2.1, row_fresh (h5 (was_up h (by decide))).2.2 hF⟩, fun h h' => h6 (was_up h (by decide)) (was_up h' (by decide))⟩
      have H_hK0 := Lib.hid hK0; clear hK0
      clear hK hf' h0 h1 h2 h3 h4 h5 h6 hr
      refine wpOp_step rfl (fun K' hK' => ?_)
      have H_hK' := Lib.hid hK'; clear hK'
      try simp only [putAll, Act.put, List.getElem_toArray, List.getElem_cons_zero, List.getElem_cons_succ, List.setIfInBounds_toArray, List.set_cons_zero, List.set_cons_succ]
      go_simp
      refine (FixNum_any n1 c1 s1 _ hs1 hc1).mono ?_
      rintro e w3 ⟨x, rfl, hx, f3⟩
      have H_hx := Lib.hid hx; clear hx
      have H_f3 := Lib.hid f3; clear f3
      go_wp2_with (fail)
      exact H_hK'.out _ _ (H_hK0.out _ _ H_f3.out H_hx.out)
    · have d := row_fresh H_d2.out hf'
      have k0 := row_cell d 0
      have k1 := row_cell d 1
      have k2 := row_cell d 2
      simp at k0 k1 k2
      have hK0 := hK [u0, u1, fx n2 c2 s2, u3, u4, u5] w' ⟨_, _, _, _, _, _, k4, k5, rfl, hf', fun h => h0 (was_up h (by decide)), fun h => h1 (was_up h (by decide)), fun _ => rfl, fun h => h3 (was_up h (by decide)), fun h => h4 (was_up h (by decide)), fun h => h5 (was_up h (by decide)), fun h h' => h6 (was_up h (by decide)) (was_up h' (by decide))⟩
      have H_hK0 := Lib.hid hK0; clear hK0
      clear hK hf' h0 h1 h2 h3 h4 h5 h6 hr d
      refine wpOp_step rfl (fun K' hK' => ?_)
      have H_hK' := Lib.hid hK'; clear hK'
      try simp only [putAll, Act.put, List.getElem_toArray, List.getElem_cons_zero, List.getElem_cons_succ, List.setIfInBounds_toArray, List.set_cons_zero, List.set_cons_succ]
      go_simp
      exact H_hK'.out _ _ H_hK0.out
    · have e0 := h2 (ready_dep hr (by kernel_rfl))
      subst e0
      have hK0 := fun x w3 (hF : Fresh w' w3) (hx : SFr w3 x (zfix n2 c2) (10 ^ s2)) => hK [u0, u1, (fx n2 c2 s2), x, u4, u5] w3 ⟨_, _, _, _, _, _, k4, k5, rfl, fresh_trans hf' hF, fun h => h0 (was_up h (by decide)), fun h => (h1 (was_up h (by decide))).fresh hF, fun _ => rfl, fun _ => hx, fun h => ⟨(h4 (was_up h (by decide))).1, (h4 (was_up h (by decide))).2.1, row_fresh (h4 (was_up h (by decide))).2.2 hF⟩, fun h => ⟨(h5 (was_up h (by decide))).1, (h5 (was_up h (by decide))).2.1, row_fresh (h5 (was_up h (by decide))).2.2 hF⟩, fun h h' => h6 (was_up h (by decide)) (was_up h' (by decide))⟩
      have H_hK0 := Lib.hid hK0; clear hK0
      clear hK hf' h0 h1 h2 h3 h4 h5 h6 hr
      refine wpOp_step rfl (fun K' hK' => ?_)
      have H_hK' := Lib.hid hK'; clear hK'
      try simp only [putAll, Act.put, List.getElem_toArray, List.getElem_cons_zero, List.getElem_cons_succ, List.setIfInBounds_toArray, List.set_cons_zero, List.set_cons_succ]
      go_simp
      refine (FixNum_any n2 c2 s2 _ hs2 hc2).mono ?_
      rintro e w3 ⟨x, rfl, hx, f3⟩
      have H_hx := Lib.hid hx; clear hx
      have H_f3 := Lib.hid f3; clear f3
      go_wp2_with (fail)
      exact H_hK'.out _ _ (H_hK0.out _ _ H_f3.out H_hx.out)
    · have hF : Fresh w' (w'.alloc (.cells #[.bool false, .slice none 0 0, .slice none 0 0] 31 (0, 0))) := (Keep.refl _ _).alloc _
      have hK0 := hK [u0, u1, u2, u3, (.pointer (some ⟨w'.heap.size, 0, none⟩)), u5] _ ⟨_, _, _, _, _, _, w'.heap.size, k5, rfl, fresh_trans hf' hF, fun h => h0 (was_up h (by decide)), fun h => (h1 (was_up h (by decide))).fresh hF, fun h => h2 (was_up h (by decide)), fun h => (h3 (was_up h (by decide))).fresh hF, fun _ => ⟨rfl, hf'.size, heap_alloc_new w' _⟩, fun h => ⟨(h5 (was_up h (by decide))).1, (h5 (was_up h (by decide))).2.1, row_fresh (h5 (was_up h (by decide))).2.2 hF⟩, fun _ h' => fun e => by have := lt_of_row (h5 (was_up h' (by decide))).2.2; omega⟩
      have H_hK0 := Lib.hid hK0; clear hK0
      clear hK hf' h0 h1 h2 h3 h4 h5 h6 hr hF
      refine wpOp_step rfl (fun K' hK' => ?_)
      have H_hK' := Lib.hid hK'; clear hK'
      try simp only [putAll, Act.put, List.getElem_toArray, List.getElem_cons_zero, List.getElem_cons_succ, List.setIfInBounds_toArray, List.set_cons_zero, List.set_cons_succ]
      go_simp
      exact H_hK'.out _ _ H_hK0.out
    · have hF : Fresh w' (w'.alloc (.cells #[.bool false, .slice none 0 0, .slice none 0 0] 31 (0, 0))) := (Keep.refl _ _).alloc _
      have hK0 := hK [u0, u1, u2, u3, u4, (.pointer (some ⟨w'.heap.size, 0, none⟩))] _ ⟨_, _, _, _, _, _, k4, w'.heap.size, rfl, fresh_trans hf' hF, fun h => h0 (was_up h (by decide)), fun h => (h1 (was_up h (by decide))).fresh hF, fun h => h2 (was_up h (by decide)), fun h => (h3 (was_up h (by decide))).fresh hF, fun h => ⟨(h4 (was_up h (by decide))).1, (h4 (was_up h (by decide))).2.1, row_fresh (h4 (was_up h (by decide))).2.2 hF⟩, fun _ => ⟨rfl, hf'.size, heap_alloc_new w' _⟩, fun h _ => fun e => by have := lt_of_row (h4 (was_up h (by decide))).2.2; omega⟩
      have H_hK0 := Lib.hid hK0; clear hK0
      clear hK hf' h0 h1 h2 h3 h4 h5 h6 hr hF
      refine wpOp_step rfl (fun K' hK' => ?_)
      have H_hK' := Lib.hid hK'; clear hK'
      try simp only [putAll, Act.put, List.getElem_toArray, List.getElem_cons_zero, List.getElem_cons_succ, List.setIfInBounds_toArray, List.set_cons_zero, List.set_cons_succ]
      go_simp
      exact H_hK'.out _ _ H_hK0.out
  case fin =>
    rintro us w3 ⟨u0, u1, u2, u3, u4, u5, k4, k5, rfl, hf', -, h1, -, h3, h4, h5, h6⟩
    have sx := h1 rfl
    have sy := h3 rfl
    obtain ⟨rfl, g4, r4⟩ := h4 rfl
    obtain ⟨rfl, g5, r5⟩ := h5 rfl
    have hk := h6 rfl rfl
    have sx0 := sx
    have sy0 := sy
    obtain ⟨xn, xv, xl, xd, xdl, rfl, x1, -, -, -, x2, -⟩ := sx
    obtain ⟨yn, yv, yl, yd, ydl, rfl, y1, -, -, -, y2, -⟩ := sy
    obtain ⟨xa, xc, rfl⟩ := x1.form
    obtain ⟨ya, yc, rfl⟩ := y1.form
    obtain ⟨xda, xdc, rfl⟩ := x2.form
    obtain ⟨yda, ydc, rfl⟩ := y2.form
    generalize xl.length = xm at *
    generalize yl.length = ym at *
    generalize xdl.length = xdm at *
    generalize ydl.length = ydm at *
    have q0 : w3.frozen? ⟨k4, 0, none⟩ = false := frozen_of_row _ _ _ _ _ r4
    have q1 : w3.frozen? ⟨k4, 1, none⟩ = false := frozen_of_row _ _ _ _ _ r4
    have q2 : w3.frozen? ⟨k4, 2, none⟩ = false := frozen_of_row _ _ _ _ _ r4
    have q3 : w3.frozen? ⟨k5, 0, none⟩ = false := frozen_of_row _ _ _ _ _ r5
    have q4 : w3.frozen? ⟨k5, 1, none⟩ = false := frozen_of_row _ _ _ _ _ r5
    have q5 : w3.frozen? ⟨k5, 2, none⟩ = false := frozen_of_row _ _ _ _ _ r5
    have p0 := row_cell r4 0
    have p1 := row_cell r4 1
    have p2 := row_cell r4 2
    simp at p0 p1 p2
    have p3 := row_cell r5 0
    have p4 := row_cell r5 1
    have p5 := row_cell r5 2
    simp at p3 p4 p5
    have t4 := row3_ne (x := .bool yn) (y := .slice ya ym yc) (z := .slice yda ydm ydc) (Ne.symm hk) (row3 (x := .bool xn) (y := .slice xa xm xc) (z := .slice xda xdm xdc) r4)
    have t5 := row3 (x := .bool yn) (y := .slice ya ym yc) (z := .slice yda ydm ydc) (row3_ne (x := .bool xn) (y := .slice xa xm xc) (z := .slice xda xdm xdc) hk r5)
    have c5 := (row_cell (row3_ne (x := .bool xn) (y := .slice xa xm xc) (z := .slice xda xdm xdc) hk r5) 0)
    have sx1 := (sx0.set3 (by simpa using row_cell r4 0) (fun n e => by simp at e) (.bool xn) (.slice xa xm xc) (.slice xda xdm xdc)).set3 (by simpa using c5) (fun n e => by simp at e) (.bool yn) (.slice ya ym yc) (.slice yda ydm ydc)
    have sy1 := (sy0.set3 (by simpa using row_cell r4 0) (fun n e => by simp at e) (.bool xn) (.slice xa xm xc) (.slice xda xdm xdc)).set3 (by simpa using c5) (fun n e => by simp at e) (.bool yn) (.slice ya ym yc) (.slice yda ydm ydc)
    have d1' := row_fresh H_d1.out hf'
    have d2' := row_fresh H_d2.out hf'
    have hl1 := lt_of_row H_d1.out
    have hl2 := lt_of_row H_d2.out
    have d1x := row3_ne (x := .bool yn) (y := .slice ya ym yc) (z := .slice yda ydm ydc) (show k5 ≠ g by omega) (row3_ne (x := .bool xn) (y := .slice xa xm xc) (z := .slice xda xdm xdc) (show k4 ≠ g by omega) d1')
    have d2x := row3_ne (x := .bool yn) (y := .slice ya ym yc) (z := .slice yda ydm ydc) (show k5 ≠ g + 1 by omega) (row3_ne (x := .bool xn) (y := .slice xa xm xc) (z := .slice xda xdm xdc) (show k4 ≠ g + 1 by omega) d2')
    have hsz := H_hfa.out.size
    have f9 := ((fresh_trans H_hfa.out hf').set3 (g := k4) (o1 := 0) (o2 := 1) (o3 := 2) (v1 := .bool xn) (v2 := .slice xa xm xc) (v3 := .slice xda xdm xdc) (by omega)).set3 (g := k5) (o1 := 0) (o2 := 1) (o3 := 2) (v1 := .bool yn) (v2 := .slice ya ym yc) (v3 := .slice yda ydm ydc) (by omega)
    clear sx0 sy0 x1 x2 y1 y2 r4 r5 hf' d1' d2' h1 h3 h4 h5 h6 c5 g4 g5 hsz
    have hk2 : ¬ k5 = k4 := fun e => hk e.symm
    have hk3 : ¬ k4 = k5 := hk
    clear hk
    have H_t4 := Lib.hid t4; clear t4
    have H_t5 := Lib.hid t5; clear t5
    have H_sx1 := Lib.hid sx1; clear sx1
    have H_sy1 := Lib.hid sy1; clear sy1
    have H_d1x := Lib.hid d1x; clear d1x
    have H_d2x := Lib.hid d2x; clear d2x
    have H_f9 := Lib.hid f9; clear f9
    have H_hl1 := Lib.hid hl1; clear hl1
    have H_hl2 := Lib.hid hl2; clear hl2
    refine wpAny_next (fuel := 1) (i := 6) rfl (by kernel_rfl) (fun K hK => ?_)
    try simp only [putAll, Act.put, List.getElem_toArray, List.getElem_cons_zero, List.getElem_cons_succ, List.setIfInBounds_toArray, List.set_cons_zero, List.set_cons_succ]
    go_simp
    refine hK.out _ _ ?_
    clear hK K
    refine wpAny_next (fuel := 0) (i := 7) rfl (by kernel_rfl) (fun K hK => ?_)
    go_simp
    refine hK.out _ _ ?_
    clear hK K
    refine wpAny_end (by kernel_rfl) ?_ _
    clear p0 p1 p2 p3 p4 p5 q0 q1 q2 q3 q4 q5
    generalize hw4 : World.setCell _ _ _ = w4
    have t4 := H_t4.out
    have t5 := H_t5.out
    have sx := H_sx1.out
    have sy := H_sy1.out
    have d1 := H_d1x.out
    have d2 := H_d2x.out
    have f9 := H_f9.out
    rw [hw4] at t4 t5 sx sy d1 d2 f9
    clear H_t4 H_t5 H_sx1 H_sy1 H_d1x H_d2x H_f9 H_d1 H_d2
    have m0 := row_cell t4 0
    have m1 := row_cell t4 1
    have m2 := row_cell t4 2
    simp at m0 m1 m2
    have m3 := row_cell t5 0
    have m4 := row_cell t5 1
    have m5 := row_cell t5 2
    simp at m3 m4 m5
    have k0 := row_cell d1 0
    have k1 := row_cell d1 1
    have k2 := row_cell d1 2
    simp at k0 k1 k2
    have k3 := row_cell d2 0
    have k4' := row_cell d2 1
    have k5' := row_cell d2 2
    simp at k3 k4' k5'
    have H_hw4 := Lib.hid hw4; clear hw4
    have H_t4 := Lib.hid t4; clear t4
    have H_t5 := Lib.hid t5; clear t5
    have H_sx := Lib.hid sx; clear sx
    have H_sy := Lib.hid sy; clear sy
    have H_d1 := Lib.hid d1; clear d1
    have H_d2 := Lib.hid d2; clear d2
    have H_f9 := Lib.hid f9; clear f9
    try simp only [putAll, Act.put, List.getElem_toArray, List.getElem_cons_zero, List.getElem_cons_succ, List.setIfInBounds_toArray, List.set_cons_zero, List.set_cons_succ]
    go_wp2_with (fail)
    go_region_held3 (fun (w' : World) => w'.cell? ⟨k4, 0, none⟩ = some (.bool xn) ∧ w'.cell? ⟨k4, 1, none⟩ = some (.slice xa xm xc) ∧ w'.cell? ⟨k4, 2, none⟩ = some (.slice xda xdm xdc) ∧ w'.cell? ⟨k5, 0, none⟩ = some (.bool yn) ∧ w'.cell? ⟨k5, 1, none⟩ = some (.slice ya ym yc) ∧ w'.cell? ⟨k5, 2, none⟩ = some (.slice yda ydm ydc)) (first | exact ⟨m0, m1, m2, m3, m4, m5⟩ | exact ⟨z2_0, z2_1, z2_2, z2_3, z2_4, z2_5⟩ | exact ⟨z4_0, z4_1, z4_2, z4_3, z4_4, z4_5⟩) (first
    | (go_at_call 33; (with_reducible refine (H_hga.out _ _ (H_sx.out.fresh (by first | exact Keep.refl _ _ | exact (Keep.refl _ _).drew | exact (Keep.refl _ _).drewN _)).num).mono ?_); rintro e y1_ ⟨rfl, r⟩; have hy : Fresh w4 y1_ := (by first | exact r | exact r.of_drew | exact r.of_drewN); have z2_0 := cell_fresh m0 hy; have z2_1 := cell_fresh m1 hy; have z2_2 := cell_fresh m2 hy; have z2_3 := cell_fresh m3 hy; have z2_4 := cell_fresh m4 hy; have z2_5 := cell_fresh m5 hy; have fy1_ := hy; have H_fy1_ := Lib.hid fy1_; clear r hy fy1_)
    | (go_at_call 33; (with_reducible refine (H_hgb.out _ _ (H_sy.out.fresh H_fy1_.out).num).mono ?_); rintro e y3_ ⟨rfl, r⟩; have hy : Fresh y1_ y3_ := r; have z4_0 := cell_fresh z2_0 hy; have z4_1 := cell_fresh z2_1 hy; have z4_2 := cell_fresh z2_2 hy; have z4_3 := cell_fresh z2_3 hy; have z4_4 := cell_fresh z2_4 hy; have z4_5 := cell_fresh z2_5 hy; have fy3_ := fresh_trans H_fy1_.out hy; have H_fy3_ := Lib.hid fy3_; clear r hy fy3_))
    go_wp2
    go_ret
    exact ⟨by rfl, fresh_trans H_f9.out H_fy3_.out⟩

set_option maxRecDepth 100000 in
set_option maxHeartbeats 8000000 in
theorem FnFixCmpBig_eq (n1 n2 : Bool) (c1 s1 c2 s2 : Nat) (w : World) (hG : Glob w) (hP : Pow10s w) (hs1 : s1 ≤ 19) (hs2 : s2 ≤ 19) (hc1 : c1 ≤ 9999999999999999999) (hc2 : c2 ≤ 9999999999999999999) (hsg : cmpZ (zfix n1 c1) 0 = cmpZ (zfix n2 c2) 0) :
    Calls Tryz.prog 10 #[fx n1 c1 s1, fx n2 c2 s2] w (VRet w (.bool true)) := by
  have h : (fixIs c1 s1 && fixIs c2 s2) = true := by unfold fixIs; simp; omega
  have hE : True := trivial
  have hga : ∀ W x, SWh W x (zfix n1 c1) → Calls Tryz.prog 33 #[x] W (IRet W (cmpZ (zfix n1 c1) 0)) := fun W x hx => WholeSign_any x _ W hx
  have hgb : ∀ W x, SWh W x (zfix n2 c2) → Calls Tryz.prog 33 #[x] W (IRet W (cmpZ (zfix n2 c2) 0)) := fun W x hx => WholeSign_any x _ W hx
  have hsa := gsign_cmp n1 c1
  have hsb := gsign_cmp n2 c2
  rw [← hsg] at hgb hsb
  have hfr : ∀ W x y, SFr W x (zfix n1 c1) (10 ^ s1) → SFr W y (zfix n2 c2) (10 ^ s2) → Calls Tryz.prog 19 #[x, y] W (IRet W (zcmp n1 c1 s1 n2 c2 s2)) := fun W x y hx hy =>
    FracCmp_any x y _ _ _ _ W hx hy (zfix_spow hc1) (zfix_spow hc2) (ten_spow hs1) (ten_spow hs2)
  have hm : ∀ W, Fresh w W → Calls Tryz.prog 87 #[gd (n1 && decide (0 < c1)) s1 c1, gd (n2 && decide (0 < c2)) s2 c2] W (VRet W (.int .i64 (zcmp n1 c1 s1 n2 c2 s2))) := fun W h => by
    have := cmpBint_any (n1 && decide (0 < c1)) (n2 && decide (0 < c2)) c1 s1 c2 s2 W (hG.fresh h) (hP.fresh h) hs1 hs2 hc1 hc2 (hsa.trans hsb.symm)
    rw [← zcmp_eq canon_pos canon_pos (hsa.trans hsb.symm), zcmp_canon] at this
    exact this
  generalize zcmp n1 c1 s1 n2 c2 s2 = z at *
  generalize cmpZ (zfix n1 c1) 0 = sg at *
  have hct := fun W (hW : Fresh w W) => FixCmpBig_any n1 n2 s1 c1 s2 c2 z sg W hs1 hc1 hs2 hc2 hsa hsb (fun W2 h2 => ZzCmpBig_any _ _ c1 s1 c2 s2 z W2 (fun W3 h3 => hm W3 (fresh_trans hW (fresh_trans h2 h3))))
  have hfrC := Lib.hid hfr
  clear hfr
  have H_hga := Lib.hid hga; clear hga
  have H_hgb := Lib.hid hgb; clear hgb
  have H_hsa := Lib.hid hsa; clear hsa
  have H_hsb := Lib.hid hsb; clear hsb
  have H_hm := Lib.hid hm; clear hm
  have H_hct := Lib.hid hct; clear hct
  have H_hsg := Lib.hid hsg; clear hsg
  obtain ⟨g, hg⟩ : ∃ g, g = w.heap.size := ⟨_, rfl⟩
  have bx := boxes3 w #[.bool n1, .int .u64 c1, .int .i64 s1] #[.bool n2, .int .u64 c2, .int .i64 s2] #[.bool n1, .int .u64 c1, .int .i64 s1, .bool n2, .int .u64 c2, .int .i64 s2] 24 24 24 g hg
  have H_bx := Lib.hid bx; clear bx
  have H_h := Lib.hid h; clear h
  have H_hG := Lib.hid hG; clear hG
  have H_hP := Lib.hid hP; clear hP
  have H_hE := Lib.hid hE; clear hE
  go_enter Tryz.func10, Tryz.ntmps10
  go_wp2_with (fail)
  generalize hw1 : ((w.alloc _).alloc _).alloc _ = w1
  rw [← hg]
  obtain ⟨b1, b2, b3, hf, hgs⟩ := H_bx.out w1 hw1
  refine (FixAll_two n1 n2 c1 c2 s1 s2 _ _ b3).mono ?_
  rintro e w2 ⟨rfl, f2⟩
  rw [H_h.out]
  have d1 := row_fresh b1 f2
  have d2 := row_fresh b2 f2
  have hfa := fresh_trans hf f2
  clear b1 b2 b3 hf f2
  have H_d1 := Lib.hid d1; clear d1
  have H_d2 := Lib.hid d2; clear d2
  have H_hw1 := Lib.hid hw1; clear hw1
  have H_hg := Lib.hid hg; clear hg
  have H_hgs := Lib.hid hgs; clear hgs
  have H_hfa := Lib.hid hfa; clear hfa
  go_wp2_with (fail)
  refine wp_region_slots 6 [14, 15, 16, 17, 5, 6] (fun l us w' => ∃ u0 u1 u2 u3 u4 u5 k4 k5, us = [u0, u1, u2, u3, u4, u5] ∧ Fresh w2 w' ∧ (l.getD 0 false = true → u0 = fx n1 c1 s1) ∧ (l.getD 1 false = true → SFr w' u1 (zfix n1 c1) (10 ^ s1)) ∧ (l.getD 2 false = true → u2 = fx n2 c2 s2) ∧ (l.getD 3 false = true → SFr w' u3 (zfix n2 c2) (10 ^ s2)) ∧ (l.getD 4 false = true → u4 = .pointer (some ⟨k4, 0, none⟩) ∧ w2.heap.size ≤ k4 ∧ w'.heap[k4]? = some (.cells #[.bool false, .slice none 0 0, .slice none 0 0] 31 (0, 0))) ∧ (l.getD 5 false = true → u5 = .pointer (some ⟨k5, 0, none⟩) ∧ w2.heap.size ≤ k5 ∧ w'.heap[k5]? = some (.cells #[.bool false, .slice none 0 0, .slice none 0 0] 31 (0, 0))) ∧ (l.getD 4 false = true → l.getD 5 false = true → k4 ≠ k5)) (by kernel_rfl) (by kernel_rfl) [undef, undef, undef, undef, undef, undef] rfl ⟨_, _, _, _, _, _, 0, 0, rfl, (Keep.refl _ _).drew, by simp, by simp, by simp, by simp, by simp, by simp, by simp⟩ ?step ?fin
  case step =>
    rintro l us w' i ⟨u0, u1, u2, u3, u4, u5, k4, k5, rfl, hf', h0, h1, h2, h3, h4, h5, h6⟩ hi hr K hK
    obtain rfl | rfl | rfl | rfl | rfl | rfl : i = 0 ∨ i = 1 ∨ i = 2 ∨ i = 3 ∨ i = 4 ∨ i = 5 := by omega
    · have d := row_fresh H_d1.out hf'
      have k0 := row_cell d 0
      have k1 := row_cell d 1
      have k2 := row_cell d 2
      simp at k0 k1 k2
      have hK0 := hK [fx n1 c1 s1, u1, u2, u3, u4, u5] w' ⟨_, _, _, _, _, _, k4, k5, rfl, hf', fun _ => rfl, fun h => h1 (was_up h (by decide)), fun h => h2 (was_up h (by decide)), fun h => h3 (was_up h (by decide)), fun h => h4 (was_up h (by decide)), fun h => h5 (was_up h (by decide)), fun h h' => h6 (was_up h (by decide)) (was_up h' (by decide))⟩
      have H_hK0 := Lib.hid hK0; clear hK0
      clear hK hf' h0 h1 h2 h3 h4 h5 h6 hr d
      refine wpOp_step rfl (fun K' hK' => ?_)
      have H_hK' := Lib.hid hK'; clear hK'
      try simp only [putAll, Act.put, List.getElem_toArray, List.getElem_cons_zero, List.setIfInBounds_toArray, List.set_cons_zero, List.set_cons_succ]
      go_simp
      exact H_hK'.out _ _ H_hK0.out
    · have e0 := h0 (ready_dep hr (by kernel_rfl))
      subst e0
      have hK0 := fun x w3 (hF : Fresh w' w3) (hx : SFr w3 x (zfix n1 c1) (10 ^ s1)) => hK [(fx n1 c1 s1), x, u2, u3, u4, u5] w3 ⟨_, _, _, _, _, _, k4, k5, rfl, fresh_trans hf' hF, fun _ => rfl, fun _ => hx, fun h => h2 (was_up h (by decide)), fun h => (h3 (was_up h (by decide))).fresh hF, fun h => ⟨(h4 (was_up h (by decide))).1, (h4 (was_up h (by decide))).2.1, row_fresh (h4 (was_up h (by decide))).2.2 hF⟩, fun h => ⟨(h5 (was_up h (by decide))).1, (h5 (was_up h (by decide))).2.1, row_fresh (h5 (was_up h (by decide))).2.2 hF⟩, fun h h' => h6 (was_up h (by decide)) (was_up h' (by decide))⟩
      have H_hK0 := Lib.hid hK0; clear hK0
      clear hK hf' h0 h1 h2 h3 h4 h5 h6 hr
      refine wpOp_step rfl (fun K' hK' => ?_)
      have H_hK' := Lib.hid hK'; clear hK'
      try simp only [putAll, Act.put, List.getElem_toArray, List.getElem_cons_zero, List.getElem_cons_succ, List.setIfInBounds_toArray, List.set_cons_zero, List.set_cons_succ]
      go_simp
      refine (FixNum_any n1 c1 s1 _ hs1 hc1).mono ?_
      rintro e w3 ⟨x, rfl, hx, f3⟩
      have H_hx := Lib.hid hx; clear hx
      have H_f3 := Lib.hid f3; clear f3
      go_wp2_with (fail)
      exact H_hK'.out _ _ (H_hK0.out _ _ H_f3.out H_hx.out)
    · have d := row_fresh H_d2.out hf'
      have k0 := row_cell d 0
      have k1 := row_cell d 1
      have k2 := row_cell d 2
      simp at k0 k1 k2
      have hK0 := hK [u0, u1, fx n2 c2 s2, u3, u4, u5] w' ⟨_, _, _, _, _, _, k4, k5, rfl, hf', fun h => h0 (was_up h (by decide)), fun h => h1 (was_up h (by decide)), fun _ => rfl, fun h => h3 (was_up h (by decide)), fun h => h4 (was_up h (by decide)), fun h => h5 (was_up h (by decide)), fun h h' => h6 (was_up h (by decide)) (was_up h' (by decide))⟩
      have H_hK0 := Lib.hid hK0; clear hK0
      clear hK hf' h0 h1 h2 h3 h4 h5 h6 hr d
      refine wpOp_step rfl (fun K' hK' => ?_)
      have H_hK' := Lib.hid hK'; clear hK'
      try simp only [putAll, Act.put, List.getElem_toArray, List.getElem_cons_zero, List.getElem_cons_succ, List.setIfInBounds_toArray, List.set_cons_zero, List.set_cons_succ]
      go_simp
      exact H_hK'.out _ _ H_hK0.out
    · have e0 := h2 (ready_dep hr (by kernel_rfl))
      subst e0
      have hK0 := fun x w3 (hF : Fresh w' w3) (hx : SFr w3 x (zfix n2 c2) (10 ^ s2)) => hK [u0, u1, (fx n2 c2 s2), x, u4, u5] w3 ⟨_, _, _, _, _, _, k4, k5, rfl, fresh_trans hf' hF, fun h => h0 (was_up h (by decide)), fun h => (h1 (was_up h (by decide))).fresh hF, fun _ => rfl, fun _ => hx, fun h => ⟨(h4 (was_up h (by decide))).1, (h4 (was_up h (by decide))).2.1, row_fresh (h4 (was_up h (by decide))).2.2 hF⟩, fun h => ⟨(h5 (was_up h (by decide))).1, (h5 (was_up h (by decide))).2.1, row_fresh (h5 (was_up h (by decide))).2.2 hF⟩, fun h h' => h6 (was_up h (by decide)) (was_up h' (by decide))⟩
      have H_hK0 := Lib.hid hK0; clear hK0
      clear hK hf' h0 h1 h2 h3 h4 h5 h6 hr
      refine wpOp_step rfl (fun K' hK' => ?_)
      have H_hK' := Lib.hid hK'; clear hK'
      try simp only [putAll, Act.put, List.getElem_toArray, List.getElem_cons_zero, List.getElem_cons_succ, List.setIfInBounds_toArray, List.set_cons_zero, List.set_cons_succ]
      go_simp
      refine (FixNum_any n2 c2 s2 _ hs2 hc2).mono ?_
      rintro e w3 ⟨x, rfl, hx, f3⟩
      have H_hx := Lib.hid hx; clear hx
      have H_f3 := Lib.hid f3; clear f3
      go_wp2_with (fail)
      exact H_hK'.out _ _ (H_hK0.out _ _ H_f3.out H_hx.out)
    · have hF : Fresh w' (w'.alloc (.cells #[.bool false, .slice none 0 0, .slice none 0 0] 31 (0, 0))) := (Keep.refl _ _).alloc _
      have hK0 := hK [u0, u1, u2, u3, (.pointer (some ⟨w'.heap.size, 0, none⟩)), u5] _ ⟨_, _, _, _, _, _, w'.heap.size, k5, rfl, fresh_trans hf' hF, fun h => h0 (was_up h (by decide)), fun h => (h1 (was_up h (by decide))).fresh hF, fun h => h2 (was_up h (by decide)), fun h => (h3 (was_up h (by decide))).fresh hF, fun _ => ⟨rfl, hf'.size, heap_alloc_new w' _⟩, fun h => ⟨(h5 (was_up h (by decide))).1, (h5 (was_up h (by decide))).2.1, row_fresh (h5 (was_up h (by decide))).2.2 hF⟩, fun _ h' => fun e => by have := lt_of_row (h5 (was_up h' (by decide))).2.2; omega⟩
      have H_hK0 := Lib.hid hK0; clear hK0
      clear hK hf' h0 h1 h2 h3 h4 h5 h6 hr hF
      refine wpOp_step rfl (fun K' hK' => ?_)
      have H_hK' := Lib.hid hK'; clear hK'
      try simp only [putAll, Act.put, List.getElem_toArray, List.getElem_cons_zero, List.getElem_cons_succ, List.setIfInBounds_toArray, List.set_cons_zero, List.set_cons_succ]
      go_simp
      exact H_hK'.out _ _ H_hK0.out
    · have hF : Fresh w' (w'.alloc (.cells #[.bool false, .slice none 0 0, .slice none 0 0] 31 (0, 0))) := (Keep.refl _ _).alloc _
      have hK0 := hK [u0, u1, u2, u3, u4, (.pointer (some ⟨w'.heap.size, 0, none⟩))] _ ⟨_, _, _, _, _, _, k4, w'.heap.size, rfl, fresh_trans hf' hF, fun h => h0 (was_up h (by decide)), fun h => (h1 (was_up h (by decide))).fresh hF, fun h => h2 (was_up h (by decide)), fun h => (h3 (was_up h (by decide))).fresh hF, fun h => ⟨(h4 (was_up h (by decide))).1, (h4 (was_up h (by decide))).2.1, row_fresh (h4 (was_up h (by decide))).2.2 hF⟩, fun _ => ⟨rfl, hf'.size, heap_alloc_new w' _⟩, fun h _ => fun e => by have := lt_of_row (h4 (was_up h (by decide))).2.2; omega⟩
      have H_hK0 := Lib.hid hK0; clear hK0
      clear hK hf' h0 h1 h2 h3 h4 h5 h6 hr hF
      refine wpOp_step rfl (fun K' hK' => ?_)
      have H_hK' := Lib.hid hK'; clear hK'
      try simp only [putAll, Act.put, List.getElem_toArray, List.getElem_cons_zero, List.getElem_cons_succ, List.setIfInBounds_toArray, List.set_cons_zero, List.set_cons_succ]
      go_simp
      exact H_hK'.out _ _ H_hK0.out
  case fin =>
    rintro us w3 ⟨u0, u1, u2, u3, u4, u5, k4, k5, rfl, hf', -, h1, -, h3, h4, h5, h6⟩
    have sx := h1 rfl
    have sy := h3 rfl
    obtain ⟨rfl, g4, r4⟩ := h4 rfl
    obtain ⟨rfl, g5, r5⟩ := h5 rfl
    have hk := h6 rfl rfl
    have sx0 := sx
    have sy0 := sy
    obtain ⟨xn, xv, xl, xd, xdl, rfl, x1, -, -, -, x2, -⟩ := sx
    obtain ⟨yn, yv, yl, yd, ydl, rfl, y1, -, -, -, y2, -⟩ := sy
    obtain ⟨xa, xc, rfl⟩ := x1.form
    obtain ⟨ya, yc, rfl⟩ := y1.form
    obtain ⟨xda, xdc, rfl⟩ := x2.form
    obtain ⟨yda, ydc, rfl⟩ := y2.form
    generalize xl.length = xm at *
    generalize yl.length = ym at *
    generalize xdl.length = xdm at *
    generalize ydl.length = ydm at *
    have q0 : w3.frozen? ⟨k4, 0, none⟩ = false := frozen_of_row _ _ _ _ _ r4
    have q1 : w3.frozen? ⟨k4, 1, none⟩ = false := frozen_of_row _ _ _ _ _ r4
    have q2 : w3.frozen? ⟨k4, 2, none⟩ = false := frozen_of_row _ _ _ _ _ r4
    have q3 : w3.frozen? ⟨k5, 0, none⟩ = false := frozen_of_row _ _ _ _ _ r5
    have q4 : w3.frozen? ⟨k5, 1, none⟩ = false := frozen_of_row _ _ _ _ _ r5
    have q5 : w3.frozen? ⟨k5, 2, none⟩ = false := frozen_of_row _ _ _ _ _ r5
    have p0 := row_cell r4 0
    have p1 := row_cell r4 1
    have p2 := row_cell r4 2
    simp at p0 p1 p2
    have p3 := row_cell r5 0
    have p4 := row_cell r5 1
    have p5 := row_cell r5 2
    simp at p3 p4 p5
    have t4 := row3_ne (x := .bool yn) (y := .slice ya ym yc) (z := .slice yda ydm ydc) (Ne.symm hk) (row3 (x := .bool xn) (y := .slice xa xm xc) (z := .slice xda xdm xdc) r4)
    have t5 := row3 (x := .bool yn) (y := .slice ya ym yc) (z := .slice yda ydm ydc) (row3_ne (x := .bool xn) (y := .slice xa xm xc) (z := .slice xda xdm xdc) hk r5)
    have c5 := (row_cell (row3_ne (x := .bool xn) (y := .slice xa xm xc) (z := .slice xda xdm xdc) hk r5) 0)
    have sx1 := (sx0.set3 (by simpa using row_cell r4 0) (fun n e => by simp at e) (.bool xn) (.slice xa xm xc) (.slice xda xdm xdc)).set3 (by simpa using c5) (fun n e => by simp at e) (.bool yn) (.slice ya ym yc) (.slice yda ydm ydc)
    have sy1 := (sy0.set3 (by simpa using row_cell r4 0) (fun n e => by simp at e) (.bool xn) (.slice xa xm xc) (.slice xda xdm xdc)).set3 (by simpa using c5) (fun n e => by simp at e) (.bool yn) (.slice ya ym yc) (.slice yda ydm ydc)
    have d1' := row_fresh H_d1.out hf'
    have d2' := row_fresh H_d2.out hf'
    have hl1 := lt_of_row H_d1.out
    have hl2 := lt_of_row H_d2.out
    have d1x := row3_ne (x := .bool yn) (y := .slice ya ym yc) (z := .slice yda ydm ydc) (show k5 ≠ g by omega) (row3_ne (x := .bool xn) (y := .slice xa xm xc) (z := .slice xda xdm xdc) (show k4 ≠ g by omega) d1')
    have d2x := row3_ne (x := .bool yn) (y := .slice ya ym yc) (z := .slice yda ydm ydc) (show k5 ≠ g + 1 by omega) (row3_ne (x := .bool xn) (y := .slice xa xm xc) (z := .slice xda xdm xdc) (show k4 ≠ g + 1 by omega) d2')
    have hsz := H_hfa.out.size
    have f9 := ((fresh_trans H_hfa.out hf').set3 (g := k4) (o1 := 0) (o2 := 1) (o3 := 2) (v1 := .bool xn) (v2 := .slice xa xm xc) (v3 := .slice xda xdm xdc) (by omega)).set3 (g := k5) (o1 := 0) (o2 := 1) (o3 := 2) (v1 := .bool yn) (v2 := .slice ya ym yc) (v3 := .slice yda ydm ydc) (by omega)
    clear sx0 sy0 x1 x2 y1 y2 r4 r5 hf' d1' d2' h1 h3 h4 h5 h6 c5 g4 g5 hsz
    have hk2 : ¬ k5 = k4 := fun e => hk e.symm
    have hk3 : ¬ k4 = k5 := hk
    clear hk
    have H_t4 := Lib.hid t4; clear t4
    have H_t5 := Lib.hid t5; clear t5
    have H_sx1 := Lib.hid sx1; clear sx1
    have H_sy1 := Lib.hid sy1; clear sy1
    have H_d1x := Lib.hid d1x; clear d1x
    have H_d2x := Lib.hid d2x; clear d2x
    have H_f9 := Lib.hid f9; clear f9
    have H_hl1 := Lib.hid hl1; clear hl1
    have H_hl2 := Lib.hid hl2; clear hl2
    refine wpAny_next (fuel := 1) (i := 6) rfl (by kernel_rfl) (fun K hK => ?_)
    try simp only [putAll, Act.put, List.getElem_toArray, List.getElem_cons_zero, List.getElem_cons_succ, List.setIfInBounds_toArray, List.set_cons_zero, List.set_cons_succ]
    go_simp
    refine hK.out _ _ ?_
    clear hK K
    refine wpAny_next (fuel := 0) (i := 7) rfl (by kernel_rfl) (fun K hK => ?_)
    go_simp
    refine hK.out _ _ ?_
    clear hK K
    refine wpAny_end (by kernel_rfl) ?_ _
    clear p0 p1 p2 p3 p4 p5 q0 q1 q2 q3 q4 q5
    generalize hw4 : World.setCell _ _ _ = w4
    have t4 := H_t4.out
    have t5 := H_t5.out
    have sx := H_sx1.out
    have sy := H_sy1.out
    have d1 := H_d1x.out
    have d2 := H_d2x.out
    have f9 := H_f9.out
    rw [hw4] at t4 t5 sx sy d1 d2 f9
    clear H_t4 H_t5 H_sx1 H_sy1 H_d1x H_d2x H_f9 H_d1 H_d2
    have m0 := row_cell t4 0
    have m1 := row_cell t4 1
    have m2 := row_cell t4 2
    simp at m0 m1 m2
    have m3 := row_cell t5 0
    have m4 := row_cell t5 1
    have m5 := row_cell t5 2
    simp at m3 m4 m5
    have k0 := row_cell d1 0
    have k1 := row_cell d1 1
    have k2 := row_cell d1 2
    simp at k0 k1 k2
    have k3 := row_cell d2 0
    have k4' := row_cell d2 1
    have k5' := row_cell d2 2
    simp at k3 k4' k5'
    have H_hw4 := Lib.hid hw4; clear hw4
    have H_t4 := Lib.hid t4; clear t4
    have H_t5 := Lib.hid t5; clear t5
    have H_sx := Lib.hid sx; clear sx
    have H_sy := Lib.hid sy; clear sy
    have H_d1 := Lib.hid d1; clear d1
    have H_d2 := Lib.hid d2; clear d2
    have H_f9 := Lib.hid f9; clear f9
    try simp only [putAll, Act.put, List.getElem_toArray, List.getElem_cons_zero, List.getElem_cons_succ, List.setIfInBounds_toArray, List.set_cons_zero, List.set_cons_succ]
    go_wp2_with (fail)
    go_region_held3 (fun (w' : World) => w'.cell? ⟨k4, 0, none⟩ = some (.bool xn) ∧ w'.cell? ⟨k4, 1, none⟩ = some (.slice xa xm xc) ∧ w'.cell? ⟨k4, 2, none⟩ = some (.slice xda xdm xdc) ∧ w'.cell? ⟨k5, 0, none⟩ = some (.bool yn) ∧ w'.cell? ⟨k5, 1, none⟩ = some (.slice ya ym yc) ∧ w'.cell? ⟨k5, 2, none⟩ = some (.slice yda ydm ydc)) (first | exact ⟨m0, m1, m2, m3, m4, m5⟩ | exact ⟨z2_0, z2_1, z2_2, z2_3, z2_4, z2_5⟩ | exact ⟨z4_0, z4_1, z4_2, z4_3, z4_4, z4_5⟩) (first
    | (go_at_call 33; (with_reducible refine (H_hga.out _ _ (H_sx.out.fresh (by first | exact Keep.refl _ _ | exact (Keep.refl _ _).drew | exact (Keep.refl _ _).drewN _)).num).mono ?_); rintro e y1_ ⟨rfl, r⟩; have hy : Fresh w4 y1_ := (by first | exact r | exact r.of_drew | exact r.of_drewN); have z2_0 := cell_fresh m0 hy; have z2_1 := cell_fresh m1 hy; have z2_2 := cell_fresh m2 hy; have z2_3 := cell_fresh m3 hy; have z2_4 := cell_fresh m4 hy; have z2_5 := cell_fresh m5 hy; have fy1_ := hy; have H_fy1_ := Lib.hid fy1_; clear r hy fy1_)
    | (go_at_call 33; (with_reducible refine (H_hgb.out _ _ (H_sy.out.fresh H_fy1_.out).num).mono ?_); rintro e y3_ ⟨rfl, r⟩; have hy : Fresh y1_ y3_ := r; have z4_0 := cell_fresh z2_0 hy; have z4_1 := cell_fresh z2_1 hy; have z4_2 := cell_fresh z2_2 hy; have z4_3 := cell_fresh z2_3 hy; have z4_4 := cell_fresh z2_4 hy; have z4_5 := cell_fresh z2_5 hy; have fy3_ := fresh_trans H_fy1_.out hy; have H_fy3_ := Lib.hid fy3_; clear r hy fy3_))
    have r0 := cell_fresh k0 H_fy3_.out
    have r1 := cell_fresh k1 H_fy3_.out
    have r2 := cell_fresh k2 H_fy3_.out
    have r3 := cell_fresh k3 H_fy3_.out
    have r4 := cell_fresh k4' H_fy3_.out
    have r5 := cell_fresh k5' H_fy3_.out
    clear k0 k1 k2 k3 k4' k5'
    have fa := fresh_trans H_f9.out H_fy3_.out
    have H_fa := Lib.hid fa; clear fa
    go_wp2_with (fail)
    refine (H_hct.out _ H_fa.out).mono ?_
    rintro e v0 ⟨rfl, fv0⟩
    have v0_0 := cell_fresh r0 fv0
    have v0_1 := cell_fresh r1 fv0
    have v0_2 := cell_fresh r2 fv0
    have v0_3 := cell_fresh r3 fv0
    have v0_4 := cell_fresh r4 fv0
    have v0_5 := cell_fresh r5 fv0
    have v0_6 := cell_fresh z4_0 fv0
    have v0_7 := cell_fresh z4_1 fv0
    have v0_8 := cell_fresh z4_2 fv0
    have v0_9 := cell_fresh z4_3 fv0
    have v0_10 := cell_fresh z4_4 fv0
    have v0_11 := cell_fresh z4_5 fv0
    have fw0 := fresh_trans H_fa.out fv0
    clear r0 r1 r2 r3 r4 r5 z4_0 z4_1 z4_2 z4_3 z4_4 z4_5
    have H_fv0 := Lib.hid fv0; clear fv0
    have H_fw0 := Lib.hid fw0; clear fw0
    go_wp2_with (fail)
    clear v0_0 v0_1 v0_2 v0_3 v0_4 v0_5
    refine (hfrC.out _ _ _ (H_sx.out.fresh (fresh_trans H_fy3_.out H_fv0.out)) (H_sy.out.fresh (fresh_trans H_fy3_.out H_fv0.out))).mono ?_
    rintro e v1 ⟨rfl, fv1⟩
    have fw1 := fresh_trans H_fw0.out fv1
    clear v0_6 v0_7 v0_8 v0_9 v0_10 v0_11
    have H_fv1 := Lib.hid fv1; clear fv1
    have H_fw1 := Lib.hid fw1; clear fw1
    go_wp2_with (fail)
    refine (gvLives_any _).mono ?_
    rintro e v2 ⟨rfl, fv2⟩
    have H_fv2 := Lib.hid fv2; clear fv2
    go_wp2_with (fail)
    go_ret
    exact ⟨by rfl, fresh_trans H_fw1.out H_fv2.out⟩

theorem FnFixCmpBig_main (n1 n2 : Bool) (c1 s1 c2 s2 : Nat) (w : World) (hG : Glob w) (hP : Pow10s w) (hs1 : s1 ≤ 19) (hs2 : s2 ≤ 19) (hc1 : c1 ≤ 9999999999999999999) (hc2 : c2 ≤ 9999999999999999999) :
    Calls Tryz.prog 10 #[fx n1 c1 s1, fx n2 c2 s2] w (VRet w (.bool true)) := by
  by_cases h : cmpZ (zfix n1 c1) 0 = cmpZ (zfix n2 c2) 0
  · exact FnFixCmpBig_eq n1 n2 c1 s1 c2 s2 w hG hP hs1 hs2 hc1 hc2 h
  · exact FnFixCmpBig_ne n1 n2 c1 s1 c2 s2 w hG hP hs1 hs2 hc1 hc2 h

end Go.Proofs.YtibaeafmgncjdaaGreatDoor
