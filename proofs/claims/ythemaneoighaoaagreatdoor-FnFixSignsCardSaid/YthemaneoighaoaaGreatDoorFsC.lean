/- The contracts of the reference on govalues' decimals: FixNum, FixHas. -/
import Derived.Test.YthemaneoighaoaaGreatDoorFsB
import Derived.Test.YthemaneoighaoaaGreatDoorHeld
namespace Go.Proofs.YthemaneoighaoaaGreatDoor
open Go.RowKit

/-- the numerator of a decimal of govalues -/
def zfix (neg : Bool) (c : Nat) : Int := if neg then -(c : Int) else (c : Int)

theorem sint_zfix {neg : Bool} {l : List Nat} {c : Nat} (hn : Norm l) (h : sval l = c) : sint (neg && decide (0 < l.length)) l = zfix neg c := by
  by_cases h0 : 0 < l.length
  · simp [h0, sint, zfix, h]
  · obtain rfl : l = [] := List.eq_nil_of_length_eq_zero (by omega)
    simp [sval] at h
    subst h
    cases neg <;> simp [sint, zfix, sval]

theorem len_of {l : List Nat} {c : Nat} (hn : Norm l) (h : sval l = c) (hc : c ≤ 9999999999999999999) : l.length ≤ 3 :=
  hn.s_len_le (by rw [h]; have : spow 3 = 1000000000000000000000000000 := rfl; omega)

set_option maxRecDepth 20000 in
set_option maxHeartbeats 2000000 in
theorem FixNum_any (neg : Bool) (c s : Nat) (w : World) (hs : s ≤ 19) (hc : c ≤ 9999999999999999999) :
    Calls Tryz.prog 18 #[fx neg c s] w (FRet w (zfix neg c) (10 ^ s)) := by
  obtain ⟨g, hg⟩ : ∃ g, g = w.heap.size := ⟨_, rfl⟩
  have bx := boxes2 w #[.bool neg, .int .u64 c, .int .i64 s] #[.bool false, .slice none 0 0, .slice none 0 0] 24 47 g hg
  have H_bx := Lib.hid bx; clear bx
  go_enter Tryz.func18, Tryz.ntmps18
  go_wp2_with (fail)
  generalize hw1 : (w.alloc _).alloc _ = w1
  rw [← hg]
  obtain ⟨b1, b2, hf⟩ := H_bx.out w1 hw1
  have H_b1 := Lib.hid b1; clear b1
  have H_b2 := Lib.hid b2; clear b2
  have H_hf := Lib.hid hf; clear hf
  have H_hw1 := Lib.hid hw1; clear hw1
  have H_hg := Lib.hid hg; clear hg
  refine (FixDec_any neg c s _ hs hc).mono ?_
  rintro e w2 ⟨v, l, rfl, r1, r2, r3, r4⟩
  obtain ⟨a, cc, rfl⟩ := r1.form
  have hz := sint_zfix (neg := neg) r2 r3
  have hl := len_of r2 r3 hc
  have hcall := DecFrac_any (neg && decide (0 < l.length)) _ l s w2 r1 r2 (by rintro rfl; simp) (by omega) (by omega)
  rw [hz] at hcall
  have H_r1 := Lib.hid r1; clear r1
  have H_r2 := Lib.hid r2; clear r2
  have H_r3 := Lib.hid r3; clear r3
  have H_r4 := Lib.hid r4; clear r4
  have H_hz := Lib.hid hz; clear hz
  have H_hcall := Lib.hid hcall; clear hcall
  generalize hbn : (neg && decide (0 < l.length)) = bn at *
  have H_hbn := Lib.hid hbn
  clear hbn
  go_wp2_with (fail)
  refine H_hcall.out.mono ?_
  rintro e w3 ⟨x, rfl, ⟨n2, v2, l2, dv, dl, rfl, s1, s2, s3, s4, s5, s6, s7⟩, hf3⟩
  obtain ⟨a2, cc2, rfl⟩ := s1.form
  obtain ⟨a3, cc3, rfl⟩ := s5.form
  have hfa := fresh_trans H_r4.out hf3
  have b4 := row_fresh H_b2.out hfa
  have p0 := row_cell b4 0
  have p1 := row_cell b4 1
  have p2 := row_cell b4 2
  simp at p0 p1 p2
  have q0 : w3.frozen? ⟨g + 1, 0, none⟩ = false := frozen_of_row _ _ _ _ _ b4
  have q1 : w3.frozen? ⟨g + 1, 1, none⟩ = false := frozen_of_row _ _ _ _ _ b4
  have q2 : w3.frozen? ⟨g + 1, 2, none⟩ = false := frozen_of_row _ _ _ _ _ b4
  have H_s1 := Lib.hid s1; clear s1
  have H_s2 := Lib.hid s2; clear s2
  have H_s3 := Lib.hid s3; clear s3
  have H_s4 := Lib.hid s4; clear s4
  have H_s5 := Lib.hid s5; clear s5
  have H_s6 := Lib.hid s6; clear s6
  have H_s7 := Lib.hid s7; clear s7
  have H_hf3 := Lib.hid hf3; clear hf3
  have H_hfa := Lib.hid hfa; clear hfa
  have H_b4 := Lib.hid b4; clear b4
  go_wp2_with (fail)
  refine bodyPost_ret (results_cell_row rfl _ _ (g + 1) 47 #[.bool n2, .slice a2 l2.length cc2, .slice a3 dl.length cc3] (0, 0) _ rfl (row_set (row_set (row_set H_b4.out))) Tryz.underlying47 rfl (by kernel_rfl)) rfl ?_
  have f1 := H_s1.out.off p0 (fun n e => by simp at e)
  have f2 := H_s5.out.off p0 (fun n e => by simp at e)
  exact ⟨_, rfl, ⟨n2, _, l2, _, dl, rfl, ((H_s1.out.setOff f1).setOff f1).setOff f1, H_s2.out, H_s3.out, H_s4.out, ((H_s5.out.setOff f2).setOff f2).setOff f2, H_s6.out, H_s7.out⟩, (fresh_trans H_hf.out H_hfa.out).set3 (by have := H_hg.out; omega)⟩

theorem ten_spow {s : Nat} (hs : s ≤ 19) : 10 ^ s < spow 1000 := by
  have h1 : 10 ^ s ≤ 10 ^ 19 := Nat.pow_le_pow_right (by omega) hs
  have h2 := spow_mono (m := 3) (n := 1000) (by omega)
  have h3 : spow 3 = 1000000000000000000000000000 := rfl
  omega

theorem zfix_spow {neg : Bool} {c : Nat} (hc : c ≤ 9999999999999999999) : (zfix neg c).natAbs < spow 1000 := by
  have h1 : (zfix neg c).natAbs = c := by unfold zfix; split <;> simp
  have h2 := spow_mono (m := 3) (n := 1000) (by omega)
  have h3 : spow 3 = 1000000000000000000000000000 := rfl
  rw [h1]; omega

theorem cmpZ_self (a : Int) : cmpZ a a = 0 := by unfold cmpZ; rw [if_neg (by omega), if_neg (by omega)]

set_option maxRecDepth 20000 in
set_option maxHeartbeats 2000000 in
theorem FixHas_f (c s : Nat) (xw : Value) (w : World) (hs : s ≤ 19) (hc : c ≤ 9999999999999999999) (hx : SFr w xw (zfix false c) (10 ^ s)) :
    Calls Tryz.prog 38 #[fx false c s, xw] w (VRet w (.bool true)) := by
  obtain ⟨nb, v2, l2, dv, dl, rfl, s1, s2, s3, s4, s5, s6, s7⟩ := hx
  obtain ⟨a2, cc2, rfl⟩ := s1.form
  obtain ⟨a3, cc3, rfl⟩ := s5.form
  have hx : SFr w (.agg #[.bool nb, .slice a2 l2.length cc2, .slice a3 dl.length cc3]) (zfix false c) (10 ^ s) := ⟨nb, _, l2, _, dl, rfl, s1, s2, s3, s4, s5, s6, s7⟩
  have his : fixIs c s = true := by unfold fixIs; simp; omega
  obtain ⟨g, hg⟩ : ∃ g, g = w.heap.size := ⟨_, rfl⟩
  have bx := boxes2 w #[.bool false, .int .u64 c, .int .i64 s] #[.bool nb, .slice a2 l2.length cc2, .slice a3 dl.length cc3] 24 47 g hg
  clear s1 s2 s3 s4 s5 s6 s7
  have H_bx := Lib.hid bx; clear bx
  have H_hx := Lib.hid hx; clear hx
  have H_his := Lib.hid his; clear his
  go_enter Tryz.func38, Tryz.ntmps38
  go_wp2_with (fail)
  generalize hw1 : (w.alloc _).alloc _ = w1
  rw [← hg]
  obtain ⟨b1, b2, hf⟩ := H_bx.out w1 hw1
  have k0 := row_cell b1 0
  have k1 := row_cell b1 1
  have k2 := row_cell b1 2
  have k3 := row_cell b2 0
  have k4 := row_cell b2 1
  have k5 := row_cell b2 2
  simp at k0 k1 k2 k3 k4 k5
  have H_b1 := Lib.hid b1; clear b1
  have H_b2 := Lib.hid b2; clear b2
  have H_hf := Lib.hid hf; clear hf
  have H_hw1 := Lib.hid hw1; clear hw1
  have H_hg := Lib.hid hg; clear hg
  have hcallIs : ∀ W, Calls Tryz.prog 14 #[fx false c s] W (VRet W (.bool true)) := fun W => by have := FixIs_any false c (s : Int) W; rw [H_his.out] at this; exact this
  have H_hcallIs := Lib.hid hcallIs
  clear hcallIs
  refine wp_region_E (S := (fun (w' : World) => w'.cell? ⟨g, 0, none⟩ = some (.bool false) ∧ w'.cell? ⟨g, 1, none⟩ = some (.int .u64 c) ∧ w'.cell? ⟨g, 2, none⟩ = some (.int .i64 s) ∧ w'.cell? ⟨g + 1, 0, none⟩ = some (.bool nb) ∧ w'.cell? ⟨g + 1, 1, none⟩ = some (.slice a2 l2.length cc2) ∧ w'.cell? ⟨g + 1, 2, none⟩ = some (.slice a3 dl.length cc3))) 19 (by kernel_rfl) (by exact ⟨k0, k1, k2, k3, k4, k5⟩) (fun hHeld => ?_)
  refine wpAnyE_takeL (i := 0) (c := 1) (v := ?v0_1) rfl (by kernel_rfl) (fun _ _ _ h => h) ⟨by rfl, ?y0_1⟩ (by assumption) ?r0_1
  case y0_1 => (intro w hSw; go_split_ands; go_simp; try with_reducible rfl)
  try simp only [Act.put, List.getElem_toArray, List.getElem_cons_zero, List.getElem_cons_succ, List.setIfInBounds_toArray, List.set_cons_zero, List.set_cons_succ]
  refine wpAnyE_one (i := 1) rfl (by kernel_rfl) (fun K hK => ?_)
  go_simp
  refine (H_hcallIs.out _).mono ?_; rintro e w2 ⟨rfl, r⟩; have hf0 : Fresh w1 w2 := r.of_drew; have m0 := cell_fresh k0 hf0; have m1 := cell_fresh k1 hf0; have m2 := cell_fresh k2 hf0; have m3 := cell_fresh k3 hf0; have m4 := cell_fresh k4 hf0; have m5 := cell_fresh k5 hf0; have H_hf0 := Lib.hid hf0; clear r hf0
  go_wp2_with (fail)
  have hHeld1 : ((fun (w' : World) => w'.cell? ⟨g, 0, none⟩ = some (.bool false) ∧ w'.cell? ⟨g, 1, none⟩ = some (.int .u64 c) ∧ w'.cell? ⟨g, 2, none⟩ = some (.int .i64 s) ∧ w'.cell? ⟨g + 1, 0, none⟩ = some (.bool nb) ∧ w'.cell? ⟨g + 1, 1, none⟩ = some (.slice a2 l2.length cc2) ∧ w'.cell? ⟨g + 1, 2, none⟩ = some (.slice a3 dl.length cc3))) _ := ⟨m0, m1, m2, m3, m4, m5⟩
  refine hK.out _ _ (fun _ => hHeld1) ?_
  clear hK K
  try simp only [Act.put, List.getElem_toArray, List.getElem_cons_zero, List.getElem_cons_succ, List.setIfInBounds_toArray, List.set_cons_zero, List.set_cons_succ]
  refine wpAnyE_takeP (i := 2) (v := .bool true) rfl (by kernel_rfl) (fun _ _ _ h => h) ⟨by rfl, ?y2_1⟩ (by assumption) ?r2_1
  case y2_1 => (intro w; go_simp)
  try simp only [Act.put, List.getElem_toArray, List.getElem_cons_zero, List.getElem_cons_succ, List.setIfInBounds_toArray, List.set_cons_zero, List.set_cons_succ]
  refine wpAnyE_takeP (i := 3) (v := ?v3_1) rfl (by kernel_rfl) (fun _ _ _ h => h) ⟨by rfl, ?y3_1⟩ (by assumption) ?r3_1
  case y3_1 => (intro w; go_simp; try with_reducible rfl)
  try simp only [Act.put, List.getElem_toArray, List.getElem_cons_zero, List.getElem_cons_succ, List.setIfInBounds_toArray, List.set_cons_zero, List.set_cons_succ]
  refine wpAnyE_takeL (i := 4) (c := 5) (v := ?v4_1) rfl (by kernel_rfl) (fun _ _ _ h => h) ⟨by rfl, ?y4_1⟩ (by assumption) ?r4_1
  case y4_1 => (intro w hSw; go_split_ands; go_simp; try with_reducible rfl)
  try simp only [Act.put, List.getElem_toArray, List.getElem_cons_zero, List.getElem_cons_succ, List.setIfInBounds_toArray, List.set_cons_zero, List.set_cons_succ]
  refine wpAnyE_takeP (i := 5) (v := .bool false) rfl (by kernel_rfl) (fun _ _ _ h => h) ⟨by rfl, ?y5_1⟩ (by assumption) ?r5_1
  case y5_1 => (intro w; go_simp)
  try simp only [Act.put, List.getElem_toArray, List.getElem_cons_zero, List.getElem_cons_succ, List.setIfInBounds_toArray, List.set_cons_zero, List.set_cons_succ]
  refine wpAnyE_takeU (i := 6) rfl (by kernel_rfl) (fun _ _ _ h => h) (by rfl) (by assumption) ?_
  try simp only [Act.put, List.getElem_toArray, List.getElem_cons_zero, List.getElem_cons_succ, List.setIfInBounds_toArray, List.set_cons_zero, List.set_cons_succ]
  refine wpAnyE_takeU (i := 7) rfl (by kernel_rfl) (fun _ _ _ h => h) (by rfl) (by assumption) ?_
  try simp only [Act.put, List.getElem_toArray, List.getElem_cons_zero, List.getElem_cons_succ, List.setIfInBounds_toArray, List.set_cons_zero, List.set_cons_succ]
  refine wpAnyE_takeU (i := 8) rfl (by kernel_rfl) (fun _ _ _ h => h) (by rfl) (by assumption) ?_
  try simp only [Act.put, List.getElem_toArray, List.getElem_cons_zero, List.getElem_cons_succ, List.setIfInBounds_toArray, List.set_cons_zero, List.set_cons_succ]
  refine wpAnyE_takeP (i := 9) (v := .bool false) rfl (by kernel_rfl) (fun _ _ _ h => h) ⟨by rfl, ?y9_1⟩ (by assumption) ?r9_1
  case y9_1 => (intro w; go_simp)
  try simp only [Act.put, List.getElem_toArray, List.getElem_cons_zero, List.getElem_cons_succ, List.setIfInBounds_toArray, List.set_cons_zero, List.set_cons_succ]
  refine wpAnyE_takeP (i := 10) (v := .bool true) rfl (by kernel_rfl) (fun _ _ _ h => h) ⟨by rfl, ?y10_1⟩ (by assumption) ?r10_1
  case y10_1 => (intro w; go_simp)
  try simp only [Act.put, List.getElem_toArray, List.getElem_cons_zero, List.getElem_cons_succ, List.setIfInBounds_toArray, List.set_cons_zero, List.set_cons_succ]
  refine wpAnyE_takeP (i := 11) (v := .bool true) rfl (by kernel_rfl) (fun _ _ _ h => h) ⟨by rfl, ?y11_1⟩ (by assumption) ?r11_1
  case y11_1 => (intro w; go_simp)
  try simp only [Act.put, List.getElem_toArray, List.getElem_cons_zero, List.getElem_cons_succ, List.setIfInBounds_toArray, List.set_cons_zero, List.set_cons_succ]
  refine wpAnyE_takeP (i := 12) (v := .bool true) rfl (by kernel_rfl) (fun _ _ _ h => h) ⟨by rfl, ?y12_1⟩ (by assumption) ?r12_1
  case y12_1 => (intro w; go_simp)
  try simp only [Act.put, List.getElem_toArray, List.getElem_cons_zero, List.getElem_cons_succ, List.setIfInBounds_toArray, List.set_cons_zero, List.set_cons_succ]
  refine wpAnyE_takeL (i := 13) (c := 14) (v := ?v13_1) rfl (by kernel_rfl) (fun _ _ _ h => h) ⟨by rfl, ?y13_1⟩ (by assumption) ?r13_1
  case y13_1 => (intro w hSw; go_split_ands; go_simp; try with_reducible rfl)
  try simp only [Act.put, List.getElem_toArray, List.getElem_cons_zero, List.getElem_cons_succ, List.setIfInBounds_toArray, List.set_cons_zero, List.set_cons_succ]
  refine wpAnyE_takeL (i := 15) (c := 16) (v := ?v15_1) rfl (by kernel_rfl) (fun _ _ _ h => h) ⟨by rfl, ?y15_1⟩ (by assumption) ?r15_1
  case y15_1 => (intro w hSw; go_split_ands; go_simp; try with_reducible rfl)
  try simp only [Act.put, List.getElem_toArray, List.getElem_cons_zero, List.getElem_cons_succ, List.setIfInBounds_toArray, List.set_cons_zero, List.set_cons_succ]
  refine wpAnyE_one (i := 14) rfl (by kernel_rfl) (fun K hK => ?_)
  go_simp
  refine (FixNum_any false c s _ hs hc).mono ?_; rintro e w3 ⟨x, rfl, hx3, r⟩; have n0 := cell_fresh m0 r; have n1 := cell_fresh m1 r; have n2 := cell_fresh m2 r; have n3 := cell_fresh m3 r; have n4 := cell_fresh m4 r; have n5 := cell_fresh m5 r; have H_hx3 := Lib.hid hx3; have H_r := Lib.hid r; clear hx3 r
  go_wp2_with (fail)
  have hHeld2 : ((fun (w' : World) => w'.cell? ⟨g, 0, none⟩ = some (.bool false) ∧ w'.cell? ⟨g, 1, none⟩ = some (.int .u64 c) ∧ w'.cell? ⟨g, 2, none⟩ = some (.int .i64 s) ∧ w'.cell? ⟨g + 1, 0, none⟩ = some (.bool nb) ∧ w'.cell? ⟨g + 1, 1, none⟩ = some (.slice a2 l2.length cc2) ∧ w'.cell? ⟨g + 1, 2, none⟩ = some (.slice a3 dl.length cc3))) _ := ⟨n0, n1, n2, n3, n4, n5⟩
  refine hK.out _ _ (fun _ => hHeld2) ?_
  clear hK K
  try simp only [Act.put, List.getElem_toArray, List.getElem_cons_zero, List.getElem_cons_succ, List.setIfInBounds_toArray, List.set_cons_zero, List.set_cons_succ]
  refine wpAnyE_one (i := 16) rfl (by kernel_rfl) (fun K hK => ?_)
  go_simp
  refine (FracCmp_any _ _ _ _ _ _ _ H_hx3.out (((H_hx.out.fresh H_hf.out).fresh H_hf0.out).fresh H_r.out) (zfix_spow hc) (zfix_spow hc) (ten_spow hs) (ten_spow hs)).mono ?_; rintro e w4 ⟨rfl, r⟩; have o0 := cell_fresh n0 r; have o1 := cell_fresh n1 r; have o2 := cell_fresh n2 r; have o3 := cell_fresh n3 r; have o4 := cell_fresh n4 r; have o5 := cell_fresh n5 r; have H_r2 := Lib.hid r; clear r; rw [cmpZ_self]
  go_wp2_with (fail)
  have hHeld3 : ((fun (w' : World) => w'.cell? ⟨g, 0, none⟩ = some (.bool false) ∧ w'.cell? ⟨g, 1, none⟩ = some (.int .u64 c) ∧ w'.cell? ⟨g, 2, none⟩ = some (.int .i64 s) ∧ w'.cell? ⟨g + 1, 0, none⟩ = some (.bool nb) ∧ w'.cell? ⟨g + 1, 1, none⟩ = some (.slice a2 l2.length cc2) ∧ w'.cell? ⟨g + 1, 2, none⟩ = some (.slice a3 dl.length cc3))) _ := ⟨o0, o1, o2, o3, o4, o5⟩
  refine hK.out _ _ (fun _ => hHeld3) ?_
  clear hK K
  try simp only [Act.put, List.getElem_toArray, List.getElem_cons_zero, List.getElem_cons_succ, List.setIfInBounds_toArray, List.set_cons_zero, List.set_cons_succ]
  refine wpAnyE_takeP (i := 17) (v := .bool true) rfl (by kernel_rfl) (fun _ _ _ h => h) ⟨by rfl, ?y17_1⟩ (by assumption) ?r17_1
  case y17_1 => (intro w; go_simp)
  try simp only [Act.put, List.getElem_toArray, List.getElem_cons_zero, List.getElem_cons_succ, List.setIfInBounds_toArray, List.set_cons_zero, List.set_cons_succ]
  refine wpAnyE_takeP (i := 18) (v := .bool true) rfl (by kernel_rfl) (fun _ _ _ h => h) ⟨by rfl, ?y18_1⟩ (by assumption) ?r18_1
  case y18_1 => (intro w; go_simp)
  try simp only [Act.put, List.getElem_toArray, List.getElem_cons_zero, List.getElem_cons_succ, List.setIfInBounds_toArray, List.set_cons_zero, List.set_cons_succ]
  refine wpAnyE_one (i := 19) rfl (by kernel_rfl) (fun K hK => ?_)
  go_simp
  refine hK.out _ _ (fun h => Bool.noConfusion (show true = false from h)) ?_
  clear hK K
  try simp only [Act.put, List.getElem_toArray, List.getElem_cons_zero, List.getElem_cons_succ, List.setIfInBounds_toArray, List.set_cons_zero, List.set_cons_succ]
  refine wpAnyE_done (by kernel_rfl) ?_ _
  go_wp2
  go_ret
  exact ⟨rfl, fresh_trans (fresh_trans (fresh_trans H_hf.out H_hf0.out) H_r.out) H_r2.out⟩

set_option maxRecDepth 20000 in
set_option maxHeartbeats 2000000 in
theorem FixHas_t (c s : Nat) (xw : Value) (w : World) (hs : s ≤ 19) (hc : c ≤ 9999999999999999999) (hpos : 0 < c) (hx : SFr w xw (zfix true c) (10 ^ s)) :
    Calls Tryz.prog 38 #[fx true c s, xw] w (VRet w (.bool true)) := by
  obtain ⟨nb, v2, l2, dv, dl, rfl, s1, s2, s3, s4, s5, s6, s7⟩ := hx
  obtain ⟨a2, cc2, rfl⟩ := s1.form
  obtain ⟨a3, cc3, rfl⟩ := s5.form
  have hx : SFr w (.agg #[.bool nb, .slice a2 l2.length cc2, .slice a3 dl.length cc3]) (zfix true c) (10 ^ s) := ⟨nb, _, l2, _, dl, rfl, s1, s2, s3, s4, s5, s6, s7⟩
  have his : fixIs c s = true := by unfold fixIs; simp; omega
  have tc : ((c : Int) == 0) = false := by rw [beq_eq_false_iff_ne]; omega
  have H_hpos := Lib.hid hpos
  clear hpos
  obtain ⟨g, hg⟩ : ∃ g, g = w.heap.size := ⟨_, rfl⟩
  have bx := boxes2 w #[.bool true, .int .u64 c, .int .i64 s] #[.bool nb, .slice a2 l2.length cc2, .slice a3 dl.length cc3] 24 47 g hg
  clear s1 s2 s3 s4 s5 s6 s7
  have H_bx := Lib.hid bx; clear bx
  have H_hx := Lib.hid hx; clear hx
  have H_his := Lib.hid his; clear his
  go_enter Tryz.func38, Tryz.ntmps38
  go_wp2_with (fail)
  generalize hw1 : (w.alloc _).alloc _ = w1
  rw [← hg]
  obtain ⟨b1, b2, hf⟩ := H_bx.out w1 hw1
  have k0 := row_cell b1 0
  have k1 := row_cell b1 1
  have k2 := row_cell b1 2
  have k3 := row_cell b2 0
  have k4 := row_cell b2 1
  have k5 := row_cell b2 2
  simp at k0 k1 k2 k3 k4 k5
  have H_b1 := Lib.hid b1; clear b1
  have H_b2 := Lib.hid b2; clear b2
  have H_hf := Lib.hid hf; clear hf
  have H_hw1 := Lib.hid hw1; clear hw1
  have H_hg := Lib.hid hg; clear hg
  have hcallIs : ∀ W, Calls Tryz.prog 14 #[fx true c s] W (VRet W (.bool true)) := fun W => by have := FixIs_any true c (s : Int) W; rw [H_his.out] at this; exact this
  have H_hcallIs := Lib.hid hcallIs
  clear hcallIs
  go_region_held3 (fun (w' : World) => w'.cell? ⟨g, 0, none⟩ = some (.bool true) ∧ w'.cell? ⟨g, 1, none⟩ = some (.int .u64 c) ∧ w'.cell? ⟨g, 2, none⟩ = some (.int .i64 s) ∧ w'.cell? ⟨g + 1, 0, none⟩ = some (.bool nb) ∧ w'.cell? ⟨g + 1, 1, none⟩ = some (.slice a2 l2.length cc2) ∧ w'.cell? ⟨g + 1, 2, none⟩ = some (.slice a3 dl.length cc3)) (first | exact ⟨k0, k1, k2, k3, k4, k5⟩ | exact ⟨m0, m1, m2, m3, m4, m5⟩ | exact ⟨n0, n1, n2, n3, n4, n5⟩ | exact ⟨o0, o1, o2, o3, o4, o5⟩) (first
    | (go_at_call 14; (with_reducible refine (H_hcallIs.out _).mono ?_); rintro e w2 ⟨rfl, r⟩; have hf0 : Fresh w1 w2 := (by first | exact r | exact r.of_drew | exact r.of_drewN); have m0 := cell_fresh k0 hf0; have m1 := cell_fresh k1 hf0; have m2 := cell_fresh k2 hf0; have m3 := cell_fresh k3 hf0; have m4 := cell_fresh k4 hf0; have m5 := cell_fresh k5 hf0; have H_hf0 := Lib.hid hf0; clear r hf0)
    | (go_at_call 18; (with_reducible refine (FixNum_any true c s _ hs hc).mono ?_); rintro e w3 ⟨x, rfl, hx3, r⟩; have n0 := cell_fresh m0 r; have n1 := cell_fresh m1 r; have n2 := cell_fresh m2 r; have n3 := cell_fresh m3 r; have n4 := cell_fresh m4 r; have n5 := cell_fresh m5 r; have H_hx3 := Lib.hid hx3; have H_r := Lib.hid r; clear hx3 r)
    | (go_at_call 24; (with_reducible refine (FracCmp_any _ _ _ _ _ _ _ H_hx3.out (((H_hx.out.fresh H_hf.out).fresh H_hf0.out).fresh H_r.out) (zfix_spow hc) (zfix_spow hc) (ten_spow hs) (ten_spow hs)).mono ?_); rintro e w4 ⟨rfl, r⟩; have o0 := cell_fresh n0 r; have o1 := cell_fresh n1 r; have o2 := cell_fresh n2 r; have o3 := cell_fresh n3 r; have o4 := cell_fresh n4 r; have o5 := cell_fresh n5 r; have H_r2 := Lib.hid r; clear r; rw [cmpZ_self]))
  go_wp2
  go_ret
  exact ⟨rfl, fresh_trans (fresh_trans (fresh_trans H_hf.out H_hf0.out) H_r.out) H_r2.out⟩

end Go.Proofs.YthemaneoighaoaaGreatDoor
