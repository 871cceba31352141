/- The contracts of the reference on govalues' decimals: FixSame. -/
import Derived.Test.YtjjolcjeiogdmabGreatDoorK6
import Derived.Test.YtjjolcjeiogdmabGreatDoorK7
namespace Go.Proofs.YtjjolcjeiogdmabGreatDoor
open Go.RowKit

end Go.Proofs.YtjjolcjeiogdmabGreatDoor

/- The contracts of the reference on govalues' decimals: FixAll of two. -/
namespace Go.Proofs.YtjjolcjeiogdmabGreatDoor
open Go.RowKit

end Go.Proofs.YtjjolcjeiogdmabGreatDoor

/- gvLives: 1.5 and 2 are 3.5. -/
namespace Go.Proofs.YtjjolcjeiogdmabGreatDoor
open Go.RowKit

end Go.Proofs.YtjjolcjeiogdmabGreatDoor

/- gvLives: 1.5 and 2 are 3.5: AddExact, Add. -/
namespace Go.Proofs.YtjjolcjeiogdmabGreatDoor
open Go.RowKit

end Go.Proofs.YtjjolcjeiogdmabGreatDoor

/- gvLives: 1.5 and 2 are 3.5: FixAdd. -/
namespace Go.Proofs.YtjjolcjeiogdmabGreatDoor
open Go.RowKit

end Go.Proofs.YtjjolcjeiogdmabGreatDoor

/- gvLives: 1.5 and 2 are 3.5. -/
namespace Go.Proofs.YtjjolcjeiogdmabGreatDoor
open Go.RowKit

end Go.Proofs.YtjjolcjeiogdmabGreatDoor

/- FnFintQuo: the quotient of two whole numbers of 64 bits. -/
namespace Go.Proofs.YtjjolcjeiogdmabGreatDoor
open Go.RowKit

theorem NatDiv_any (av bv : Value) (al bl : List Nat) (w : World) (ha : SNat w av al) (hb : SNat w bv bl) (hna : Norm al) (hnb : Norm bl) (hlen : al.length ≤ 1000) (hb0 : 0 < sval bl) :
    Calls Tryz.prog 35 #[av, bv] w (QRet w (sval al / sval bl) (sval al % sval bl)) := by
  rcases Nat.lt_or_ge (sval al) (sval bl) with h | h
  · rw [Nat.div_eq_of_lt h, Nat.mod_eq_of_lt h]
    exact NatDiv_less av bv al bl w ha hb hna hnb hlen h
  · by_cases h1 : 1 < bl.length
    · exact NatDiv_long av bv al bl w ha hb hna hnb hlen h1 h
    · match bl, hb, hnb, hb0, h, h1 with
      | [], _, _, hb0, _, _ => simp [sval] at hb0
      | [b], hb, _, hb0, h, _ =>
        have e : sval [b] = b := by simp [sval]
        rw [e] at hb0 h ⊢
        exact NatDiv_one av bv al b w ha hb hna hb0 hlen h
      | _ :: _ :: _, _, _, _, _, h1 => simp at h1

/-- a quotient or what is told when it is not whole -/
def quoTo (x y : Nat) : Value := if x % y = 0 then .tuple #[.int .u64 ((x / y : Nat) : Int), .bool true] else .tuple #[.int .u64 0, .bool false]

set_option maxRecDepth 20000 in
theorem fquo_any (x y : Nat) (w : World) (hx : x ≤ 9999999999999999999) (hy0 : 0 < y) (hy : y ≤ 9999999999999999999) :
    Calls Tryz.prog 56 #[.int .u64 x, .int .u64 y] w (VRet w (quoTo x y)) := by
  have t0 : ((y : Int) == 0) = false := by rw [beq_eq_false_iff_ne]; omega
  have hyN : ¬ y = 0 := by omega
  have hdiv : Int.tdiv (x : Int) (y : Int) = ((x / y : Nat) : Int) := by rw [Int.tdiv_eq_ediv_of_nonneg (by omega)]; rfl
  have hdw : IntKind.u64.wrap ((x / y : Nat) : Int) = ((x / y : Nat) : Int) := wrap_u64n _ (by have := Nat.div_le_self x y; omega)
  have hdm := Nat.div_add_mod x y
  obtain ⟨q, hq⟩ : ∃ q, q = x / y := ⟨_, rfl⟩
  obtain ⟨p, hp⟩ : ∃ p, p = q * y := ⟨_, rfl⟩
  have hmod := Nat.mod_lt x hy0
  have hpx : p + x % y = x := by rw [hp, hq, Nat.mul_comm]; exact hdm
  have hmulI : IntKind.u64.wrap ((q : Int) * (y : Int)) = (p : Int) := by
    have e : (q : Int) * (y : Int) = ((q * y : Nat) : Int) := by simp
    rw [e, ← hp]
    exact wrap_u64n _ (by omega)
  by_cases h0 : x % y = 0
  · have hr : quoTo x y = .tuple #[.int .u64 q, .bool true] := by unfold quoTo; rw [if_pos h0, hq]
    rw [hr]
    have hpe : p = x := by omega
    rw [← hq] at hdiv hdw
    rw [hpe] at hmulI
    clear hdm hp hmod hpx h0 hr hpe hq hy0
    go_enter Tryz.func56, Tryz.ntmps56
    go_wp2
    go_ret2
    exact ⟨rfl, Keep.refl _ _⟩
  · have hr : quoTo x y = .tuple #[.int .u64 0, .bool false] := by unfold quoTo; rw [if_neg h0]
    rw [hr]
    have hpe : ¬ p = x := by omega
    have t1 : ((p : Int) == (x : Int)) = false := by rw [beq_eq_false_iff_ne]; omega
    rw [← hq] at hdiv hdw
    clear hdm hp hmod hpx h0 hr hq hy0
    go_enter Tryz.func56, Tryz.ntmps56
    go_wp2
    go_ret2
    exact ⟨rfl, Keep.refl _ _⟩

theorem quoTo_cases (x y : Nat) : (x % y = 0 ∧ quoTo x y = .tuple #[.int .u64 ((x / y : Nat) : Int), .bool true]) ∨ (¬ x % y = 0 ∧ quoTo x y = .tuple #[.int .u64 0, .bool false]) := by
  unfold quoTo
  split
  · exact .inl ⟨by assumption, rfl⟩
  · exact .inr ⟨by assumption, rfl⟩

end Go.Proofs.YtjjolcjeiogdmabGreatDoor

/- The contracts of the reference on govalues' decimals: FixHas of a fraction of the same worth; FixAll of three. -/
namespace Go.Proofs.YtjjolcjeiogdmabGreatDoor
open Go.RowKit

set_option maxRecDepth 20000 in
set_option maxHeartbeats 2000000 in
theorem FixHasG_f (c s : Nat) (xw : Value) (w : World) (hs : s ≤ 19) (hc : c ≤ 9999999999999999999) (zx : Int) (dx : Nat) (hzx : zx.natAbs < spow 1000) (hdx : dx < spow 1000) (hq : cmpZ (zfix false c * (dx : Int)) (zx * ((10 ^ s : Nat) : Int)) = 0) (hx : SFr w xw zx dx) :
    Calls Tryz.prog 14 #[fx false c s, xw] w (VRet w (.bool true)) := by
  obtain ⟨nb, v2, l2, dv, dl, rfl, s1, s2, s3, s4, s5, s6, s7⟩ := hx
  obtain ⟨a2, cc2, rfl⟩ := s1.form
  obtain ⟨a3, cc3, rfl⟩ := s5.form
  have hx : SFr w (.agg #[.bool nb, .slice a2 l2.length cc2, .slice a3 dl.length cc3]) zx dx := ⟨nb, _, l2, _, dl, rfl, s1, s2, s3, s4, s5, s6, s7⟩
  have his : fixIs c s = true := by unfold fixIs; simp; omega
  obtain ⟨g, hg⟩ : ∃ g, g = w.heap.size := ⟨_, rfl⟩
  have bx := boxes2 w #[.bool false, .int .u64 c, .int .i64 s] #[.bool nb, .slice a2 l2.length cc2, .slice a3 dl.length cc3] 24 34 g hg
  clear s1 s2 s3 s4 s5 s6 s7
  have H_bx := Lib.hid bx; clear bx
  have H_hx := Lib.hid hx; clear hx
  have H_his := Lib.hid his; clear his
  have H_hzx := Lib.hid hzx; clear hzx
  have H_hdx := Lib.hid hdx; clear hdx
  have H_hq := Lib.hid hq; clear hq
  go_enter Tryz.func14, Tryz.ntmps14
  go_wp2_with (fail)
  generalize hw1 : (w.alloc _).alloc _ = w1
  rw [← hg]
  obtain ⟨b1, b2, hf⟩ := H_bx.out w1 hw1
  have k0 := row_cell b1 0
  have k1 := row_cell b1 1
  have k2 := row_cell b1 2
  have k3 := row_cell b2 0
  have k4 := row_cell b2 1
  have k5 := row_cell b2 2
  simp at k0 k1 k2 k3 k4 k5
  have H_b1 := Lib.hid b1; clear b1
  have H_b2 := Lib.hid b2; clear b2
  have H_hf := Lib.hid hf; clear hf
  have H_hw1 := Lib.hid hw1; clear hw1
  have H_hg := Lib.hid hg; clear hg
  have hcallIs : ∀ W, Calls Tryz.prog 4 #[fx false c s] W (VRet W (.bool true)) := fun W => by have := FixIs_any false c (s : Int) W; rw [H_his.out] at this; exact this
  have H_hcallIs := Lib.hid hcallIs
  clear hcallIs
  refine wp_region_E (S := (fun (w' : World) => w'.cell? ⟨g, 0, none⟩ = some (.bool false) ∧ w'.cell? ⟨g, 1, none⟩ = some (.int .u64 c) ∧ w'.cell? ⟨g, 2, none⟩ = some (.int .i64 s) ∧ w'.cell? ⟨g + 1, 0, none⟩ = some (.bool nb) ∧ w'.cell? ⟨g + 1, 1, none⟩ = some (.slice a2 l2.length cc2) ∧ w'.cell? ⟨g + 1, 2, none⟩ = some (.slice a3 dl.length cc3))) 19 (by kernel_rfl) (by exact ⟨k0, k1, k2, k3, k4, k5⟩) (fun hHeld => ?_)
  refine wpAnyE_takeL (i := 0) (c := 1) (v := ?v0_1) rfl (by kernel_rfl) (fun _ _ _ h => h) ⟨by rfl, ?y0_1⟩ (by assumption) ?r0_1
  case y0_1 => (intro w hSw; go_split_ands; go_simp; try with_reducible rfl)
  try simp only [Act.put, yA, yB, yD, yE, yF]
  refine wpAnyE_one (i := 1) rfl (by kernel_rfl) (fun K hK => ?_)
  go_simp
  refine (H_hcallIs.out _).mono ?_; rintro e w2 ⟨rfl, r⟩; have hf0 : Fresh w1 w2 := r.of_drew; have m0 := cell_fresh k0 hf0; have m1 := cell_fresh k1 hf0; have m2 := cell_fresh k2 hf0; have m3 := cell_fresh k3 hf0; have m4 := cell_fresh k4 hf0; have m5 := cell_fresh k5 hf0; have H_hf0 := Lib.hid hf0; clear r hf0
  go_wp2_with (fail)
  have hHeld1 : ((fun (w' : World) => w'.cell? ⟨g, 0, none⟩ = some (.bool false) ∧ w'.cell? ⟨g, 1, none⟩ = some (.int .u64 c) ∧ w'.cell? ⟨g, 2, none⟩ = some (.int .i64 s) ∧ w'.cell? ⟨g + 1, 0, none⟩ = some (.bool nb) ∧ w'.cell? ⟨g + 1, 1, none⟩ = some (.slice a2 l2.length cc2) ∧ w'.cell? ⟨g + 1, 2, none⟩ = some (.slice a3 dl.length cc3))) _ := ⟨m0, m1, m2, m3, m4, m5⟩
  refine hK.out _ _ (fun _ => hHeld1) ?_
  clear hK K
  try simp only [Act.put, yA, yB, yC, yD, yE, yF]
  refine wpAnyE_takeP (i := 2) (v := .bool true) rfl (by kernel_rfl) (fun _ _ _ h => h) ⟨by rfl, ?y2_1⟩ (by assumption) ?r2_1
  case y2_1 => (intro w; go_simp)
  try simp only [Act.put, yA, yB, yC, yD, yE, yF]
  refine wpAnyE_takeP (i := 3) (v := ?v3_1) rfl (by kernel_rfl) (fun _ _ _ h => h) ⟨by rfl, ?y3_1⟩ (by assumption) ?r3_1
  case y3_1 => (intro w; go_simp; try with_reducible rfl)
  try simp only [Act.put, yA, yB, yC, yD, yE, yF]
  refine wpAnyE_takeL (i := 4) (c := 5) (v := ?v4_1) rfl (by kernel_rfl) (fun _ _ _ h => h) ⟨by rfl, ?y4_1⟩ (by assumption) ?r4_1
  case y4_1 => (intro w hSw; go_split_ands; go_simp; try with_reducible rfl)
  try simp only [Act.put, yA, yB, yC, yD, yE, yF]
  refine wpAnyE_takeP (i := 5) (v := .bool false) rfl (by kernel_rfl) (fun _ _ _ h => h) ⟨by rfl, ?y5_1⟩ (by assumption) ?r5_1
  case y5_1 => (intro w; go_simp)
  try simp only [Act.put, yA, yB, yC, yD, yE, yF]
  refine wpAnyE_takeU (i := 6) rfl (by kernel_rfl) (fun _ _ _ h => h) (by rfl) (by assumption) ?_
  try simp only [Act.put, yA, yB, yC, yD, yE, yF]
  refine wpAnyE_takeU (i := 7) rfl (by kernel_rfl) (fun _ _ _ h => h) (by rfl) (by assumption) ?_
  try simp only [Act.put, yA, yB, yC, yD, yE, yF]
  refine wpAnyE_takeU (i := 8) rfl (by kernel_rfl) (fun _ _ _ h => h) (by rfl) (by assumption) ?_
  try simp only [Act.put, yA, yB, yC, yD, yE, yF]
  refine wpAnyE_takeP (i := 9) (v := .bool false) rfl (by kernel_rfl) (fun _ _ _ h => h) ⟨by rfl, ?y9_1⟩ (by assumption) ?r9_1
  case y9_1 => (intro w; go_simp)
  try simp only [Act.put, yA, yB, yC, yD, yE, yF]
  refine wpAnyE_takeP (i := 10) (v := .bool true) rfl (by kernel_rfl) (fun _ _ _ h => h) ⟨by rfl, ?y10_1⟩ (by assumption) ?r10_1
  case y10_1 => (intro w; go_simp)
  try simp only [Act.put, yA, yB, yC, yD, yE, yF]
  refine wpAnyE_takeP (i := 11) (v := .bool true) rfl (by kernel_rfl) (fun _ _ _ h => h) ⟨by rfl, ?y11_1⟩ (by assumption) ?r11_1
  case y11_1 => (intro w; go_simp)
  try simp only [Act.put, yA, yB, yC, yD, yE, yF]
  refine wpAnyE_takeP (i := 12) (v := .bool true) rfl (by kernel_rfl) (fun _ _ _ h => h) ⟨by rfl, ?y12_1⟩ (by assumption) ?r12_1
  case y12_1 => (intro w; go_simp)
  try simp only [Act.put, yA, yB, yC, yD, yE, yF]
  refine wpAnyE_takeL (i := 13) (c := 14) (v := ?v13_1) rfl (by kernel_rfl) (fun _ _ _ h => h) ⟨by rfl, ?y13_1⟩ (by assumption) ?r13_1
  case y13_1 => (intro w hSw; go_split_ands; go_simp; try with_reducible rfl)
  try simp only [Act.put, yA, yB, yC, yD, yE, yF]
  refine wpAnyE_takeL (i := 15) (c := 16) (v := ?v15_1) rfl (by kernel_rfl) (fun _ _ _ h => h) ⟨by rfl, ?y15_1⟩ (by assumption) ?r15_1
  case y15_1 => (intro w hSw; go_split_ands; go_simp; try with_reducible rfl)
  try simp only [Act.put, yA, yB, yC, yD, yE, yF]
  refine wpAnyE_one (i := 14) rfl (by kernel_rfl) (fun K hK => ?_)
  go_simp
  refine (FixNum_any false c s _ hs hc).mono ?_; rintro e w3 ⟨x, rfl, hx3, r⟩; have n0 := cell_fresh m0 r; have n1 := cell_fresh m1 r; have n2 := cell_fresh m2 r; have n3 := cell_fresh m3 r; have n4 := cell_fresh m4 r; have n5 := cell_fresh m5 r; have H_hx3 := Lib.hid hx3; have H_r := Lib.hid r; clear hx3 r
  go_wp2_with (fail)
  have hHeld2 : ((fun (w' : World) => w'.cell? ⟨g, 0, none⟩ = some (.bool false) ∧ w'.cell? ⟨g, 1, none⟩ = some (.int .u64 c) ∧ w'.cell? ⟨g, 2, none⟩ = some (.int .i64 s) ∧ w'.cell? ⟨g + 1, 0, none⟩ = some (.bool nb) ∧ w'.cell? ⟨g + 1, 1, none⟩ = some (.slice a2 l2.length cc2) ∧ w'.cell? ⟨g + 1, 2, none⟩ = some (.slice a3 dl.length cc3))) _ := ⟨n0, n1, n2, n3, n4, n5⟩
  refine hK.out _ _ (fun _ => hHeld2) ?_
  clear hK K
  try simp only [Act.put, yA, yB, yC, yD, yE, yF]
  refine wpAnyE_one (i := 16) rfl (by kernel_rfl) (fun K hK => ?_)
  go_simp
  refine (FracCmp_any _ _ _ _ _ _ _ H_hx3.out (((H_hx.out.fresh H_hf.out).fresh H_hf0.out).fresh H_r.out) (zfix_spow hc) H_hzx.out (ten_spow hs) H_hdx.out).mono ?_; rintro e w4 ⟨rfl, r⟩; have o0 := cell_fresh n0 r; have o1 := cell_fresh n1 r; have o2 := cell_fresh n2 r; have o3 := cell_fresh n3 r; have o4 := cell_fresh n4 r; have o5 := cell_fresh n5 r; have H_r2 := Lib.hid r; clear r; rw [H_hq.out]
  go_wp2_with (fail)
  have hHeld3 : ((fun (w' : World) => w'.cell? ⟨g, 0, none⟩ = some (.bool false) ∧ w'.cell? ⟨g, 1, none⟩ = some (.int .u64 c) ∧ w'.cell? ⟨g, 2, none⟩ = some (.int .i64 s) ∧ w'.cell? ⟨g + 1, 0, none⟩ = some (.bool nb) ∧ w'.cell? ⟨g + 1, 1, none⟩ = some (.slice a2 l2.length cc2) ∧ w'.cell? ⟨g + 1, 2, none⟩ = some (.slice a3 dl.length cc3))) _ := ⟨o0, o1, o2, o3, o4, o5⟩
  refine hK.out _ _ (fun _ => hHeld3) ?_
  clear hK K
  try simp only [Act.put, yA, yB, yC, yD, yE, yF]
  refine wpAnyE_takeP (i := 17) (v := .bool true) rfl (by kernel_rfl) (fun _ _ _ h => h) ⟨by rfl, ?y17_1⟩ (by assumption) ?r17_1
  case y17_1 => (intro w; go_simp)
  try simp only [Act.put, yA, yB, yC, yD, yE, yF]
  refine wpAnyE_takeP (i := 18) (v := .bool true) rfl (by kernel_rfl) (fun _ _ _ h => h) ⟨by rfl, ?y18_1⟩ (by assumption) ?r18_1
  case y18_1 => (intro w; go_simp)
  try simp only [Act.put, yA, yB, yC, yD, yE, yF]
  refine wpAnyE_one (i := 19) rfl (by kernel_rfl) (fun K hK => ?_)
  go_simp
  refine hK.out _ _ (fun h => Bool.noConfusion (show true = false from h)) ?_
  clear hK K
  try simp only [Act.put, yA, yB, yC, yD, yE, yF]
  refine wpAnyE_done (by kernel_rfl) ?_ _
  go_wp2
  go_ret
  exact ⟨rfl, fresh_trans (fresh_trans (fresh_trans H_hf.out H_hf0.out) H_r.out) H_r2.out⟩

set_option maxRecDepth 20000 in
set_option maxHeartbeats 2000000 in
theorem FixHasG_t (c s : Nat) (xw : Value) (w : World) (hs : s ≤ 19) (hc : c ≤ 9999999999999999999) (hpos : 0 < c) (zx : Int) (dx : Nat) (hzx : zx.natAbs < spow 1000) (hdx : dx < spow 1000) (hq : cmpZ (zfix true c * (dx : Int)) (zx * ((10 ^ s : Nat) : Int)) = 0) (hx : SFr w xw zx dx) :
    Calls Tryz.prog 14 #[fx true c s, xw] w (VRet w (.bool true)) := by
  obtain ⟨nb, v2, l2, dv, dl, rfl, s1, s2, s3, s4, s5, s6, s7⟩ := hx
  obtain ⟨a2, cc2, rfl⟩ := s1.form
  obtain ⟨a3, cc3, rfl⟩ := s5.form
  have hx : SFr w (.agg #[.bool nb, .slice a2 l2.length cc2, .slice a3 dl.length cc3]) zx dx := ⟨nb, _, l2, _, dl, rfl, s1, s2, s3, s4, s5, s6, s7⟩
  have his : fixIs c s = true := by unfold fixIs; simp; omega
  have tc : ((c : Int) == 0) = false := by rw [beq_eq_false_iff_ne]; omega
  have H_hpos := Lib.hid hpos
  clear hpos
  obtain ⟨g, hg⟩ : ∃ g, g = w.heap.size := ⟨_, rfl⟩
  have bx := boxes2 w #[.bool true, .int .u64 c, .int .i64 s] #[.bool nb, .slice a2 l2.length cc2, .slice a3 dl.length cc3] 24 34 g hg
  clear s1 s2 s3 s4 s5 s6 s7
  have H_bx := Lib.hid bx; clear bx
  have H_hx := Lib.hid hx; clear hx
  have H_his := Lib.hid his; clear his
  have H_hzx := Lib.hid hzx; clear hzx
  have H_hdx := Lib.hid hdx; clear hdx
  have H_hq := Lib.hid hq; clear hq
  go_enter Tryz.func14, Tryz.ntmps14
  go_wp2_with (fail)
  generalize hw1 : (w.alloc _).alloc _ = w1
  rw [← hg]
  obtain ⟨b1, b2, hf⟩ := H_bx.out w1 hw1
  have k0 := row_cell b1 0
  have k1 := row_cell b1 1
  have k2 := row_cell b1 2
  have k3 := row_cell b2 0
  have k4 := row_cell b2 1
  have k5 := row_cell b2 2
  simp at k0 k1 k2 k3 k4 k5
  have H_b1 := Lib.hid b1; clear b1
  have H_b2 := Lib.hid b2; clear b2
  have H_hf := Lib.hid hf; clear hf
  have H_hw1 := Lib.hid hw1; clear hw1
  have H_hg := Lib.hid hg; clear hg
  have hcallIs : ∀ W, Calls Tryz.prog 4 #[fx true c s] W (VRet W (.bool true)) := fun W => by have := FixIs_any true c (s : Int) W; rw [H_his.out] at this; exact this
  have H_hcallIs := Lib.hid hcallIs
  clear hcallIs
  go_region_held3 (fun (w' : World) => w'.cell? ⟨g, 0, none⟩ = some (.bool true) ∧ w'.cell? ⟨g, 1, none⟩ = some (.int .u64 c) ∧ w'.cell? ⟨g, 2, none⟩ = some (.int .i64 s) ∧ w'.cell? ⟨g + 1, 0, none⟩ = some (.bool nb) ∧ w'.cell? ⟨g + 1, 1, none⟩ = some (.slice a2 l2.length cc2) ∧ w'.cell? ⟨g + 1, 2, none⟩ = some (.slice a3 dl.length cc3)) (first | exact ⟨k0, k1, k2, k3, k4, k5⟩ | exact ⟨m0, m1, m2, m3, m4, m5⟩ | exact ⟨n0, n1, n2, n3, n4, n5⟩ | exact ⟨o0, o1, o2, o3, o4, o5⟩) (first
    | (go_at_call 4; (with_reducible refine (H_hcallIs.out _).mono ?_); rintro e w2 ⟨rfl, r⟩; have hf0 : Fresh w1 w2 := (by first | exact r | exact r.of_drew | exact r.of_drewN); have m0 := cell_fresh k0 hf0; have m1 := cell_fresh k1 hf0; have m2 := cell_fresh k2 hf0; have m3 := cell_fresh k3 hf0; have m4 := cell_fresh k4 hf0; have m5 := cell_fresh k5 hf0; have H_hf0 := Lib.hid hf0; clear r hf0)
    | (go_at_call 7; (with_reducible refine (FixNum_any true c s _ hs hc).mono ?_); rintro e w3 ⟨x, rfl, hx3, r⟩; have n0 := cell_fresh m0 r; have n1 := cell_fresh m1 r; have n2 := cell_fresh m2 r; have n3 := cell_fresh m3 r; have n4 := cell_fresh m4 r; have n5 := cell_fresh m5 r; have H_hx3 := Lib.hid hx3; have H_r := Lib.hid r; clear hx3 r)
    | (go_at_call 27; (with_reducible refine (FracCmp_any _ _ _ _ _ _ _ H_hx3.out (((H_hx.out.fresh H_hf.out).fresh H_hf0.out).fresh H_r.out) (zfix_spow hc) H_hzx.out (ten_spow hs) H_hdx.out).mono ?_); rintro e w4 ⟨rfl, r⟩; have o0 := cell_fresh n0 r; have o1 := cell_fresh n1 r; have o2 := cell_fresh n2 r; have o3 := cell_fresh n3 r; have o4 := cell_fresh n4 r; have o5 := cell_fresh n5 r; have H_r2 := Lib.hid r; clear r; rw [H_hq.out]))
  go_wp2
  go_ret
  exact ⟨rfl, fresh_trans (fresh_trans (fresh_trans H_hf.out H_hf0.out) H_r.out) H_r2.out⟩

theorem FixHas_same (neg : Bool) (c s : Nat) (xw : Value) (w : World) (hs : s ≤ 19) (hc : c ≤ 9999999999999999999) (hcan : neg = true → 0 < c) (zx : Int) (dx : Nat) (hzx : zx.natAbs < spow 1000) (hdx : dx < spow 1000)
    (hq : cmpZ (zfix neg c * (dx : Int)) (zx * ((10 ^ s : Nat) : Int)) = 0) (hx : SFr w xw zx dx) :
    Calls Tryz.prog 14 #[fx neg c s, xw] w (VRet w (.bool true)) := by
  cases neg
  · exact FixHasG_f c s xw w hs hc zx dx hzx hdx hq hx
  · exact FixHasG_t c s xw w hs hc (hcan rfl) zx dx hzx hdx hq hx

end Go.Proofs.YtjjolcjeiogdmabGreatDoor

/- The plain law of rounding: a quotient half to even, the greatest number of places for which there is room, and what a result of the package has to be. -/
namespace Go.Proofs.YtjjolcjeiogdmabGreatDoor
open Go.RowKit

/-- a quotient, rounded half to even -/
def rhe (a b : Nat) : Nat := a / b + (if b < 2 * (a % b) ∨ (2 * (a % b) = b ∧ a / b % 2 = 1) then 1 else 0)

theorem rhe_mul {a b k : Nat} (hk : 0 < k) : rhe (a * k) (b * k) = rhe a b := by
  unfold rhe
  rw [Nat.mul_div_mul_right _ _ hk, Nat.mul_mod_mul_right]
  have h1 : (b * k < 2 * (a % b * k)) ↔ b < 2 * (a % b) := by
    rw [← Nat.mul_assoc]; exact Nat.mul_lt_mul_right hk
  have h2 : (2 * (a % b * k) = b * k) ↔ 2 * (a % b) = b := by
    rw [← Nat.mul_assoc]; exact Nat.mul_left_inj (by omega)
  simp only [h1, h2]

theorem rhe_exact {a b c : Nat} (hb : 0 < b) (h : a = c * b) : rhe a b = c := by
  subst h
  unfold rhe
  rw [Nat.mul_div_cancel _ hb, Nat.mul_mod_left, if_neg (by omega)]
  rfl

theorem rhe_lt {a b t : Nat} (hb : 0 < b) : rhe a b < 2 * t + 2 ↔ 2 * a < (4 * t + 3) * b := by
  unfold rhe
  have e := Nat.div_add_mod a b
  have hr := Nat.mod_lt a hb
  generalize a / b = q at *
  generalize a % b = r at *
  have e1 : (4 * t + 3) * b = 4 * (t * b) + 3 * b := by rw [Nat.add_mul, Nat.mul_assoc]
  rw [e1]
  rcases Nat.lt_trichotomy q (2 * t + 1) with h | h | h
  · have h1 : b * q ≤ b * (2 * t) := Nat.mul_le_mul_left _ (by omega)
    have h2 : b * (2 * t) = 2 * (t * b) := by rw [Nat.mul_left_comm, Nat.mul_comm b t]
    constructor
    · intro _; omega
    · intro _; split <;> omega
  · subst h
    have h2 : b * (2 * t + 1) = 2 * (t * b) + b := by rw [Nat.mul_add, Nat.mul_left_comm, Nat.mul_comm b t, Nat.mul_one]
    rw [h2] at e
    constructor
    · intro h3
      split at h3
      · omega
      · rename_i h4
        rcases Nat.lt_or_ge (2 * r) b with h5 | h5
        · omega
        · exfalso; apply h4
          rcases Nat.lt_or_ge b (2 * r) with h6 | h6
          · exact .inl h6
          · exact .inr ⟨by omega, by omega⟩
    · intro h3
      rw [if_neg (by omega)]
      omega
  · have h1 : b * (2 * t + 2) ≤ b * q := Nat.mul_le_mul_left _ (by omega)
    have h2 : b * (2 * t + 2) = 2 * (t * b) + 2 * b := by rw [Nat.mul_add, Nat.mul_left_comm, Nat.mul_comm b t, Nat.mul_comm b 2]
    constructor
    · intro h3; split at h3 <;> omega
    · intro h3; omega

/-- there is room for N / d with n places -/
def okN (N d n : Nat) : Prop := rhe (N * 10 ^ n) d < 10000000000000000000

instance (N d n : Nat) : Decidable (okN N d n) := by unfold okN; infer_instance

theorem okN_iff {N d n : Nat} (hd : 0 < d) : okN N d n ↔ 2 * (N * 10 ^ n) < 19999999999999999999 * d := by
  have := rhe_lt (a := N * 10 ^ n) (t := 4999999999999999999) hd
  unfold okN
  simpa using this

theorem okN_anti {N d n m : Nat} (hd : 0 < d) (h : m ≤ n) (hn : okN N d n) : okN N d m := by
  rw [okN_iff hd] at hn ⊢
  have h1 : 10 ^ m ≤ 10 ^ n := Nat.pow_le_pow_right (by omega) h
  have h2 : N * 10 ^ m ≤ N * 10 ^ n := Nat.mul_le_mul_left _ h1
  omega

/-- the greatest number of places, up to 19, for which there is room -/
def Top (N d t : Nat) : Prop := t ≤ 19 ∧ okN N d t ∧ (t = 19 ∨ ¬ okN N d (t + 1))

theorem top_below (N d : Nat) (h : okN N d 0) : ∀ n, ∃ t, t ≤ n ∧ okN N d t ∧ (t = n ∨ ¬ okN N d (t + 1))
  | 0 => ⟨0, Nat.le_refl _, h, .inl rfl⟩
  | n + 1 => by
    by_cases h1 : okN N d (n + 1)
    · exact ⟨n + 1, Nat.le_refl _, h1, .inl rfl⟩
    · obtain ⟨t, ht, h2, h3⟩ := top_below N d h n
      refine ⟨t, by omega, h2, .inr ?_⟩
      rcases h3 with h3 | h3
      · rw [h3]; exact h1
      · exact h3

theorem top_exists {N d : Nat} (h : okN N d 0) : ∃ t, Top N d t := by
  obtain ⟨t, h1, h2, h3⟩ := top_below N d h 19
  exact ⟨t, h1, h2, h3⟩

/-- what a result's coefficient and scale have to be: exact, or the number rounded to as many places as there is room for -/
def Good (N d c s : Nat) : Prop := s ≤ 19 ∧ c ≤ 9999999999999999999 ∧ (c * d = N * 10 ^ s ∨ (Top N d s ∧ c = rhe (N * 10 ^ s) d))

theorem good_top {N d c s : Nat} (hd : 0 < d) (h : Good N d c s) : ∃ t, Top N d t ∧ s ≤ t ∧ c * 10 ^ t = rhe (N * 10 ^ t) d * 10 ^ s := by
  obtain ⟨hs, hc, h | ⟨h, h1⟩⟩ := h
  · have hr : rhe (N * 10 ^ s) d = c := rhe_exact hd h.symm
    have hok : okN N d s := by unfold okN; rw [hr]; omega
    obtain ⟨t, ht⟩ := top_exists (okN_anti hd (Nat.zero_le s) hok)
    have hst : s ≤ t := by
      rcases Nat.lt_or_ge t s with h2 | h2
      · rcases ht.2.2 with h3 | h3
        · omega
        · exact absurd (okN_anti hd (show t + 1 ≤ s by omega) hok) h3
      · exact h2
    refine ⟨t, ht, hst, ?_⟩
    have e : 10 ^ t = 10 ^ s * 10 ^ (t - s) := by rw [← Nat.pow_add]; congr 1; omega
    have hr2 : rhe (N * 10 ^ t) d = c * 10 ^ (t - s) := rhe_exact hd (by rw [e, ← Nat.mul_assoc, ← h, Nat.mul_assoc, Nat.mul_assoc, Nat.mul_comm d])
    rw [hr2, e, Nat.mul_assoc, Nat.mul_comm (10 ^ s)]
  · exact ⟨s, h, Nat.le_refl _, by rw [h1]⟩

theorem top_unique {N d s t : Nat} (hd : 0 < d) (h : Top N d s) (k : Top N d t) : s = t := by
  have one : ∀ {s t}, Top N d s → Top N d t → ¬ s < t := fun {s t} h k hlt => by
    rcases h.2.2 with h1 | h1
    · have := k.1; omega
    · exact h1 (okN_anti hd (show s + 1 ≤ t by omega) k.2.1)
  have h1 := one h k
  have h2 := one k h
  omega

/-- a number with the sign of another one -/
def sgnN (z : Int) (n : Nat) : Int := if z < 0 then -(n : Int) else (n : Int)

theorem sgnN_mul (z : Int) (n k : Nat) : sgnN z n * (k : Int) = sgnN z (n * k) := by
  unfold sgnN
  split <;> simp [Int.neg_mul]

theorem sgnN_abs (z : Int) (n : Nat) : (sgnN z n).natAbs = n := by unfold sgnN; split <;> simp

/-- the sum or the product as it stands, made to fit: a result of the way by numbers of 64 bits -/
theorem good_exact {N d C S ms : Nat} (h : N * 10 ^ S = C * d) (h1 : S ≤ ms) (h2 : ms ≤ 19) (hc : C * 10 ^ (ms - S) ≤ 9999999999999999999) : Good N d (C * 10 ^ (ms - S)) ms := by
  refine ⟨h2, hc, .inl ?_⟩
  have e : 10 ^ ms = 10 ^ S * 10 ^ (ms - S) := by rw [← Nat.pow_add]; congr 1; omega
  rw [e, ← Nat.mul_assoc, h, Nat.mul_assoc, Nat.mul_assoc, Nat.mul_comm d]

theorem good_same {N d C S : Nat} (h : N * 10 ^ S = C * d) (h2 : S ≤ 19) (hc : C ≤ 9999999999999999999) : Good N d C S := ⟨h2, hc, .inl h.symm⟩

/-- rounding a coefficient rounds the number -/
theorem rhe_shift {N d C S k : Nat} (h : N * 10 ^ S = C * d) (hd : 0 < d) (hk : k ≤ S) : rhe (N * 10 ^ (S - k)) d = rhe C (10 ^ k) := by
  have e : 10 ^ S = 10 ^ (S - k) * 10 ^ k := by rw [← Nat.pow_add]; congr 1; omega
  have hp : 0 < 10 ^ k := Nat.pow_pos (by omega)
  rw [← rhe_mul (a := N * 10 ^ (S - k)) (b := d) hp, ← rhe_mul (a := C) (b := 10 ^ k) hd]
  congr 1
  · rw [Nat.mul_assoc, ← e, h]
  · rw [Nat.mul_comm]

theorem good_cut {N d C S : Nat} (h : N * 10 ^ S = C * d) (hd : 0 < d) (hS : 19 ≤ S) (hc : rhe C (10 ^ (S - 19)) ≤ 9999999999999999999) : Good N d (rhe C (10 ^ (S - 19))) 19 := by
  have e := rhe_shift h hd (show S - 19 ≤ S by omega)
  rw [show S - (S - 19) = 19 by omega] at e
  refine ⟨Nat.le_refl _, hc, .inr ⟨⟨Nat.le_refl _, ?_, .inl rfl⟩, e.symm⟩⟩
  unfold okN
  rw [e]
  omega

end Go.Proofs.YtjjolcjeiogdmabGreatDoor
