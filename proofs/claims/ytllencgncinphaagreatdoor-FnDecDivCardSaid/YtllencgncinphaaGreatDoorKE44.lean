/- shopspring: QuoRem, Mod and DivRound of two decimals; small integers. Printed by gen_dr.py. -/
import Derived.Test.YtllencgncinphaaGreatDoorKE15
import Derived.Test.YtllencgncinphaaGreatDoorKE16
import Derived.Test.YtllencgncinphaaGreatDoorKE19
import Derived.Test.YtllencgncinphaaGreatDoorKE20
import Derived.Test.YtllencgncinphaaGreatDoorKE41
import Derived.Test.YtllencgncinphaaGreatDoorKE43
namespace Go.Proofs.YtllencgncinphaaGreatDoor
open Go.RowKit
open Go.Lib (hid)
set_option maxRecDepth 20000

theorem oneInt_any (w : World) (hNG : NG ≤ w.heap.size) : Calls Tryz.prog 115 #[] w (ZNew w 1) := by
 have hc := NewInt_pos 1 w (by omega) (by omega) hNG
 have H_hc := hid hc; clear hc
 go_enter Tryz.func115, Tryz.ntmps115
 go_wp2_with (fail)
 refine H_hc.out.mono ?_
 rintro e w2 ⟨b, v, rfl, h1, h2, h3, h4⟩
 have H_h1 := hid h1; have H_h2 := hid h2; have H_h3 := hid h3; have H_h4 := hid h4; clear h1 h2 h3 h4
 go_wp2_with (fail)
 go_ret
 exact ⟨b, v, rfl, H_h1.out, H_h2.out, H_h3.out, H_h4.out⟩

theorem qA_lt0 {z e : Int} (h : e < 0) : qA z e = z := by unfold qA; rw [show e.toNat = 0 by omega]; exact Int.mul_one z
theorem qB_ge0 {z e : Int} (h : 0 ≤ e) : qB z e = z := by unfold qB; rw [show (-e).toNat = 0 by omega]; exact Int.mul_one z

theorem quoRem_b (b1 b2 bb : Nat) (v1 v2 : Value) (z1 e1 z2 e2 p s E : Int) (w : World) (hG : Glob w) (hz1 : z1.natAbs < wpow 10) (hz2 : z2.natAbs < wpow 10) (h0 : z2 ≠ 0) (hx1 : ZI w b1 v1 z1) (hx2 : ZI w b2 v2 z2)
 (he1 : -400 ≤ e1 ∧ e1 ≤ 400) (he2 : -400 ≤ e2 ∧ e2 ≤ 400) (hp : -400 ≤ p ∧ p ≤ 400) (hs : s = -p) (hE : E = e1 - e2 - s) (hEb : -255 ≤ E ∧ E ≤ 255)
 (hbb : ZI w bb (.slice none 0 0) 0) (hn1 : b1 ≠ bb) (hn2 : b2 ≠ bb) :
 Calls Tryz.prog 106 #[sd b1 e1, sd b2 e2, .int .i32 p, .pointer (some ⟨bb, 0, none⟩)] w (fun r w' => ∃ bq vq br vr vb, r = .returned (.tuple #[sd bq s, sd br (if E < 0 then e1 else s + e2)]) ∧
  ZI w' bq vq ((qA z1 E).tdiv (qB z2 E)) ∧ ZI w' br vr ((qA z1 E).tmod (qB z2 E)) ∧ ZI w' bb vb (qB z2 E) ∧ w.heap.size ≤ bq ∧ w.heap.size ≤ br ∧ (∀ k, vq.ownBlock = some k → w.heap.size ≤ k) ∧ (∀ k, vr.ownBlock = some k → w.heap.size ≤ k) ∧ bq ≠ br ∧ (∀ k, vq.ownBlock = some k → vr.ownBlock ≠ some k) ∧ (∀ k, vb.ownBlock = some k → w.heap.size ≤ k ∨ v2.ownBlock = some k) ∧ Keep (fun k => k = bb) w w') := by
 by_cases h : E < 0
 · rw [if_pos h, qA_lt0 h]
   unfold qB
   exact quoRem_blt b1 b2 bb v1 v2 z1 e1 z2 e2 p s e1 E (-E).toNat (by omega) w hG hz1 hz2 h0 hx1 hx2 he1 he2 hp hs hE hEb.1 h rfl hbb hn1 hn2
 · rw [if_neg h, qB_ge0 (by omega)]
   unfold qA
   obtain ⟨n, rfl⟩ := Int.eq_ofNat_of_zero_le (show 0 ≤ E by omega)
   exact quoRem_bge b1 b2 bb v1 v2 z1 e1 z2 e2 p s (s + e2) n w hG hz1 hz2 h0 hx1 hx2 he1 he2 hp hs hE (by omega) rfl hbb hn1 hn2

theorem quoRem_zero (b1 b2 : Nat) (v2 : Value) (e1 e2 p : Int) (bb : Value) (_hbv : bb = .pointer none ∨ ∃ a, bb = .pointer (some a)) (w : World) (hx2 : ZI w b2 v2 0) :
 Calls Tryz.prog 106 #[sd b1 e1, sd b2 e2, .int .i32 p, bb] w (fun r w' => (∃ u pv, r = .panicked [{ v := .iface u pv, recovered := false }]) ∧ Fresh w w') := by
 have hgv := fun b e W => getValue_any b e W
 have hsg := fun W (hW : Fresh w W) => IntSign_z b2 v2 0 W (hx2.fresh hW)
 rw [if_pos rfl] at hsg
 obtain ⟨g, hg⟩ : ∃ g, g = w.heap.size := ⟨_, rfl⟩
 have bx := boxes4 w #[.pointer (some ⟨b1, 0, none⟩), .int .i32 e1] #[.pointer (some ⟨b2, 0, none⟩), .int .i32 e2] #[.pointer none, .int .i32 0] #[.pointer none, .int .i32 0] 61 61 61 61 g hg
 have H_bx := hid bx; have H_hgv := hid hgv; have H_hsg := hid hsg; have H_hx2 := hid hx2; clear bx hgv hsg hx2
 go_enter Tryz.func106, Tryz.ntmps106
 go_wp2_with (fail)
 generalize hw1 : (((w.alloc _).alloc _).alloc _).alloc _ = w1
 rw [← hg]
 obtain ⟨d1, d2, d3, d4, fa⟩ := H_bx.out w1 hw1
 have m0 := rwc d2 0
 have m1 := rwc d2 1
 simp at m0 m1
 clear H_bx d1 d3 d4
 have H_d2 := hid d2; have H_fa := hid fa; have H_hw1 := hid hw1; have H_hg := hid hg; clear d2 fa hw1 hg
 go_wp2_with (fail)
 refine (H_hgv.out _ _ _).mono ?_
 rintro r w2 ⟨rfl, f2⟩
 clear m0 m1
 have fa := ftr H_fa.out f2
 clear H_fa
 have H_fa := hid fa; have H_f2 := hid f2; clear fa f2
 go_wp2_with (fail)
 refine (H_hsg.out _ H_fa.out).mono ?_
 rintro r w3 ⟨rfl, hw3⟩
 obtain rfl : w2 = w3 := hw3.symm
 go_wp2_with (fail)
 exact ⟨rfl, ⟨_, _, rfl⟩, H_fa.out⟩



theorem wpow10_of {z : Int} (h : z.natAbs < 10 ^ 60) : z.natAbs < wpow 10 := Nat.lt_of_lt_of_le h (by unfold wpow; decide)

theorem IsZero_t {z e : Int} (h : z = 0) (x : Value) (W : World) (hx : SFr W x (dnum z e) (dden e)) : Calls Tryz.prog 21 #[x] W (fun r w' => r = .returned (.bool true) ∧ Fresh W w') := by
 have := IsZero_any x _ _ W hx
 rwa [decide_eq_true (dnum_zero.2 h)] at this

theorem IsZero_f {z e : Int} (h : z ≠ 0) (x : Value) (W : World) (hx : SFr W x (dnum z e) (dden e)) : Calls Tryz.prog 21 #[x] W (fun r w' => r = .returned (.bool false) ∧ Fresh W w') := by
 have := IsZero_any x _ _ W hx
 rwa [decide_eq_false (fun hh => h (dnum_zero.1 hh))] at this

theorem dec300 {z : Int} (h : z.natAbs < 10 ^ 60) : (wdig z).length ≤ 300 := Nat.le_trans (wdig_len_le h (by omega)) (by omega)

theorem qA_ltP {z e : Int} {P : Nat} (hz : z.natAbs < 10 ^ 60) (he : e.toNat + 60 ≤ P) : (qA z e).natAbs < 10 ^ P := by
 rw [qA_abs]
 exact scaledP_lt (d := e) hz he

theorem FracDiv_dec {z1 e1 z2 e2 : Int} (hz1 : z1.natAbs < 10 ^ 60) (he1 : -60 ≤ e1 ∧ e1 ≤ 60) (hz2 : z2.natAbs < 10 ^ 60) (he2 : -60 ≤ e2 ∧ e2 ≤ 60) (x y : Value) (W : World) (hx : SFr W x (dnum z1 e1) (dden e1)) (hy : SFr W y (dnum z2 e2) (dden e2)) :
 Calls Tryz.prog 22 #[x, y] W (FRet W (qN z1 e1 z2 e2) (dden e1 * (dnum z2 e2).natAbs)) :=
 FracDiv_any x y _ _ _ _ W hx hy (spow_of_ten (dnum_lt hz1 he1.2) (by omega)) (spow_of_ten (dnum_lt hz2 he2.2) (by omega)) (dden_lt (by omega) (by omega)) (dden_lt (by omega) (by omega))

end Go.Proofs.YtllencgncinphaaGreatDoor
