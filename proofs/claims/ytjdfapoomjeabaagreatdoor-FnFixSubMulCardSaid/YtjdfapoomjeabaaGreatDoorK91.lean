/- Sums with a product: a result, or no room. -/
import Derived.Test.YtjdfapoomjeabaaGreatDoorKX
import Derived.Test.YtjdfapoomjeabaaGreatDoorK5
import Derived.Test.YtjdfapoomjeabaaGreatDoorK11
import Derived.Test.YtjdfapoomjeabaaGreatDoorK12
import Derived.Test.YtjdfapoomjeabaaGreatDoorK18
import Derived.Test.YtjdfapoomjeabaaGreatDoorK44
import Derived.Test.YtjdfapoomjeabaaGreatDoorK87
import Derived.Test.YtjdfapoomjeabaaGreatDoorK88
import Derived.Test.YtjdfapoomjeabaaGreatDoorK89
import Derived.Test.YtjdfapoomjeabaaGreatDoorK90
namespace Go.Proofs.YtjdfapoomjeabaaGreatDoor
open Go.RowKit

theorem zfix_prod (m2 m3 : Bool) (c2 c3 : Nat) : zfix (m2 != m3) (c2 * c3) = zfix m2 c2 * zfix m3 c3 := by
  unfold zfix
  cases m2 <;> cases m3 <;> simp [Int.neg_mul, Int.mul_neg]

theorem bintL_core (f : FuncId) (args : Array Value) (neg : Bool) (C S ms : Nat) (z : Int) (d : Nat) (hd : 0 < d) (hC : C < 10 ^ 59) (hS : S ≤ 41) (hms : ms ≤ 19) (hfr : z.natAbs * 10 ^ S = C * d) (h1 : z < 0 → neg = true) (h2 : 0 < z → neg = false)
    (go : ∀ w nz sz cz Pv, Glob w → Pow10s w → (∀ V v, Fresh w V → (∀ k, v.ownBlock = some k → w.heap.size + 7 ≤ k) → BI V (w.heap.size + 4) v C →
      Calls Tryz.prog 108 #[.bool neg, .pointer (some ⟨w.heap.size + 4, 0, none⟩), .int .i64 (S : Nat), .int .i64 ms] V (NBOut V (w.heap.size + 4) v nz sz cz Pv)) → Calls Tryz.prog f args w (DOut w nz sz cz Pv)) :
    (¬ okN z.natAbs d ms ∧ ∀ w, Glob w → Pow10s w → Calls Tryz.prog f args w (ClampErr w)) ∨
    ∃ nz sz cz, (∀ w, Glob w → Pow10s w → Calls Tryz.prog f args w (VRet w (.tuple #[gd nz sz cz, .nilIface]))) ∧ ResOK z d ms nz sz cz := by
  obtain ⟨p, hp38, hp⟩ := isPrec_ex 59 C hC
  have hnb : ∀ w, Glob w → Pow10s w → ∀ V v, Fresh w V → (∀ k, v.ownBlock = some k → w.heap.size + 7 ≤ k) → BI V (w.heap.size + 4) v C →
      Calls Tryz.prog 108 #[.bool neg, .pointer (some ⟨w.heap.size + 4, 0, none⟩), .int .i64 (S : Nat), .int .i64 ms] V (NBRet V (w.heap.size + 4) v neg (nbOut C p S ms)) :=
    fun w hG hP V v hf hv hz => newFromBintL_any w V neg (w.heap.size + 4) C p S ms v hG hP hf (by omega) (fun k h => by have := hv k h; omega) hp hp38 hS hms hz
  rcases ho : nbOut C p S ms with _ | ⟨c, s⟩
  · rw [ho] at hnb
    exact .inl ⟨nb_none hfr hd hp hms ho, fun w hG hP => (go w false 0 0 AnErr hG hP (hnb w hG hP)).mono (fun _ _ h => h.err)⟩
  · rw [ho] at hnb
    obtain ⟨g1, g2⟩ := nb_some hfr hd hp hms ho
    exact .inr ⟨_, s, c, fun w hG hP => (go w (neg && decide (0 < c)) s c NoErr hG hP (hnb w hG hP)).mono (fun _ _ h => h.ok), res_ok hd g1 g2 h1 h2⟩

theorem addMulBint_law (m1 m2 m3 : Bool) (c1 s1 c2 s2 c3 s3 ms : Nat) (hms : ms ≤ 19) (hs1 : s1 ≤ 19) (hs2 : s2 ≤ 19) (hs3 : s3 ≤ 19) (hc1 : c1 ≤ 9999999999999999999) (hc2 : c2 ≤ 9999999999999999999) (hc3 : c3 ≤ 9999999999999999999) :
    (¬ okN (zfix m1 c1 * ((10 ^ (s2 + s3) : Nat) : Int) + zfix (m2 != m3) (c2 * c3) * ((10 ^ s1 : Nat) : Int)).natAbs (10 ^ s1 * 10 ^ (s2 + s3)) ms ∧ ∀ w, Glob w → Pow10s w → Calls Tryz.prog 110 #[gd m1 s1 c1, gd m2 s2 c2, gd m3 s3 c3, .int .i64 ms] w (ClampErr w)) ∨
    ∃ nz sz cz, (∀ w, Glob w → Pow10s w → Calls Tryz.prog 110 #[gd m1 s1 c1, gd m2 s2 c2, gd m3 s3 c3, .int .i64 ms] w (VRet w (.tuple #[gd nz sz cz, .nilIface]))) ∧ ResOK (zfix m1 c1 * ((10 ^ (s2 + s3) : Nat) : Int) + zfix (m2 != m3) (c2 * c3) * ((10 ^ s1 : Nat) : Int)) (10 ^ s1 * 10 ^ (s2 + s3)) ms nz sz cz := by
  have hd : 0 < (10 ^ s1 * 10 ^ (s2 + s3)) := Nat.mul_pos (Nat.pow_pos (by omega)) (Nat.pow_pos (by omega))
  have hsn := add_sign m1 (m2 != m3) c1 s1 (c2 * c3) (s2 + s3)
  have hfr := add_frac m1 (m2 != m3) c1 s1 (c2 * c3) (s2 + s3)
  have hcc : c2 * c3 < 10 ^ 38 := mul_lt38 hc2 hc3
  have hC : sumC m1 (m2 != m3) (c1 * 10 ^ (s2 + s3 - s1)) (c2 * c3 * 10 ^ (s1 - (s2 + s3))) < 10 ^ 59 := by
    have h1 : (c1 * 10 ^ (s2 + s3 - s1)) ≤ 9999999999999999999 * 10 ^ 38 := Nat.mul_le_mul hc1 (Nat.pow_le_pow_right (by omega) (by omega))
    have h2 : (c2 * c3 * 10 ^ (s1 - (s2 + s3))) ≤ 10 ^ 38 * 10 ^ 19 := Nat.mul_le_mul (Nat.le_of_lt hcc) (Nat.pow_le_pow_right (by omega) (by omega))
    have h3 := sumC_le m1 (m2 != m3) (c1 * 10 ^ (s2 + s3 - s1)) (c2 * c3 * 10 ^ (s1 - (s2 + s3)))
    exact Nat.lt_of_le_of_lt (Nat.le_trans h3 (Nat.add_le_add h1 h2)) (by decide)
  refine bintL_core _ _ (sumS m1 (m2 != m3) (c1 * 10 ^ (s2 + s3 - s1)) (c2 * c3 * 10 ^ (s1 - (s2 + s3)))) (sumC m1 (m2 != m3) (c1 * 10 ^ (s2 + s3 - s1)) (c2 * c3 * 10 ^ (s1 - (s2 + s3)))) (max s1 (s2 + s3)) ms _ _ hd hC (by omega) hms hfr hsn.1 hsn.2 ?_
  intro w nz sz cz Pv hG hP hnb
  exact addMulBint_go m1 m2 m3 c1 s1 c2 s2 c3 s3 ms w hG hP hs1 hs2 hs3 hc1 hc2 hc3 nz sz cz Pv _ rfl _ rfl _ rfl (c1 * 10 ^ (s2 + s3 - s1)) (c2 * c3 * 10 ^ (s1 - (s2 + s3))) (by rw [show max s1 (s2 + s3) - s1 = s2 + s3 - s1 by omega]) (by rw [show max s1 (s2 + s3) - (s2 + s3) = s1 - (s2 + s3) by omega]) hnb

theorem addMulFint_law (m1 m2 m3 : Bool) (c1 s1 c2 s2 c3 s3 ms : Nat) (hms : ms ≤ 19) (hs1 : s1 ≤ 19) (hs2 : s2 ≤ 19) (hs3 : s3 ≤ 19) (hc1 : c1 ≤ 9999999999999999999) (hc2 : c2 ≤ 9999999999999999999) (hc3 : c3 ≤ 9999999999999999999) :
    (∀ w, Pow10s w → ErrIs w → Calls Tryz.prog 109 #[gd m1 s1 c1, gd m2 s2 c2, gd m3 s3 c3, .int .i64 ms] w (ClampErr w)) ∨
    ∃ nz sz cz, (∀ w, Pow10s w → ErrIs w → Calls Tryz.prog 109 #[gd m1 s1 c1, gd m2 s2 c2, gd m3 s3 c3, .int .i64 ms] w (VRet w (.tuple #[gd nz sz cz, .nilIface]))) ∧ ResOK (zfix m1 c1 * ((10 ^ (s2 + s3) : Nat) : Int) + zfix (m2 != m3) (c2 * c3) * ((10 ^ s1 : Nat) : Int)) (10 ^ s1 * 10 ^ (s2 + s3)) ms nz sz cz := by
  have hd : 0 < (10 ^ s1 * 10 ^ (s2 + s3)) := Nat.mul_pos (Nat.pow_pos (by omega)) (Nat.pow_pos (by omega))
  have hsn := add_sign m1 (m2 != m3) c1 s1 (c2 * c3) (s2 + s3)
  have hfr := add_frac m1 (m2 != m3) c1 s1 (c2 * c3) (s2 + s3)
  have go := fun w hE hP nz sz cz Pv hnf => addMulFint_go m1 m2 m3 c1 s1 c2 s2 c3 s3 ms w hE hP hs1 hs2 hs3 hc1 hc2 hc3 nz sz cz Pv _ rfl _ rfl _ rfl (c1 * 10 ^ (s2 + s3 - s1)) (c2 * c3 * 10 ^ (s1 - (s2 + s3))) (by rw [show max s1 (s2 + s3) - s1 = s2 + s3 - s1 by omega]) (by rw [show max s1 (s2 + s3) - (s2 + s3) = s1 - (s2 + s3) by omega]) hnf
  by_cases hfit : amFit c2 c3 (max s1 (s2 + s3) - s1) (c1 * 10 ^ (s2 + s3 - s1)) (c2 * c3 * 10 ^ (s1 - (s2 + s3))) (sumC m1 (m2 != m3) (c1 * 10 ^ (s2 + s3 - s1)) (c2 * c3 * 10 ^ (s1 - (s2 + s3))))
  · rcases nf_law (sumS m1 (m2 != m3) (c1 * 10 ^ (s2 + s3 - s1)) (c2 * c3 * 10 ^ (s1 - (s2 + s3)))) (sumC m1 (m2 != m3) (c1 * 10 ^ (s2 + s3 - s1)) (c2 * c3 * 10 ^ (s1 - (s2 + s3)))) (max s1 (s2 + s3)) ms hfit.2.2.2.2 (by omega) hms with herr | ⟨s, c, hok, hle, hgood⟩
    · exact .inl fun w hP hE => (go w hE hP false 0 0 AnErr (fun _ W hW => (herr W (hP.fresh hW) (hE.fresh hW)).mono (fun _ _ h => DOut.of_err h))).mono (fun _ _ h => h.elim (fun h => h.2.err) (fun h => absurd hfit h.1))
    · exact .inr ⟨_, s, c, fun w hP hE => (go w hE hP _ s c NoErr (fun _ W hW => (hok W (hP.fresh hW)).mono (fun _ _ h => DOut.of_ok h))).mono (fun _ _ h => h.elim (fun h => h.2.ok) (fun h => absurd hfit h.1)), res_ok hd (hgood _ _ hd hfr) hle hsn.1 hsn.2⟩
  · exact .inl fun w hP hE => (go w hE hP false 0 0 AnErr (fun h => absurd h hfit)).mono (fun _ _ h => h.elim (fun h => absurd h.1 hfit) (fun h => h.2))

end Go.Proofs.YtjdfapoomjeabaaGreatDoor

/- The walk of FnFixSubMul. -/
namespace Go.Proofs.YtjdfapoomjeabaaGreatDoor
open Go.RowKit

theorem prod_abs {n2 n3 : Bool} {c2 c3 : Nat} (hc2 : c2 ≤ 9999999999999999999) (hc3 : c3 ≤ 9999999999999999999) : (zfix n2 c2 * zfix n3 c3).natAbs ≤ 9999999999999999999 * 9999999999999999999 := by
  have a2 : (zfix n2 c2).natAbs = c2 := by unfold zfix; split <;> simp
  have a3 : (zfix n3 c3).natAbs = c3 := by unfold zfix; split <;> simp
  rw [Int.natAbs_mul, a2, a3]
  exact Nat.mul_le_mul hc2 hc3

theorem prod_spow {n2 n3 : Bool} {c2 c3 : Nat} (hc2 : c2 ≤ 9999999999999999999) (hc3 : c3 ≤ 9999999999999999999) : (zfix n2 c2 * zfix n3 c3).natAbs < spow 1000 :=
  Nat.lt_of_le_of_lt (prod_abs hc2 hc3) (Nat.lt_of_lt_of_le (show 9999999999999999999 * 9999999999999999999 < spow 5 by decide) (spow_mono (by omega)))

theorem ten2_le {s2 s3 : Nat} (hs2 : s2 ≤ 19) (hs3 : s3 ≤ 19) : 10 ^ s2 * 10 ^ s3 ≤ 10 ^ 19 * 10 ^ 19 := Nat.mul_le_mul (Nat.pow_le_pow_right (by omega) hs2) (Nat.pow_le_pow_right (by omega) hs3)

theorem ten2_spow {s2 s3 : Nat} (hs2 : s2 ≤ 19) (hs3 : s3 ≤ 19) : 10 ^ s2 * 10 ^ s3 < spow 1000 :=
  Nat.lt_of_le_of_lt (ten2_le hs2 hs3) (Nat.lt_of_lt_of_le (show 10 ^ 19 * 10 ^ 19 < spow 5 by decide) (spow_mono (by omega)))

theorem zfix_neg_canon (n : Bool) (c : Nat) : zfix (!(n && decide (0 < c)) && decide (0 < c)) c = -zfix n c := by
  rcases Nat.eq_zero_or_pos c with h | h
  · subst h; cases n <;> rfl
  · have : decide (0 < c) = true := by simp; omega
    rw [this]
    cases n <;> simp [zfix]

theorem frac_boundsSubMul {n1 n2 n3 : Bool} {c1 s1 c2 s2 c3 s3 : Nat} (hs1 : s1 ≤ 19) (hs2 : s2 ≤ 19) (hs3 : s3 ≤ 19) (hc1 : c1 ≤ 9999999999999999999) (hc2 : c2 ≤ 9999999999999999999) (hc3 : c3 ≤ 9999999999999999999) :
    0 < (10 ^ s1 * (10 ^ s2 * 10 ^ s3)) ∧ (10 ^ s1 * (10 ^ s2 * 10 ^ s3)) < spow 300 ∧ ((zfix n1 c1 * ((10 ^ s2 * 10 ^ s3 : Nat) : Int) + -(zfix n2 c2 * zfix n3 c3) * ((10 ^ s1 : Nat) : Int))).natAbs < spow 300 := by
  have e8 : spow 8 ≤ spow 300 := spow_mono (by omega)
  have p1 : 10 ^ s1 ≤ 10 ^ 19 := Nat.pow_le_pow_right (by omega) hs1
  have p2 := ten2_le hs2 hs3
  have m1 : 10 ^ s1 * (10 ^ s2 * 10 ^ s3) ≤ 10 ^ 19 * (10 ^ 19 * 10 ^ 19) := Nat.mul_le_mul p1 p2
  have m2 : c1 * (10 ^ s2 * 10 ^ s3) ≤ 9999999999999999999 * (10 ^ 19 * 10 ^ 19) := Nat.mul_le_mul hc1 p2
  have m3 : (zfix n2 c2 * zfix n3 c3).natAbs * 10 ^ s1 ≤ 9999999999999999999 * 9999999999999999999 * 10 ^ 19 := Nat.mul_le_mul (prod_abs hc2 hc3) p1
  have a1 : (zfix n1 c1).natAbs = c1 := by unfold zfix; split <;> simp
  refine ⟨Nat.mul_pos (Nat.pow_pos (by omega)) (Nat.mul_pos (Nat.pow_pos (by omega)) (Nat.pow_pos (by omega))), Nat.lt_of_le_of_lt m1 (Nat.lt_of_lt_of_le (by decide) e8), ?_⟩
  have h1 := Int.natAbs_add_le (zfix n1 c1 * ((10 ^ s2 * 10 ^ s3 : Nat) : Int)) (-(zfix n2 c2 * zfix n3 c3) * ((10 ^ s1 : Nat) : Int))
  rw [Int.natAbs_mul, Int.natAbs_mul, Int.natAbs_neg, a1, Int.natAbs_natCast, Int.natAbs_natCast] at h1
  exact Nat.lt_of_le_of_lt (Nat.le_trans h1 (Nat.add_le_add m2 m3)) (Nat.lt_of_lt_of_le (by decide) e8)

set_option maxRecDepth 20000 in
set_option maxHeartbeats 2000000 in
theorem FnFixSubMul_out (n1 n2 n3 : Bool) (c1 c2 c3 : Nat) (s1 s2 s3 : Int) (w : World) (h : (fixIs c1 s1 && (fixIs c2 s2 && fixIs c3 s3)) = false) :
    Calls Tryz.prog 9 #[.agg #[.bool n1, .int .u64 c1, .int .i64 s1], .agg #[.bool n2, .int .u64 c2, .int .i64 s2], .agg #[.bool n3, .int .u64 c3, .int .i64 s3]] w (VRet w (.bool true)) := by
  obtain ⟨g, hg⟩ : ∃ g, g = w.heap.size := ⟨_, rfl⟩
  have bx := boxes4 w #[.bool n1, .int .u64 c1, .int .i64 s1] #[.bool n2, .int .u64 c2, .int .i64 s2] #[.bool n3, .int .u64 c3, .int .i64 s3] #[.bool n1, .int .u64 c1, .int .i64 s1, .bool n2, .int .u64 c2, .int .i64 s2, .bool n3, .int .u64 c3, .int .i64 s3] 24 24 24 24 g hg
  have H_bx := Lib.hid bx; clear bx
  have H_h := Lib.hid h; clear h
  go_enter Tryz.func9, Tryz.ntmps9
  go_wp2_with (fail)
  generalize hw1 : (((w.alloc _).alloc _).alloc _).alloc _ = w1
  rw [← hg]
  obtain ⟨d1, d2, d3, d4, fa⟩ := H_bx.out w1 hw1
  refine (FixAll_three n1 n2 n3 c1 c2 c3 s1 s2 s3 _ _ d4).mono ?_
  rintro e w2 ⟨rfl, f2⟩
  rw [H_h.out]
  have H_d1 := Lib.hid d1; clear d1
  have H_d2 := Lib.hid d2; clear d2
  have H_d3 := Lib.hid d3; clear d3
  have H_d4 := Lib.hid d4; clear d4
  have H_fa := Lib.hid fa; clear fa
  have H_hw1 := Lib.hid hw1; clear hw1
  have H_hg := Lib.hid hg; clear hg
  have H_f2 := Lib.hid f2; clear f2
  go_wp2_with (fail)
  go_ret
  exact ⟨rfl, fresh_trans H_fa.out H_f2.out⟩

set_option maxRecDepth 100000 in
set_option maxHeartbeats 8000000 in
theorem FnFixSubMul_walk (n1 n2 n3 nr : Bool) (c1 s1 c2 s2 c3 s3 cr : Nat) (sr fl : Int) (w : World) (hs1 : s1 ≤ 19) (hs2 : s2 ≤ 19) (hs3 : s3 ≤ 19) (hc1 : c1 ≤ 9999999999999999999) (hc2 : c2 ≤ 9999999999999999999) (hc3 : c3 ≤ 9999999999999999999)
    (hcl : ∀ W, Fresh w W → Calls Tryz.prog 28 #[fx n1 c1 s1, fx n2 c2 s2, fx n3 c3 s3] W (VRet W (.tuple #[.agg #[.bool nr, .int .u64 cr, .int .i64 sr], .int .i64 fl])))
    (hgv : ∀ W x, Fresh w W → SFr W x (zfix n1 c1 * ((10 ^ s2 * 10 ^ s3 : Nat) : Int) + -(zfix n2 c2 * zfix n3 c3) * ((10 ^ s1 : Nat) : Int)) (10 ^ s1 * (10 ^ s2 * 10 ^ s3)) → Calls Tryz.prog 15 #[.agg #[.bool nr, .int .u64 cr, .int .i64 sr], .int .i64 fl, x] W (VRet W (.bool true))) :
    Calls Tryz.prog 9 #[fx n1 c1 s1, fx n2 c2 s2, fx n3 c3 s3] w (VRet w (.bool true)) := by
  have h : (fixIs c1 s1 && (fixIs c2 s2 && fixIs c3 s3)) = true := by unfold fixIs; simp; omega
  have hn1 := fun W => FixNum_any n1 c1 s1 W hs1 hc1
  have hn2 := fun W => FixNum_any n2 c2 s2 W hs2 hc2
  have hn3 := fun W => FixNum_any n3 c3 s3 W hs3 hc3
  have hpr := fun W x y (hx : SFr W x (zfix n2 c2) (10 ^ s2)) (hy : SFr W y (zfix n3 c3) (10 ^ s3)) => FracMul_any x y _ _ _ _ W hx hy (zfix_spow hc2) (zfix_spow hc3) (ten_spow hs2) (ten_spow hs3)
  have hop := fun W x y (hx : SFr W x (zfix n1 c1) (10 ^ s1)) (hy : SFr W y (zfix n2 c2 * zfix n3 c3) (10 ^ s2 * 10 ^ s3)) => FracSub_any x y _ _ _ _ W hx hy (zfix_spow hc1) (prod_spow hc2 hc3) (ten_spow hs1) (ten2_spow hs2 hs3)
  obtain ⟨g, hg⟩ : ∃ g, g = w.heap.size := ⟨_, rfl⟩
  have bx := boxes4 w #[.bool n1, .int .u64 c1, .int .i64 s1] #[.bool n2, .int .u64 c2, .int .i64 s2] #[.bool n3, .int .u64 c3, .int .i64 s3] #[.bool n1, .int .u64 c1, .int .i64 s1, .bool n2, .int .u64 c2, .int .i64 s2, .bool n3, .int .u64 c3, .int .i64 s3] 24 24 24 24 g hg
  have H_bx := Lib.hid bx; clear bx
  have H_h := Lib.hid h; clear h
  have H_hcl := Lib.hid hcl; clear hcl
  have H_hn1 := Lib.hid hn1; clear hn1
  have H_hn2 := Lib.hid hn2; clear hn2
  have H_hn3 := Lib.hid hn3; clear hn3
  have H_hpr := Lib.hid hpr; clear hpr
  have H_hop := Lib.hid hop; clear hop
  have H_hgv := Lib.hid hgv; clear hgv
  go_enter Tryz.func9, Tryz.ntmps9
  go_wp2_with (fail)
  generalize hw1 : (((w.alloc _).alloc _).alloc _).alloc _ = w1
  rw [← hg]
  obtain ⟨d1, d2, d3, d4, fa⟩ := H_bx.out w1 hw1
  refine (FixAll_three n1 n2 n3 c1 c2 c3 s1 s2 s3 _ _ d4).mono ?_
  rintro e w2 ⟨rfl, f2⟩
  rw [H_h.out]
  clear d4
  have H_d1 := Lib.hid d1; clear d1
  have H_d2 := Lib.hid d2; clear d2
  have H_d3 := Lib.hid d3; clear d3
  have H_fa := Lib.hid fa; clear fa
  have H_hw1 := Lib.hid hw1; clear hw1
  have H_hg := Lib.hid hg; clear hg
  have d1 := row_fresh H_d1.out f2
  have d2 := row_fresh H_d2.out f2
  have d3 := row_fresh H_d3.out f2
  have fa := fresh_trans H_fa.out f2
  have m0 := row_cell d1 0
  have m1 := row_cell d1 1
  have m2 := row_cell d1 2
  have m3 := row_cell d2 0
  have m4 := row_cell d2 1
  have m5 := row_cell d2 2
  have m6 := row_cell d3 0
  have m7 := row_cell d3 1
  have m8 := row_cell d3 2
  simp at m0 m1 m2 m3 m4 m5 m6 m7 m8
  have H_f2 := Lib.hid f2; clear f2
  clear H_d1 H_d2 H_d3 H_fa
  have H_d1 := Lib.hid d1; clear d1
  have H_d2 := Lib.hid d2; clear d2
  have H_d3 := Lib.hid d3; clear d3
  have H_fa := Lib.hid fa; clear fa
  go_wp2_with (fail)
  refine (H_hcl.out _ H_fa.out).mono ?_
  rintro e w3 ⟨rfl, f3⟩
  have d1 := row_fresh H_d1.out f3
  have d2 := row_fresh H_d2.out f3
  have d3 := row_fresh H_d3.out f3
  have fa := fresh_trans H_fa.out f3
  clear m0 m1 m2 m3 m4 m5 m6 m7 m8
  obtain ⟨h7, hh7⟩ : ∃ h, h = w3.heap.size := ⟨_, rfl⟩
  have H_f3 := Lib.hid f3; clear f3
  have H_hh7 := Lib.hid hh7; clear hh7
  clear H_d1 H_d2 H_d3 H_fa
  have H_d1 := Lib.hid d1; clear d1
  have H_d2 := Lib.hid d2; clear d2
  have H_d3 := Lib.hid d3; clear d3
  have H_fa := Lib.hid fa; clear fa
  go_wp2_with (fail)
  generalize hw4 : w3.alloc _ = w4
  have f4 : Fresh w3 w4 := by rw [← hw4]; exact (Keep.refl _ _).alloc _
  have r7 : w4.heap[h7]? = some (.cells #[.bool nr, .int .u64 cr, .int .i64 sr] 24 (0, 0)) := by rw [← hw4, H_hh7.out]; exact heap_alloc_new w3 _
  rw [← H_hh7.out]
  have d1 := row_fresh H_d1.out f4
  have d2 := row_fresh H_d2.out f4
  have d3 := row_fresh H_d3.out f4
  have fa := fresh_trans H_fa.out f4
  have m0 := row_cell r7 0
  have m1 := row_cell r7 1
  have m2 := row_cell r7 2
  have m3 := row_cell d1 0
  have m4 := row_cell d1 1
  have m5 := row_cell d1 2
  have m6 := row_cell d2 0
  have m7 := row_cell d2 1
  have m8 := row_cell d2 2
  have m9 := row_cell d3 0
  have m10 := row_cell d3 1
  have m11 := row_cell d3 2
  simp at m0 m1 m2 m3 m4 m5 m6 m7 m8 m9 m10 m11
  have H_f4 := Lib.hid f4; clear f4
  have H_hw4 := Lib.hid hw4; clear hw4
  clear H_d1 H_d2 H_d3 H_fa
  have H_d1 := Lib.hid d1; clear d1
  have H_d2 := Lib.hid d2; clear d2
  have H_d3 := Lib.hid d3; clear d3
  have H_r7 := Lib.hid r7; clear r7
  have H_fa := Lib.hid fa; clear fa
  go_region_held3 (fun (w' : World) => w'.cell? ⟨h7, 0, none⟩ = some (.bool nr) ∧ w'.cell? ⟨h7, 1, none⟩ = some (.int .u64 cr) ∧ w'.cell? ⟨h7, 2, none⟩ = some (.int .i64 sr) ∧ w'.cell? ⟨g, 0, none⟩ = some (.bool n1) ∧ w'.cell? ⟨g, 1, none⟩ = some (.int .u64 c1) ∧ w'.cell? ⟨g, 2, none⟩ = some (.int .i64 s1) ∧ w'.cell? ⟨g + 1, 0, none⟩ = some (.bool n2) ∧ w'.cell? ⟨g + 1, 1, none⟩ = some (.int .u64 c2) ∧ w'.cell? ⟨g + 1, 2, none⟩ = some (.int .i64 s2) ∧ w'.cell? ⟨g + 1 + 1, 0, none⟩ = some (.bool n3) ∧ w'.cell? ⟨g + 1 + 1, 1, none⟩ = some (.int .u64 c3) ∧ w'.cell? ⟨g + 1 + 1, 2, none⟩ = some (.int .i64 s3)) (first | exact ⟨m0, m1, m2, m3, m4, m5, m6, m7, m8, m9, m10, m11⟩ | exact ⟨z2_0, z2_1, z2_2, z2_3, z2_4, z2_5, z2_6, z2_7, z2_8, z2_9, z2_10, z2_11⟩ | exact ⟨z4_0, z4_1, z4_2, z4_3, z4_4, z4_5, z4_6, z4_7, z4_8, z4_9, z4_10, z4_11⟩ | exact ⟨z6_0, z6_1, z6_2, z6_3, z6_4, z6_5, z6_6, z6_7, z6_8, z6_9, z6_10, z6_11⟩ | exact ⟨z8_0, z8_1, z8_2, z8_3, z8_4, z8_5, z8_6, z8_7, z8_8, z8_9, z8_10, z8_11⟩ | exact ⟨z10_0, z10_1, z10_2, z10_3, z10_4, z10_5, z10_6, z10_7, z10_8, z10_9, z10_10, z10_11⟩ | exact ⟨z12_0, z12_1, z12_2, z12_3, z12_4, z12_5, z12_6, z12_7, z12_8, z12_9, z12_10, z12_11⟩) (first
    | (go_at_call 16; (with_reducible refine (H_hn1.out _).mono ?_); rintro e y1_ ⟨xa, rfl, hsxa, r⟩; have hy : Fresh w4 y1_ := (by first | exact r | exact r.of_drew | exact r.of_drewN); have z2_0 := cell_fresh m0 hy; have z2_1 := cell_fresh m1 hy; have z2_2 := cell_fresh m2 hy; have z2_3 := cell_fresh m3 hy; have z2_4 := cell_fresh m4 hy; have z2_5 := cell_fresh m5 hy; have z2_6 := cell_fresh m6 hy; have z2_7 := cell_fresh m7 hy; have z2_8 := cell_fresh m8 hy; have z2_9 := cell_fresh m9 hy; have z2_10 := cell_fresh m10 hy; have z2_11 := cell_fresh m11 hy; have fy1_ := hy; have H_fy1_ := Lib.hid fy1_; have H_hyxa := Lib.hid hy; have H_hsxa := Lib.hid hsxa; clear r hy hsxa fy1_)
    | (go_at_call 16; (with_reducible refine (H_hn2.out _).mono ?_); rintro e y3_ ⟨xb, rfl, hsxb, r⟩; have hy : Fresh y1_ y3_ := r; have z4_0 := cell_fresh z2_0 hy; have z4_1 := cell_fresh z2_1 hy; have z4_2 := cell_fresh z2_2 hy; have z4_3 := cell_fresh z2_3 hy; have z4_4 := cell_fresh z2_4 hy; have z4_5 := cell_fresh z2_5 hy; have z4_6 := cell_fresh z2_6 hy; have z4_7 := cell_fresh z2_7 hy; have z4_8 := cell_fresh z2_8 hy; have z4_9 := cell_fresh z2_9 hy; have z4_10 := cell_fresh z2_10 hy; have z4_11 := cell_fresh z2_11 hy; have fy3_ := fresh_trans H_fy1_.out hy; have H_fy3_ := Lib.hid fy3_; have H_hyxb := Lib.hid hy; have H_hsxb := Lib.hid hsxb; clear r hy hsxb fy3_)
    | (go_at_call 16; (with_reducible refine (H_hn3.out _).mono ?_); rintro e y5_ ⟨xe, rfl, hsxe, r⟩; have hy : Fresh y3_ y5_ := r; have z6_0 := cell_fresh z4_0 hy; have z6_1 := cell_fresh z4_1 hy; have z6_2 := cell_fresh z4_2 hy; have z6_3 := cell_fresh z4_3 hy; have z6_4 := cell_fresh z4_4 hy; have z6_5 := cell_fresh z4_5 hy; have z6_6 := cell_fresh z4_6 hy; have z6_7 := cell_fresh z4_7 hy; have z6_8 := cell_fresh z4_8 hy; have z6_9 := cell_fresh z4_9 hy; have z6_10 := cell_fresh z4_10 hy; have z6_11 := cell_fresh z4_11 hy; have fy5_ := fresh_trans H_fy3_.out hy; have H_fy5_ := Lib.hid fy5_; have H_hyxe := Lib.hid hy; have H_hsxe := Lib.hid hsxe; clear r hy hsxe fy5_)
    | (go_at_call 17; (with_reducible refine (H_hpr.out _ _ _ (H_hsxb.out.fresh H_hyxe.out) H_hsxe.out).mono ?_); rintro e y7_ ⟨xf, rfl, hsxf, r⟩; have hy : Fresh y5_ y7_ := r; have z8_0 := cell_fresh z6_0 hy; have z8_1 := cell_fresh z6_1 hy; have z8_2 := cell_fresh z6_2 hy; have z8_3 := cell_fresh z6_3 hy; have z8_4 := cell_fresh z6_4 hy; have z8_5 := cell_fresh z6_5 hy; have z8_6 := cell_fresh z6_6 hy; have z8_7 := cell_fresh z6_7 hy; have z8_8 := cell_fresh z6_8 hy; have z8_9 := cell_fresh z6_9 hy; have z8_10 := cell_fresh z6_10 hy; have z8_11 := cell_fresh z6_11 hy; have fy7_ := fresh_trans H_fy5_.out hy; have H_fy7_ := Lib.hid fy7_; have H_hyxf := Lib.hid hy; have H_hsxf := Lib.hid hsxf; clear r hy hsxf fy7_)
    | (go_at_call 21; (with_reducible refine (H_hop.out _ _ _ (H_hsxa.out.fresh (fresh_trans H_hyxb.out (fresh_trans H_hyxe.out H_hyxf.out))) H_hsxf.out).mono ?_); rintro e y9_ ⟨xc, rfl, hsxc, r⟩; have hy : Fresh y7_ y9_ := r; have z10_0 := cell_fresh z8_0 hy; have z10_1 := cell_fresh z8_1 hy; have z10_2 := cell_fresh z8_2 hy; have z10_3 := cell_fresh z8_3 hy; have z10_4 := cell_fresh z8_4 hy; have z10_5 := cell_fresh z8_5 hy; have z10_6 := cell_fresh z8_6 hy; have z10_7 := cell_fresh z8_7 hy; have z10_8 := cell_fresh z8_8 hy; have z10_9 := cell_fresh z8_9 hy; have z10_10 := cell_fresh z8_10 hy; have z10_11 := cell_fresh z8_11 hy; have fy9_ := fresh_trans H_fy7_.out hy; have H_fy9_ := Lib.hid fy9_; have H_hyxc := Lib.hid hy; have H_hsxc := Lib.hid hsxc; clear r hy hsxc fy9_)
    | (go_at_call 15; (with_reducible refine (H_hgv.out _ _ (fresh_trans H_fa.out H_fy9_.out) H_hsxc.out).mono ?_); rintro e y11_ ⟨rfl, r⟩; have hy : Fresh y9_ y11_ := r; have z12_0 := cell_fresh z10_0 hy; have z12_1 := cell_fresh z10_1 hy; have z12_2 := cell_fresh z10_2 hy; have z12_3 := cell_fresh z10_3 hy; have z12_4 := cell_fresh z10_4 hy; have z12_5 := cell_fresh z10_5 hy; have z12_6 := cell_fresh z10_6 hy; have z12_7 := cell_fresh z10_7 hy; have z12_8 := cell_fresh z10_8 hy; have z12_9 := cell_fresh z10_9 hy; have z12_10 := cell_fresh z10_10 hy; have z12_11 := cell_fresh z10_11 hy; have fy11_ := fresh_trans H_fy9_.out hy; have H_fy11_ := Lib.hid fy11_; clear r hy fy11_))
  go_wp2
  go_ret
  exact ⟨by rfl, fresh_trans H_fa.out H_fy11_.out⟩

theorem FnFixSubMul_main (n1 n2 n3 : Bool) (c1 s1 c2 s2 c3 s3 : Nat) (w : World) (hG : Glob w) (hP : Pow10s w) (hE : ErrIs w) (hs1 : s1 ≤ 19) (hs2 : s2 ≤ 19) (hs3 : s3 ≤ 19) (hc1 : c1 ≤ 9999999999999999999) (hc2 : c2 ≤ 9999999999999999999) (hc3 : c3 ≤ 9999999999999999999) :
    Calls Tryz.prog 9 #[fx n1 c1 s1, fx n2 c2 s2, fx n3 c3 s3] w (VRet w (.bool true)) := by
  obtain ⟨hd, hdd, hb3⟩ := frac_boundsSubMul (n1 := n1) (n2 := n2) (n3 := n3) hs1 hs2 hs3 hc1 hc2 hc3
  have hz : zfix (n1 && decide (0 < c1)) c1 * ((10 ^ (s2 + s3) : Nat) : Int) + zfix ((!(n2 && decide (0 < c2)) && decide (0 < c2)) != (n3 && decide (0 < c3))) (c2 * c3) * ((10 ^ s1 : Nat) : Int) = (zfix n1 c1 * ((10 ^ s2 * 10 ^ s3 : Nat) : Int) + -(zfix n2 c2 * zfix n3 c3) * ((10 ^ s1 : Nat) : Int)) := by
    rw [zfix_prod, zfix_canon, zfix_neg_canon, zfix_canon, Int.neg_mul, Nat.pow_add]
  have hlaw := addMulFint_law (n1 && decide (0 < c1)) (!(n2 && decide (0 < c2)) && decide (0 < c2)) (n3 && decide (0 < c3)) c1 s1 c2 s2 c3 s3 0 (by omega) hs1 hs2 hs3 hc1 hc2 hc3
  have hlawB := addMulBint_law (n1 && decide (0 < c1)) (!(n2 && decide (0 < c2)) && decide (0 < c2)) (n3 && decide (0 < c3)) c1 s1 c2 s2 c3 s3 0 (by omega) hs1 hs2 hs3 hc1 hc2 hc3
  rw [hz, show 10 ^ s1 * 10 ^ (s2 + s3) = (10 ^ s1 * (10 ^ s2 * 10 ^ s3)) by rw [Nat.pow_add]] at hlaw hlawB
  rcases hlaw with herr | ⟨nz, sz, cz, hok, hg1, _, hg3, hg4⟩
  · rcases hlawB with ⟨hno, herrB⟩ | ⟨nz, sz, cz, hok, hg1, _, hg3, hg4⟩
    · exact FnFixSubMul_walk n1 n2 n3 false c1 s1 c2 s2 c3 s3 0 0 1 w hs1 hs2 hs3 hc1 hc2 hc3
        (fun W hW => FixSubMul_err n1 n2 n3 c1 s1 c2 s2 c3 s3 W hs1 hs2 hs3 hc1 hc2 hc3 (fun V hV => SubMul_err _ _ _ c1 s1 c2 s2 c3 s3 V hs2 (fun U hU => AddMulExact_no _ _ _ c1 s1 c2 s2 c3 s3 0 (by omega) U
          (fun T hT => herr T ((((hP.fresh hW).fresh hV).fresh hU).fresh hT) ((((hE.fresh hW).fresh hV).fresh hU).fresh hT))
          (fun T hT => herrB T ((((hG.fresh hW).fresh hV).fresh hU).fresh hT) ((((hP.fresh hW).fresh hV).fresh hU).fresh hT)))))
        (fun W x _ hx => gvNear_err false 0 0 x _ _ W hx hd hb3 hdd hno)
    · exact FnFixSubMul_walk n1 n2 n3 nz c1 s1 c2 s2 c3 s3 cz sz 0 w hs1 hs2 hs3 hc1 hc2 hc3
        (fun W hW => FixSubMul_ok n1 n2 n3 nz c1 s1 c2 s2 c3 s3 cz sz W hs1 hs2 hs3 hc1 hc2 hc3 hg1.1 (fun V hV => SubMul_ok _ _ _ nz c1 s1 c2 s2 c3 s3 sz cz V hs2 (fun U hU => AddMulExact_ok2 _ _ _ nz c1 s1 c2 s2 c3 s3 sz cz 0 (by omega) U
          (fun T hT => herr T ((((hP.fresh hW).fresh hV).fresh hU).fresh hT) ((((hE.fresh hW).fresh hV).fresh hU).fresh hT))
          (fun T hT => hok T ((((hG.fresh hW).fresh hV).fresh hU).fresh hT) ((((hP.fresh hW).fresh hV).fresh hU).fresh hT)))))
        (fun W x _ hx => gvNear_ok nz cz sz x _ _ W hx hd hb3 hdd hg1 hg3 hg4)
  · exact FnFixSubMul_walk n1 n2 n3 nz c1 s1 c2 s2 c3 s3 cz sz 0 w hs1 hs2 hs3 hc1 hc2 hc3
      (fun W hW => FixSubMul_ok n1 n2 n3 nz c1 s1 c2 s2 c3 s3 cz sz W hs1 hs2 hs3 hc1 hc2 hc3 hg1.1 (fun V hV => SubMul_ok _ _ _ nz c1 s1 c2 s2 c3 s3 sz cz V hs2 (fun U hU => AddMulExact_ok1 _ _ _ nz c1 s1 c2 s2 c3 s3 sz cz 0 (by omega) U
        (fun T hT => hok T ((((hP.fresh hW).fresh hV).fresh hU).fresh hT) ((((hE.fresh hW).fresh hV).fresh hU).fresh hT)))))
      (fun W x _ hx => gvNear_ok nz cz sz x _ _ W hx hd hb3 hdd hg1 hg3 hg4)

end Go.Proofs.YtjdfapoomjeabaaGreatDoor
