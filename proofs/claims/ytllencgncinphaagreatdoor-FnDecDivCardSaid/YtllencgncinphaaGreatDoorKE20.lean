/- The reference's rounding of decimals and of quotients of decimals, and what a law says of the result. -/
import Derived.Test.YtllencgncinphaaGreatDoorKE1
import Derived.Test.YtllencgncinphaaGreatDoorKE3
import Derived.Test.YtllencgncinphaaGreatDoorKE4
import Derived.Test.YtllencgncinphaaGreatDoorKE11
import Derived.Test.YtllencgncinphaaGreatDoorKE19
namespace Go.Proofs.YtllencgncinphaaGreatDoor
open Go.RowKit
open Go.Lib (hid)
set_option maxRecDepth 20000
set_option maxHeartbeats 1000000

theorem rdW_le {ru : Bool → Int → Bool → Bool} {neg : Bool} (a b : Nat) : rdW ru neg a b ≤ a + 1 := by
 unfold rdW
 have := Nat.div_le_self a b
 split <;> omega

theorem dden_pos (e : Int) : 0 < dden e := by rw [dden_eq]; exact Nat.pow_pos (by omega)

theorem dden_lt {e : Int} {k : Nat} (he : -400 ≤ e) (hk : 60 ≤ k) : dden e < spow k :=
 spow_of_ten (p := (-e).toNat + 1) (by rw [dden_eq]; exact Nat.pow_lt_pow_right (by omega) (by omega)) (by omega)

theorem dnum_lt2 {z e : Int} {p k : Nat} (h : z.natAbs < 10 ^ p) (hp : p ≤ 500) (he : e ≤ 400) (hk : 110 ≤ k) : (dnum z e).natAbs < spow k :=
 spow_of_ten (p := p + e.toNat) (by
  rw [dnum_abs, Nat.pow_add]
  exact Nat.mul_lt_mul_of_lt_of_le h (Nat.le_refl _) (Nat.pow_pos (by omega))) (by omega)

theorem qN_lt {z1 e1 z2 e2 : Int} (h1 : z1.natAbs < 10 ^ 60) (he1 : e1 ≤ 60) (he2 : -60 ≤ e2) : (qN z1 e1 z2 e2).natAbs < 10 ^ 180 := by
 have e0 : (10 : Nat) ^ 180 = 10 ^ 60 * 10 ^ 120 := by rw [← Nat.pow_add]
 rw [qN_abs, e0]
 exact Nat.mul_lt_mul_of_lt_of_le h1 (Nat.pow_le_pow_right (by omega) (by omega)) (Nat.pow_pos (by omega))

theorem qD_lt {e1 z2 e2 : Int} (h2 : z2.natAbs < 10 ^ 60) (he1 : -60 ≤ e1) (he2 : e2 ≤ 60) : dden e1 * (dnum z2 e2).natAbs < 10 ^ 200 := by
 have h3 := dnum_lt h2 he2
 have h4 := dden_le he1
 refine Nat.lt_of_lt_of_le (Nat.mul_lt_mul_of_le_of_lt h4 h3 (Nat.pow_pos (by omega))) ?_
 rw [← Nat.pow_add]
 exact Nat.pow_le_pow_right (by omega) (by omega)

theorem dnum_zero {z e : Int} : dnum z e = 0 ↔ z = 0 := by
 have h := dnum_abs z e
 have hp : 0 < 10 ^ e.toNat := Nat.pow_pos (by omega)
 constructor
 · intro h0
   rw [h0] at h
   rcases Nat.mul_eq_zero.1 h.symm with h' | h' <;> omega
 · intro h0
   subst h0
   rw [Int.natAbs_zero, Nat.zero_mul] at h
   omega

theorem RoundQ_any (way : Int) (ru : Bool → Int → Bool → Bool) (hro : ∀ neg h odd W, Calls Tryz.prog 52 #[.int .i64 way, .bool neg, .int .i64 h, .bool odd] W (fun e w' => e = .returned (.bool (ru neg h odd)) ∧ w' = W))
 (xw : Value) (z1 e1 z2 e2 p : Int) (w : World) (hx : SFr w xw (qN z1 e1 z2 e2) (dden e1 * (dnum z2 e2).natAbs)) (hz1 : z1.natAbs < 10 ^ 60) (hz2 : z2.natAbs < 10 ^ 60) (h0 : z2 ≠ 0) (he1 : -60 ≤ e1 ∧ e1 ≤ 60) (he2 : -60 ≤ e2 ∧ e2 ≤ 60) (hp : -100 ≤ p ∧ p ≤ 100) :
 Calls Tryz.prog 17 #[xw, .int .i64 p, .int .i64 way] w (RdIRet w (sgnN (qN z1 e1 z2 e2) (rdW ru (decide (qN z1 e1 z2 e2 < 0)) (qA z1 (e1 - e2 + p)).natAbs (qB z2 (e1 - e2 + p)).natAbs)) (-p)) := by
 have h1 : (qN z1 e1 z2 e2).natAbs < spow 300 := spow_of_ten (qN_lt hz1 he1.2 he2.1) (by omega)
 have h2 : dden e1 * (dnum z2 e2).natAbs < spow 300 := spow_of_ten (qD_lt hz2 he1.1 he2.2) (by omega)
 have h3 : 0 < dden e1 * (dnum z2 e2).natAbs := Nat.mul_pos (dden_pos _) (by have := (not_congr (dnum_zero (z := z2) (e := e2))).2 h0; omega)
 by_cases h : 0 ≤ p
 · obtain ⟨k, rfl⟩ := Int.eq_ofNat_of_zero_le h
   have := RoundW_pos way ru hro xw _ _ k w hx h3 h1 h2 (by omega)
   rw [rdq_pos] at this
   exact this
 · obtain ⟨k, hk⟩ : ∃ k : Nat, -p = (k : Int) := ⟨(-p).toNat, by omega⟩
   have := RoundW_neg way ru hro xw _ _ k p hk (by omega) w hx h3 h1 h2 (by omega)
   rw [rdq_neg, show e1 - e2 - (k : Int) = e1 - e2 + p by omega] at this
   rw [hk]; exact this

theorem says_tail (P : Nat) (hP : P ≤ 500) (hP0 : 0 < P) (zr er q n : Int) (hzr : zr.natAbs < 10 ^ P) (her : -400 ≤ er ∧ er ≤ 400) (hq : q.natAbs < 10 ^ P) (hn : -400 ≤ n ∧ n ≤ 400) (heq : dnum zr er * (dden n : Int) = dnum q n * (dden er : Int)) :
 (∀ x W, RdI W x q n → Calls Tryz.prog 18 #[x] W (FRet W (dnum q n) (dden n))) ∧
 (∀ x W, SFr W x (dnum q n) (dden n) → Calls Tryz.prog 16 #[.agg #[.string (bstr (wdig zr)), .int .i64 er], x] W (fun r w' => r = .returned (.bool true) ∧ Fresh W w')) :=
 ⟨fun x W hx => DecFracI_any x q n W hx (spow_of_ten hq (by omega)) (by omega),
  fun x W hx => Says_any zr er _ _ x W (Nat.le_trans (wdig_len_le hzr hP0) (by omega)) (spow_of_ten hzr (by omega)) (by omega) hx
   (dnum_lt2 hzr hP her.2 (by omega)) (dnum_lt2 hq hP hn.2 (by omega)) (dden_lt her.1 (by omega)) (dden_lt hn.1 (by omega)) heq⟩

theorem rd_lt {ru : Bool → Int → Bool → Bool} {neg : Bool} {s : Int} {a b P : Nat} (h : a < 10 ^ P) : (sgnN s (rdW ru neg a b)).natAbs < 10 ^ (P + 1) := by
 rw [sgnN_abs]
 have h1 := rdW_le (ru := ru) (neg := neg) a b
 rw [Nat.pow_succ]
 generalize 10 ^ P = K at *
 omega

theorem scaledP_lt {z d : Int} {P : Nat} (hz : z.natAbs < 10 ^ 60) (hd : d.toNat + 60 ≤ P) : z.natAbs * 10 ^ d.toNat < 10 ^ P := by
 refine Nat.lt_of_lt_of_le (Nat.mul_lt_mul_of_lt_of_le hz (Nat.le_refl _) (Nat.pow_pos (by omega))) ?_
 rw [← Nat.pow_add]
 exact Nat.pow_le_pow_right (by omega) (by omega)

theorem mg_eq {B d k V X1 X0 q f : Nat} (hV : V * d + k = B * B) (hd : d ≤ B) (hq : q * B + f = V * X1 + X0) :
 d * q * B + (X1 * k + X0 * (B - d) + d * f) = (X1 * B + X0) * B := by
 obtain ⟨m, hm⟩ : ∃ m, B = d + m := ⟨B - d, by omega⟩
 rw [show B - d = m by omega]
 grind

theorem mg_bound {B d k V X1 X0 q f : Nat} (hV : V * d + k = B * B) (hk : k ≤ d) (hd : d ≤ B) (hd0 : 0 < d) (h1 : X1 < d) (h0 : X0 < B) (hq : q * B + f = V * X1 + X0) (hf : f < B) :
 d * q ≤ X1 * B + X0 ∧ X1 * B + X0 < d * q + (B + d) := by
 have e := mg_eq hV hd hq
 have hB : 0 < B := by omega
 constructor
 · exact Nat.le_of_mul_le_mul_right (by omega) hB
 · refine Nat.lt_of_mul_lt_mul_right (a := B) ?_
   rw [← e, Nat.add_mul, Nat.add_mul]
   have a1 : X1 * k ≤ (d - 1) * d := Nat.mul_le_mul (by omega) hk
   have a2 : X0 * (B - d) ≤ (B - 1) * (B - d) := Nat.mul_le_mul_right _ (by omega)
   have a3 : d * f ≤ d * (B - 1) := Nat.mul_le_mul_left _ (by omega)
   obtain ⟨m, hm⟩ : ∃ m, B = d + m := ⟨B - d, by omega⟩
   obtain ⟨p, hp⟩ : ∃ p, d = p + 1 := ⟨d - 1, by omega⟩
   subst hm
   subst hp
   rw [show p + 1 - 1 = p by omega] at a1
   rw [show p + 1 + m - (p + 1) = m by omega, show p + 1 + m - 1 = p + m by omega] at a2
   rw [show p + 1 + m - 1 = p + m by omega] at a3
   rw [show p + 1 + m - (p + 1) = m by omega]
   have b1 : p * (p + 1) = p * p + p := by grind
   have b2 : (p + m) * m = p * m + m * m := by grind
   have b3 : (p + 1) * (p + m) = p * p + p * m + p + m := by grind
   have b4 : (p + 1 + m) * (p + 1 + m) = p * p + m * m + 2 * (p * m) + 2 * p + 2 * m + 1 := by grind
   have b5 : (p + 1) * (p + 1 + m) = p * p + p * m + 2 * p + m + 1 := by grind
   omega

theorem mg_fix {B d q X r : Nat} (hX : X = d * q + r) (hr : r < B + d) (hB : B ≤ 2 * d) (hd : d ≤ B) (h0 : 0 < d) :
 ∃ q' r' q'' r'', ((B ≤ r ∧ q' = q + 1 ∧ r' = r - d) ∨ (r < B ∧ q' = q ∧ r' = r)) ∧ r' < B ∧ ((d ≤ r' ∧ q'' = q' + 1 ∧ r'' = r' - d) ∨ (r' < d ∧ q'' = q' ∧ r'' = r')) ∧ X = d * q'' + r'' ∧ r'' < d := by
 have e1 : d * (q + 1) = d * q + d := by rw [Nat.mul_add, Nat.mul_one]
 have e2 : d * (q + 1 + 1) = d * q + d + d := by rw [Nat.mul_add, e1, Nat.mul_one]
 by_cases h : B ≤ r
 · by_cases h2 : d ≤ r - d
   · exact ⟨q + 1, r - d, q + 1 + 1, r - d - d, .inl ⟨h, rfl, rfl⟩, by omega, .inl ⟨h2, rfl, rfl⟩, by omega, by omega⟩
   · exact ⟨q + 1, r - d, q + 1, r - d, .inl ⟨h, rfl, rfl⟩, by omega, .inr ⟨by omega, rfl, rfl⟩, by omega, by omega⟩
 · by_cases h2 : d ≤ r
   · exact ⟨q, r, q + 1, r - d, .inr ⟨by omega, rfl, rfl⟩, by omega, .inl ⟨h2, rfl, rfl⟩, by omega, by omega⟩
   · exact ⟨q, r, q, r, .inr ⟨by omega, rfl, rfl⟩, by omega, .inr ⟨by omega, rfl, rfl⟩, by omega, by omega⟩

theorem kn_start {b y1 y0 u q rh : Nat} (hy0 : y0 < b) (hb : b ≤ 2 * y1) (hu : u < y1 * b + y0) (hq : q * y1 + rh = u) : q ≤ b + 1 := by
 rcases Nat.lt_or_ge (b + 1) q with h | h
 · exfalso
   have h1 : (b + 2) * y1 ≤ q * y1 := Nat.mul_le_mul_right _ (by omega)
   have h2 : (b + 2) * y1 = y1 * b + 2 * y1 := by rw [Nat.add_mul, Nat.mul_comm b]
   omega
 · exact h

theorem kn_great {b y1 y0 u u1 q rh Q : Nat} (hq : q * y1 + rh = u) (hQ : Q * (y1 * b + y0) ≤ u * b + u1) (hQ2 : Q < b) (h : b ≤ q ∨ b * rh + u1 < q * y0) : Q ≤ q - 1 := by
 rcases h with h | h
 · omega
 · have h1 : u * b + u1 < q * (y1 * b + y0) := by
    have : q * (y1 * b + y0) = (q * y1 + rh) * b - b * rh + q * y0 := by
     have : (q * y1 + rh) * b = q * (y1 * b) + b * rh := by rw [Nat.add_mul, Nat.mul_assoc, Nat.mul_comm rh]
     rw [this, Nat.add_sub_cancel, Nat.mul_add]
    have h2 : (q * y1 + rh) * b = q * (y1 * b) + b * rh := by rw [Nat.add_mul, Nat.mul_assoc, Nat.mul_comm rh]
    rw [← hq]
    omega
   have h3 : Q < q := by
    rcases Nat.lt_or_ge Q q with h4 | h4
    · exact h4
    · exfalso
      have h5 := Nat.mul_le_mul_right (y1 * b + y0) h4
      omega
   omega

theorem kn_end {b y1 y0 u u1 q rh : Nat} (hq : q * y1 + rh = u) (h : q * y0 ≤ b * rh + u1) : q * (y1 * b + y0) ≤ u * b + u1 := by
 have h2 : (q * y1 + rh) * b = q * (y1 * b) + b * rh := by rw [Nat.add_mul, Nat.mul_assoc, Nat.mul_comm rh]
 rw [← hq, h2, Nat.mul_add]
 omega

theorem kn_far {b y0 q rh u1 : Nat} (hy0 : y0 < b) (hq : q ≤ b) (hr : b ≤ rh) : q * y0 ≤ b * rh + u1 := by
 have h1 : q * y0 ≤ b * b := Nat.mul_le_mul hq (by omega)
 have h2 : b * b ≤ b * rh := Nat.mul_le_mul_left _ hr
 omega

theorem kn_is {Y U q Q : Nat} (hY : 0 < Y) (hQ : Q = U / Y) (h1 : Q ≤ q) (h2 : q * Y ≤ U) : q = Q := by
 have : q ≤ U / Y := by rw [Nat.le_div_iff_mul_le hY]; exact h2
 omega

theorem kd_top {b v1 v2 p vr V u0 u1 u2 ur U : Nat} (hV : V = (v1 * b + v2) * p + vr) (hvr : vr < p) (hv2 : v2 < b) (hU : U = ((u0 * b + u1) * b + u2) * p + ur) (hlt : U < V * b) : u0 ≤ v1 := by
 rcases Nat.lt_or_ge v1 u0 with h | h
 · exfalso
   have hb : 0 < b := by omega
   have a1 : (v1 + 1) * b * b * p ≤ ((u0 * b + u1) * b + u2) * p := Nat.mul_le_mul_right p (by
    have h1 := Nat.mul_le_mul_right b (Nat.mul_le_mul_right b (show v1 + 1 ≤ u0 from h))
    have h2 := Nat.mul_le_mul_right b (Nat.le_add_right (u0 * b) u1)
    omega)
   have a2 : V < (v1 * b + v2 + 1) * p := by rw [hV, Nat.add_mul (v1 * b + v2) 1 p]; omega
   have a3 : (v1 * b + v2 + 1) * p * b ≤ (v1 + 1) * b * p * b := Nat.mul_le_mul_right b (Nat.mul_le_mul_right p (by rw [Nat.add_mul, Nat.one_mul]; omega))
   have a4 := Nat.mul_lt_mul_of_pos_right a2 hb
   have a5 : (v1 + 1) * b * p * b = (v1 + 1) * b * b * p := Nat.mul_right_comm _ _ _
   omega
 · exact h

theorem kd_max {b v1 v2 p vr V u1 u2 ur U : Nat} (hV : V = (v1 * b + v2) * p + vr) (hvr : vr < p) (hv2 : v2 < b) (hb : b ≤ 2 * v1) (hU : U = ((v1 * b + u1) * b + u2) * p + ur) (hlt : U < V * b) :
 U / V ≤ b - 1 ∧ b - 1 ≤ U / V + 1 := by
 have hb0 : 0 < b := by omega
 have hp : 0 < p := by omega
 have hvp : 0 < v1 := by omega
 have hV0 : 0 < V := by
  rw [hV]
  have : 1 * 1 ≤ (v1 * b + v2) * p := Nat.mul_le_mul (by have := Nat.mul_le_mul hvp hb0; omega) hp
  omega
 constructor
 · have : U / V < b := by rw [Nat.div_lt_iff_lt_mul hV0, Nat.mul_comm]; exact hlt
   exact Nat.le_sub_one_of_lt this
 · rcases Nat.lt_or_ge b 2 with h | h
   · generalize U / V = x; omega
   · obtain ⟨c, rfl⟩ : ∃ c, b = c + 2 := ⟨b - 2, by omega⟩
     have a2 : V ≤ (v1 + 1) * (c + 2) * p := by
      have h1 : V < (v1 * (c + 2) + v2 + 1) * p := by rw [hV, Nat.add_mul (v1 * (c + 2) + v2) 1 p]; omega
      have h2 : (v1 * (c + 2) + v2 + 1) * p ≤ (v1 + 1) * (c + 2) * p := Nat.mul_le_mul_right p (by rw [Nat.add_mul, Nat.one_mul]; omega)
      omega
     have a3 : c * (v1 + 1) ≤ v1 * (c + 2) := by
      rw [Nat.mul_add, Nat.mul_add, Nat.mul_comm c v1]; omega
     have a4 : c * V ≤ v1 * (c + 2) * ((c + 2) * p) := by
      have h1 := Nat.mul_le_mul_left c a2
      have h2 : c * ((v1 + 1) * (c + 2) * p) = c * (v1 + 1) * ((c + 2) * p) := by rw [Nat.mul_assoc (v1 + 1), Nat.mul_assoc]
      have h3 := Nat.mul_le_mul_right ((c + 2) * p) a3
      omega
     have a5 : v1 * (c + 2) * ((c + 2) * p) ≤ U := by
      have h1 : v1 * (c + 2) * ((c + 2) * p) = v1 * (c + 2) * (c + 2) * p := by rw [← Nat.mul_assoc]
      have h2 : v1 * (c + 2) * (c + 2) * p ≤ ((v1 * (c + 2) + u1) * (c + 2) + u2) * p := Nat.mul_le_mul_right p (by
       have := Nat.mul_le_mul_right (c + 2) (Nat.le_add_right (v1 * (c + 2)) u1)
       omega)
      omega
     have : c ≤ U / V := by rw [Nat.le_div_iff_mul_le hV0]; omega
     exact Nat.succ_le_succ this

theorem kd_three {b V2 p vr V U3 ur U q : Nat} (hV : V = V2 * p + vr) (hvr : vr < p) (hV2 : b ≤ V2) (hU : U = U3 * p + ur) (hur : ur < p) (h1 : U3 / V2 ≤ q) (h2 : q * V2 ≤ U3) (hq : q < b) :
 U / V ≤ q ∧ q ≤ U / V + 1 := by
 have hb0 : 0 < b := by omega
 have hV20 : 0 < V2 := by omega
 have hp : 0 < p := by omega
 have hV0 : 0 < V := by
  have : 1 * 1 ≤ V2 * p := Nat.mul_le_mul hV20 hp
  omega
 constructor
 · have e1 : U3 < (q + 1) * V2 := by
    have := Nat.lt_mul_of_div_lt (show U3 / V2 < q + 1 by omega) hV20
    exact this
   have e2 : (U3 + 1) * p ≤ (q + 1) * V2 * p := Nat.mul_le_mul_right p e1
   have e3 : (q + 1) * V2 * p ≤ (q + 1) * V := by rw [Nat.mul_assoc, hV]; exact Nat.mul_le_mul_left _ (by omega)
   have e4 : U < (U3 + 1) * p := by rw [hU, Nat.add_mul]; omega
   have : U / V < q + 1 := by rw [Nat.div_lt_iff_lt_mul hV0]; omega
   exact Nat.le_of_lt_succ this
 · rcases Nat.eq_zero_or_pos q with h | h
   · rw [h]; exact Nat.zero_le _
   · obtain ⟨c, rfl⟩ : ∃ c, q = c + 1 := ⟨q - 1, by omega⟩
     have e1 : (c + 1) * V2 * p ≤ U := by
      have := Nat.mul_le_mul_right p h2
      omega
     have e2 : (c + 1) * V = (c + 1) * V2 * p + (c + 1) * vr := by rw [hV, Nat.mul_add, Nat.mul_assoc]
     have e3 : (c + 1) * vr ≤ b * p := Nat.mul_le_mul (by omega) (by omega)
     have e4 : b * p ≤ V2 * p := Nat.mul_le_mul_right p hV2
     have e5 : (c + 1) * V = c * V + V := by rw [Nat.add_mul, Nat.one_mul]
     have : c ≤ U / V := by rw [Nat.le_div_iff_mul_le hV0]; omega
     exact Nat.succ_le_succ this

theorem val_snoc (l : List Nat) (x : Nat) : val (l ++ [x]) = val l + wpow l.length * x := by
 rw [val_append]; simp [val]

theorem last_split {D : List Nat} {n : Nat} (h : D.length = n + 1) : D = D.take n ++ [D.getD n 0] ∧ (D.take n).length = n := by
 refine ⟨?_, by simp; omega⟩
 have := List.take_succ_eq_append_getElem (l := D) (i := n) (by omega)
 rw [List.take_of_length_le (by omega)] at this
 rw [show D.getD n 0 = D[n] by simp [List.getD, h]]
 exact this

theorem top_zero {D : List Nat} {n : Nat} (h : D.length = n + 1) (hv : val D < wpow n) : D = D.take n ++ [0] ∧ val (D.take n) = val D := by
 obtain ⟨e, hl⟩ := last_split h
 have e2 : val D = val (D.take n) + wpow n * D.getD n 0 := by
  have := val_snoc (D.take n) (D.getD n 0)
  rw [← e, hl] at this; exact this
 have h0 : D.getD n 0 = 0 := by
  rcases Nat.eq_zero_or_pos (D.getD n 0) with h | h
  · exact h
  · have : wpow n * 1 ≤ wpow n * D.getD n 0 := Nat.mul_le_mul_left _ h
    omega
 rw [h0] at e e2
 exact ⟨e, by omega⟩

def kdP (v : List Nat) (q : Nat) : List Nat := (mulVs v q 0).1 ++ [(mulVs v q 0).2]

theorem kdP_length (v : List Nat) (q : Nat) : (kdP v q).length = v.length + 1 := by simp [kdP, mulVs_length]

theorem kdP_val (v : List Nat) (q : Nat) : val (kdP v q) = val v * q := by
 have := mulVs_val v q 0
 rw [kdP, val_snoc, mulVs_length]; omega

theorem kdP_lt {v : List Nat} {q : Nat} (hv : ∀ a ∈ v, a < 18446744073709551616) (hq : q < 18446744073709551616) : ∀ a ∈ kdP v q, a < 18446744073709551616 := by
 intro a ha
 simp only [kdP, List.mem_append, List.mem_singleton] at ha
 rcases ha with ha | rfl
 · exact mulVs_lt v q 0 a ha
 · exact mulVs_carry v q 0 hv hq (by omega)

theorem kd_fine {v W : List Nat} {n q : Nat} (hW : W.length = n + 1) (hv : v.length = n) (hWb : ∀ a ∈ W, a < 18446744073709551616) (hvb : ∀ a ∈ v, a < 18446744073709551616) (hqb : q < 18446744073709551616)
 (h0 : 0 < val v) (h1 : val W / val v ≤ q) (hc : (subVs W (kdP v q) 0).2 = 0) :
 q = val W / val v ∧ (subVs W (kdP v q) 0).1 = (subVs W (kdP v q) 0).1.take n ++ [0] ∧ val ((subVs W (kdP v q) 0).1.take n) = val W % val v := by
 have hl := subVs_length W (kdP v q) 0 (by rw [hW, kdP_length, hv])
 have e := subVs_val W (kdP v q) 0 (by rw [hW, kdP_length, hv]) hWb (kdP_lt hvb hqb) (by omega)
 rw [hc, kdP_val] at e
 generalize (subVs W (kdP v q) 0).1 = D at *
 have hq : q = val W / val v := by
  have : q ≤ val W / val v := by rw [Nat.le_div_iff_mul_le h0, Nat.mul_comm]; omega
  omega
 have hd := Nat.div_add_mod (val W) (val v)
 rw [← hq] at hd
 have hm := Nat.mod_lt (val W) h0
 have hvl := val_lt hvb
 rw [hv] at hvl
 have hD : val D = val W % val v := by omega
 obtain ⟨t1, t2⟩ := top_zero (n := n) (by rw [hl, hW]) (by omega)
 exact ⟨hq, t1, by rw [t2, hD]⟩

theorem kd_back {v W : List Nat} {n q : Nat} (hW : W.length = n + 1) (hv : v.length = n) (hWb : ∀ a ∈ W, a < 18446744073709551616) (hvb : ∀ a ∈ v, a < 18446744073709551616) (hqb : q < 18446744073709551616)
 (h0 : 0 < val v) (h2 : q ≤ val W / val v + 1) (hc : (subVs W (kdP v q) 0).2 = 1) :
 q = val W / val v + 1 ∧ val (addVs ((subVs W (kdP v q) 0).1.take n) v 0).1 = val W % val v ∧
  ((subVs W (kdP v q) 0).1.getD n 0 + (addVs ((subVs W (kdP v q) 0).1.take n) v 0).2) % 18446744073709551616 = 0 := by
 have hl := subVs_length W (kdP v q) 0 (by rw [hW, kdP_length, hv])
 have hDb := subVs_lt W (kdP v q) 0
 have e := subVs_val W (kdP v q) 0 (by rw [hW, kdP_length, hv]) hWb (kdP_lt hvb hqb) (by omega)
 rw [hc, kdP_val] at e
 generalize (subVs W (kdP v q) 0).1 = D at *
 obtain ⟨hs, hsl⟩ := last_split (show D.length = n + 1 by rw [hl, hW])
 have hDv := val_lt hDb
 rw [hl, hW] at hDv
 rw [hW] at e
 have hq : q = val W / val v + 1 := by
  rcases Nat.lt_or_ge q (val W / val v + 1) with h | h
  · exfalso
    have h3 : q * val v ≤ val W := by
     rw [← Nat.le_div_iff_mul_le h0]; omega
    rw [Nat.mul_comm] at h3
    omega
  · omega
 have hd := Nat.div_add_mod (val W) (val v)
 have hm := Nat.mod_lt (val W) h0
 have hvl := val_lt hvb
 rw [hv] at hvl
 have ea := addVs_val (D.take n) v 0 (by rw [hsl, hv])
 have hal := addVs_lt (D.take n) v 0
 have hall := addVs_length (D.take n) v 0 (by rw [hsl, hv])
 rw [hsl] at hall ea
 have hSv := val_lt hal
 rw [hall] at hSv
 have hDs : val D = val (D.take n) + wpow n * D.getD n 0 := by
  have := val_snoc (D.take n) (D.getD n 0)
  rw [← hs, hsl] at this; exact this
 have hDn : D.getD n 0 < 18446744073709551616 := getD_lt hDb pos64 n
 generalize (addVs (D.take n) v 0).1 = S at *
 generalize hc2 : (addVs (D.take n) v 0).2 = c2 at *
 have hc1 : c2 ≤ 1 := by rw [← hc2]; exact addVs_carry _ _ _ (fun a ha => hDb a (List.mem_of_mem_take ha)) hvb (by omega)
 generalize D.getD n 0 = t at *
 generalize val (D.take n) = d at *
 have hw := wpow_succ n
 have hsum : val S + wpow n * (c2 + t) = wpow n * 18446744073709551616 + val W % val v := by
  rw [Nat.mul_add]
  have : val v * q = val v * (val W / val v) + val v := by rw [hq, Nat.mul_add, Nat.mul_one]
  rw [Nat.mul_comm (wpow n) 18446744073709551616, ← hw]
  omega
 generalize val W % val v = r at *
 have hp := wpow_pos n
 have hct : c2 + t = 18446744073709551616 := by
  rcases Nat.lt_trichotomy (c2 + t) 18446744073709551616 with h | h | h
  · have : wpow n * (c2 + t + 1) ≤ wpow n * 18446744073709551616 := Nat.mul_le_mul_left _ h
    rw [Nat.mul_add, Nat.mul_one] at this
    omega
  · exact h
  · have : wpow n * (18446744073709551616 + 1) ≤ wpow n * (c2 + t) := Nat.mul_le_mul_left _ h
    rw [Nat.mul_add, Nat.mul_one] at this
    omega
 refine ⟨hq, ?_, ?_⟩
 · rw [hct] at hsum; omega
 · rw [Nat.add_comm, hct]

theorem kd_next {x Q V : Nat} {R Qs : List Nat} (_hR : R.length = Qs.length ∨ True) (h : val (x :: R) / V = Q) (U' : Nat) (hU : U' = val Qs * V + val R) :
 x + 18446744073709551616 * U' = val (Q :: Qs) * V + val (x :: R) % V := by
 subst hU
 have hd := Nat.div_add_mod (val (x :: R)) V
 rw [h] at hd
 simp only [val] at *
 rw [Nat.add_mul, Nat.mul_add, Nat.mul_assoc]
 rw [Nat.mul_comm V Q] at hd
 omega

def lenTab : ByteArray := { data := #[0, 1, 2, 2, 3, 3, 3, 3, 4, 4, 4, 4, 4, 4, 4, 4, 5, 5, 5, 5, 5, 5, 5, 5, 5, 5, 5, 5, 5, 5, 5, 5, 6, 6, 6, 6, 6, 6, 6, 6, 6, 6, 6, 6, 6, 6, 6, 6, 6, 6, 6, 6, 6, 6, 6, 6, 6, 6, 6, 6, 6, 6, 6, 6, 7, 7, 7, 7, 7, 7, 7, 7, 7, 7, 7, 7, 7, 7, 7, 7, 7, 7, 7, 7, 7, 7, 7, 7, 7, 7, 7, 7, 7, 7, 7, 7, 7, 7, 7, 7, 7, 7, 7, 7, 7, 7, 7, 7, 7, 7, 7, 7, 7, 7, 7, 7, 7, 7, 7, 7, 7, 7, 7, 7, 7, 7, 7, 7, 8, 8, 8, 8, 8, 8, 8, 8, 8, 8, 8, 8, 8, 8, 8, 8, 8, 8, 8, 8, 8, 8, 8, 8, 8, 8, 8, 8, 8, 8, 8, 8, 8, 8, 8, 8, 8, 8, 8, 8, 8, 8, 8, 8, 8, 8, 8, 8, 8, 8, 8, 8, 8, 8, 8, 8, 8, 8, 8, 8, 8, 8, 8, 8, 8, 8, 8, 8, 8, 8, 8, 8, 8, 8, 8, 8, 8, 8, 8, 8, 8, 8, 8, 8, 8, 8, 8, 8, 8, 8, 8, 8, 8, 8, 8, 8, 8, 8, 8, 8, 8, 8, 8, 8, 8, 8, 8, 8, 8, 8, 8, 8, 8, 8, 8, 8, 8, 8, 8, 8, 8, 8, 8, 8, 8, 8, 8, 8] }

theorem lenTab_size : lenTab.size = 256 := by decide +kernel

theorem lenTab_all : ∀ i : Fin 256, (lenTab[i.val]'(by rw [lenTab_size]; exact i.isLt)).toNat ≤ 8 ∧ (0 < i.val → i.val < 2 ^ (lenTab[i.val]'(by rw [lenTab_size]; exact i.isLt)).toNat ∧ 2 ^ (lenTab[i.val]'(by rw [lenTab_size]; exact i.isLt)).toNat ≤ 2 * i.val) := by decide +kernel

theorem lenTab_at (y : Nat) (hy : y < 256) (h : y < lenTab.size) (h0 : 0 < y) : lenTab[y].toNat ≤ 8 ∧ y < 2 ^ lenTab[y].toNat ∧ 2 ^ lenTab[y].toNat ≤ 2 * y := by
 obtain ⟨h1, h2⟩ := lenTab_all ⟨y, hy⟩
 exact ⟨h1, h2 h0⟩

theorem wrap64_nat (n : Nat) (h : n < 1000) : wrap64 (n : Int) = (n : Int) := by unfold wrap64; omega

theorem len_fin (t n : Nat) (h : t ≤ 8) (hn : n ≤ 56) : wrap64 ((n : Int) + wrap64 (t : Int)) = ((n + t : Nat) : Int) ∧ wrap64 (wrap64 (t : Int)) = ((0 + t : Nat) : Int) := by
 have h1 := wrap64_nat t (by omega)
 have h2 := wrap64_nat (n + t) (by omega)
 refine ⟨?_, ?_⟩
 · rw [h1, show (n : Int) + (t : Int) = ((n + t : Nat) : Int) from by omega]; exact h2
 · rw [h1, h1, Nat.zero_add]

def BitLen (x n : Nat) : Prop := x < 2 ^ n ∧ 2 ^ n ≤ 2 * x ∧ n ≤ 64

theorem bitLen_shift {x y S k t : Nat} (hS : S = 2 ^ k) (h1 : y * S ≤ x) (h2 : x < (y + 1) * S) (h3 : y < 2 ^ t) (h4 : 2 ^ t ≤ 2 * y) (hk : k + t ≤ 64) : BitLen x (k + t) := by
 have e : 2 ^ (k + t) = 2 ^ t * S := by rw [hS, ← Nat.pow_add, Nat.add_comm]
 refine ⟨?_, ?_, hk⟩
 · rw [e]
   exact Nat.lt_of_lt_of_le h2 (Nat.mul_le_mul_right _ h3)
 · rw [e]
   have := Nat.mul_le_mul_right S h4
   rw [Nat.mul_assoc] at this
   omega

theorem Len64_111 (x : Nat) (w : World) (hx : x < 18446744073709551616) (h0 : 0 < x) (h1 : 4294967296 ≤ x) (h2 : 65536 ≤ x / 4294967296) (h3 : 256 ≤ x / 4294967296 / 65536) :
 Calls Tryz.prog 247 #[.int .u64 x] w (fun e w' => ∃ n : Nat, e = .returned (.int .i64 n) ∧ BitLen x n ∧ w' = w) := by
 have t1 : decide ((4294967296 : Int) ≤ (x : Int)) = true := by simp; omega
 obtain ⟨y1, e1⟩ : ∃ y, y = x / 4294967296 := ⟨_, rfl⟩
 have i1 : (x : Int) / 4294967296 = (y1 : Int) := by omega
 rw [← e1] at h2
 have t2 : decide ((65536 : Int) ≤ (y1 : Int)) = true := by simp; omega
 obtain ⟨y2, e2⟩ : ∃ y, y = y1 / 65536 := ⟨_, rfl⟩
 have i2 : (y1 : Int) / 65536 = (y2 : Int) := by omega
 rw [← e1] at h3
 rw [← e2] at h3
 have t3 : decide ((256 : Int) ≤ (y2 : Int)) = true := by simp; omega
 obtain ⟨y3, e3⟩ : ∃ y, y = y2 / 256 := ⟨_, rfl⟩
 have i3 : (y2 : Int) / 256 = (y3 : Int) := by omega
 have hy : y3 < 256 := by omega
 have hy0 : 0 < y3 := by omega
 have hb : y3 * 72057594037927936 ≤ x ∧ x < (y3 + 1) * 72057594037927936 := by omega
 clear e1 e2 e3
 have H_hb := hid hb
 clear hb
 go_enter Tryz.func247, Tryz.ntmps247
 go_wp2
 go_ret
 have hsz : y3 < lenTab.size := by rw [lenTab_size]; exact hy
 obtain ⟨a1, a2, a3⟩ := lenTab_at y3 hy hsz hy0
 refine ⟨56 + lenTab[y3].toNat, ?_, bitLen_shift (S := 72057594037927936) (k := 56) rfl H_hb.out.1 H_hb.out.2 a2 a3 (Nat.le_trans (Nat.add_le_add_left a1 56) (by decide)), rfl⟩
 generalize ht : lenTab[y3].toNat = t at *
 change Ending.returned (Value.int IntKind.i64 (wrap64 (((56 : Nat) : Int) + wrap64 ((lenTab[y3].toNat : Nat) : Int)))) = _
 rw [ht]
 exact congrArg (fun z => Ending.returned (Value.int IntKind.i64 z)) (len_fin t 56 a1 (by decide)).1

theorem Len64_110 (x : Nat) (w : World) (hx : x < 18446744073709551616) (h0 : 0 < x) (h1 : 4294967296 ≤ x) (h2 : 65536 ≤ x / 4294967296) (h3 : x / 4294967296 / 65536 < 256) :
 Calls Tryz.prog 247 #[.int .u64 x] w (fun e w' => ∃ n : Nat, e = .returned (.int .i64 n) ∧ BitLen x n ∧ w' = w) := by
 have t1 : decide ((4294967296 : Int) ≤ (x : Int)) = true := by simp; omega
 obtain ⟨y1, e1⟩ : ∃ y, y = x / 4294967296 := ⟨_, rfl⟩
 have i1 : (x : Int) / 4294967296 = (y1 : Int) := by omega
 rw [← e1] at h2
 have t2 : decide ((65536 : Int) ≤ (y1 : Int)) = true := by simp; omega
 obtain ⟨y2, e2⟩ : ∃ y, y = y1 / 65536 := ⟨_, rfl⟩
 have i2 : (y1 : Int) / 65536 = (y2 : Int) := by omega
 rw [← e1] at h3
 rw [← e2] at h3
 have t3 : decide ((256 : Int) ≤ (y2 : Int)) = false := by simp; omega
 have t3n : ¬ 256 ≤ y2 := by omega
 have hy : y2 < 256 := by omega
 have hy0 : 0 < y2 := by omega
 have hb : y2 * 281474976710656 ≤ x ∧ x < (y2 + 1) * 281474976710656 := by omega
 clear e1 e2
 have H_hb := hid hb
 clear hb
 go_enter Tryz.func247, Tryz.ntmps247
 go_wp2
 go_ret
 have hsz : y2 < lenTab.size := by rw [lenTab_size]; exact hy
 obtain ⟨a1, a2, a3⟩ := lenTab_at y2 hy hsz hy0
 refine ⟨48 + lenTab[y2].toNat, ?_, bitLen_shift (S := 281474976710656) (k := 48) rfl H_hb.out.1 H_hb.out.2 a2 a3 (Nat.le_trans (Nat.add_le_add_left a1 48) (by decide)), rfl⟩
 generalize ht : lenTab[y2].toNat = t at *
 change Ending.returned (Value.int IntKind.i64 (wrap64 (((48 : Nat) : Int) + wrap64 ((lenTab[y2].toNat : Nat) : Int)))) = _
 rw [ht]
 exact congrArg (fun z => Ending.returned (Value.int IntKind.i64 z)) (len_fin t 48 a1 (by decide)).1

theorem Len64_101 (x : Nat) (w : World) (hx : x < 18446744073709551616) (h0 : 0 < x) (h1 : 4294967296 ≤ x) (h2 : x / 4294967296 < 65536) (h3 : 256 ≤ x / 4294967296) :
 Calls Tryz.prog 247 #[.int .u64 x] w (fun e w' => ∃ n : Nat, e = .returned (.int .i64 n) ∧ BitLen x n ∧ w' = w) := by
 have t1 : decide ((4294967296 : Int) ≤ (x : Int)) = true := by simp; omega
 obtain ⟨y1, e1⟩ : ∃ y, y = x / 4294967296 := ⟨_, rfl⟩
 have i1 : (x : Int) / 4294967296 = (y1 : Int) := by omega
 rw [← e1] at h2
 have t2 : decide ((65536 : Int) ≤ (y1 : Int)) = false := by simp; omega
 have t2n : ¬ 65536 ≤ y1 := by omega
 rw [← e1] at h3
 have t3 : decide ((256 : Int) ≤ (y1 : Int)) = true := by simp; omega
 obtain ⟨y3, e3⟩ : ∃ y, y = y1 / 256 := ⟨_, rfl⟩
 have i3 : (y1 : Int) / 256 = (y3 : Int) := by omega
 have hy : y3 < 256 := by omega
 have hy0 : 0 < y3 := by omega
 have hb : y3 * 1099511627776 ≤ x ∧ x < (y3 + 1) * 1099511627776 := by omega
 clear e1 e3
 have H_hb := hid hb
 clear hb
 go_enter Tryz.func247, Tryz.ntmps247
 go_wp2
 go_ret
 have hsz : y3 < lenTab.size := by rw [lenTab_size]; exact hy
 obtain ⟨a1, a2, a3⟩ := lenTab_at y3 hy hsz hy0
 refine ⟨40 + lenTab[y3].toNat, ?_, bitLen_shift (S := 1099511627776) (k := 40) rfl H_hb.out.1 H_hb.out.2 a2 a3 (Nat.le_trans (Nat.add_le_add_left a1 40) (by decide)), rfl⟩
 generalize ht : lenTab[y3].toNat = t at *
 change Ending.returned (Value.int IntKind.i64 (wrap64 (((40 : Nat) : Int) + wrap64 ((lenTab[y3].toNat : Nat) : Int)))) = _
 rw [ht]
 exact congrArg (fun z => Ending.returned (Value.int IntKind.i64 z)) (len_fin t 40 a1 (by decide)).1

theorem Len64_100 (x : Nat) (w : World) (hx : x < 18446744073709551616) (h0 : 0 < x) (h1 : 4294967296 ≤ x) (h2 : x / 4294967296 < 65536) (h3 : x / 4294967296 < 256) :
 Calls Tryz.prog 247 #[.int .u64 x] w (fun e w' => ∃ n : Nat, e = .returned (.int .i64 n) ∧ BitLen x n ∧ w' = w) := by
 have t1 : decide ((4294967296 : Int) ≤ (x : Int)) = true := by simp; omega
 obtain ⟨y1, e1⟩ : ∃ y, y = x / 4294967296 := ⟨_, rfl⟩
 have i1 : (x : Int) / 4294967296 = (y1 : Int) := by omega
 rw [← e1] at h2
 have t2 : decide ((65536 : Int) ≤ (y1 : Int)) = false := by simp; omega
 have t2n : ¬ 65536 ≤ y1 := by omega
 rw [← e1] at h3
 have t3 : decide ((256 : Int) ≤ (y1 : Int)) = false := by simp; omega
 have t3n : ¬ 256 ≤ y1 := by omega
 have hy : y1 < 256 := by omega
 have hy0 : 0 < y1 := by omega
 have hb : y1 * 4294967296 ≤ x ∧ x < (y1 + 1) * 4294967296 := by omega
 clear e1
 have H_hb := hid hb
 clear hb
 go_enter Tryz.func247, Tryz.ntmps247
 go_wp2
 go_ret
 have hsz : y1 < lenTab.size := by rw [lenTab_size]; exact hy
 obtain ⟨a1, a2, a3⟩ := lenTab_at y1 hy hsz hy0
 refine ⟨32 + lenTab[y1].toNat, ?_, bitLen_shift (S := 4294967296) (k := 32) rfl H_hb.out.1 H_hb.out.2 a2 a3 (Nat.le_trans (Nat.add_le_add_left a1 32) (by decide)), rfl⟩
 generalize ht : lenTab[y1].toNat = t at *
 change Ending.returned (Value.int IntKind.i64 (wrap64 (((32 : Nat) : Int) + wrap64 ((lenTab[y1].toNat : Nat) : Int)))) = _
 rw [ht]
 exact congrArg (fun z => Ending.returned (Value.int IntKind.i64 z)) (len_fin t 32 a1 (by decide)).1

theorem Len64_011 (x : Nat) (w : World) (hx : x < 18446744073709551616) (h0 : 0 < x) (h1 : x < 4294967296) (h2 : 65536 ≤ x) (h3 : 256 ≤ x / 65536) :
 Calls Tryz.prog 247 #[.int .u64 x] w (fun e w' => ∃ n : Nat, e = .returned (.int .i64 n) ∧ BitLen x n ∧ w' = w) := by
 have t1 : decide ((4294967296 : Int) ≤ (x : Int)) = false := by simp; omega
 have t2 : decide ((65536 : Int) ≤ (x : Int)) = true := by simp; omega
 have t1n : ¬ 4294967296 ≤ x := by omega
 obtain ⟨y2, e2⟩ : ∃ y, y = x / 65536 := ⟨_, rfl⟩
 have i2 : (x : Int) / 65536 = (y2 : Int) := by omega
 rw [← e2] at h3
 have t3 : decide ((256 : Int) ≤ (y2 : Int)) = true := by simp; omega
 obtain ⟨y3, e3⟩ : ∃ y, y = y2 / 256 := ⟨_, rfl⟩
 have i3 : (y2 : Int) / 256 = (y3 : Int) := by omega
 have hy : y3 < 256 := by omega
 have hy0 : 0 < y3 := by omega
 have hb : y3 * 16777216 ≤ x ∧ x < (y3 + 1) * 16777216 := by omega
 clear e2 e3
 have H_hb := hid hb
 clear hb
 go_enter Tryz.func247, Tryz.ntmps247
 go_wp2
 go_ret
 have hsz : y3 < lenTab.size := by rw [lenTab_size]; exact hy
 obtain ⟨a1, a2, a3⟩ := lenTab_at y3 hy hsz hy0
 refine ⟨24 + lenTab[y3].toNat, ?_, bitLen_shift (S := 16777216) (k := 24) rfl H_hb.out.1 H_hb.out.2 a2 a3 (Nat.le_trans (Nat.add_le_add_left a1 24) (by decide)), rfl⟩
 generalize ht : lenTab[y3].toNat = t at *
 change Ending.returned (Value.int IntKind.i64 (wrap64 (((24 : Nat) : Int) + wrap64 ((lenTab[y3].toNat : Nat) : Int)))) = _
 rw [ht]
 exact congrArg (fun z => Ending.returned (Value.int IntKind.i64 z)) (len_fin t 24 a1 (by decide)).1

theorem Len64_010 (x : Nat) (w : World) (hx : x < 18446744073709551616) (h0 : 0 < x) (h1 : x < 4294967296) (h2 : 65536 ≤ x) (h3 : x / 65536 < 256) :
 Calls Tryz.prog 247 #[.int .u64 x] w (fun e w' => ∃ n : Nat, e = .returned (.int .i64 n) ∧ BitLen x n ∧ w' = w) := by
 have t1 : decide ((4294967296 : Int) ≤ (x : Int)) = false := by simp; omega
 have t2 : decide ((65536 : Int) ≤ (x : Int)) = true := by simp; omega
 have t1n : ¬ 4294967296 ≤ x := by omega
 obtain ⟨y2, e2⟩ : ∃ y, y = x / 65536 := ⟨_, rfl⟩
 have i2 : (x : Int) / 65536 = (y2 : Int) := by omega
 rw [← e2] at h3
 have t3 : decide ((256 : Int) ≤ (y2 : Int)) = false := by simp; omega
 have t3n : ¬ 256 ≤ y2 := by omega
 have hy : y2 < 256 := by omega
 have hy0 : 0 < y2 := by omega
 have hb : y2 * 65536 ≤ x ∧ x < (y2 + 1) * 65536 := by omega
 clear e2
 have H_hb := hid hb
 clear hb
 go_enter Tryz.func247, Tryz.ntmps247
 go_wp2
 go_ret
 have hsz : y2 < lenTab.size := by rw [lenTab_size]; exact hy
 obtain ⟨a1, a2, a3⟩ := lenTab_at y2 hy hsz hy0
 refine ⟨16 + lenTab[y2].toNat, ?_, bitLen_shift (S := 65536) (k := 16) rfl H_hb.out.1 H_hb.out.2 a2 a3 (Nat.le_trans (Nat.add_le_add_left a1 16) (by decide)), rfl⟩
 generalize ht : lenTab[y2].toNat = t at *
 change Ending.returned (Value.int IntKind.i64 (wrap64 (((16 : Nat) : Int) + wrap64 ((lenTab[y2].toNat : Nat) : Int)))) = _
 rw [ht]
 exact congrArg (fun z => Ending.returned (Value.int IntKind.i64 z)) (len_fin t 16 a1 (by decide)).1

theorem Len64_001 (x : Nat) (w : World) (hx : x < 18446744073709551616) (h0 : 0 < x) (h1 : x < 4294967296) (h2 : x < 65536) (h3 : 256 ≤ x) :
 Calls Tryz.prog 247 #[.int .u64 x] w (fun e w' => ∃ n : Nat, e = .returned (.int .i64 n) ∧ BitLen x n ∧ w' = w) := by
 have t1 : decide ((4294967296 : Int) ≤ (x : Int)) = false := by simp; omega
 have t2 : decide ((65536 : Int) ≤ (x : Int)) = false := by simp; omega
 have t2n : ¬ 65536 ≤ x := by omega
 have t1n : ¬ 4294967296 ≤ x := by omega
 have t3 : decide ((256 : Int) ≤ (x : Int)) = true := by simp; omega
 obtain ⟨y3, e3⟩ : ∃ y, y = x / 256 := ⟨_, rfl⟩
 have i3 : (x : Int) / 256 = (y3 : Int) := by omega
 have hy : y3 < 256 := by omega
 have hy0 : 0 < y3 := by omega
 have hb : y3 * 256 ≤ x ∧ x < (y3 + 1) * 256 := by omega
 clear e3
 have H_hb := hid hb
 clear hb
 go_enter Tryz.func247, Tryz.ntmps247
 go_wp2
 go_ret
 have hsz : y3 < lenTab.size := by rw [lenTab_size]; exact hy
 obtain ⟨a1, a2, a3⟩ := lenTab_at y3 hy hsz hy0
 refine ⟨8 + lenTab[y3].toNat, ?_, bitLen_shift (S := 256) (k := 8) rfl H_hb.out.1 H_hb.out.2 a2 a3 (Nat.le_trans (Nat.add_le_add_left a1 8) (by decide)), rfl⟩
 generalize ht : lenTab[y3].toNat = t at *
 change Ending.returned (Value.int IntKind.i64 (wrap64 (((8 : Nat) : Int) + wrap64 ((lenTab[y3].toNat : Nat) : Int)))) = _
 rw [ht]
 exact congrArg (fun z => Ending.returned (Value.int IntKind.i64 z)) (len_fin t 8 a1 (by decide)).1

theorem Len64_000 (x : Nat) (w : World) (hx : x < 18446744073709551616) (h0 : 0 < x) (h1 : x < 4294967296) (h2 : x < 65536) (h3 : x < 256) :
 Calls Tryz.prog 247 #[.int .u64 x] w (fun e w' => ∃ n : Nat, e = .returned (.int .i64 n) ∧ BitLen x n ∧ w' = w) := by
 have t1 : decide ((4294967296 : Int) ≤ (x : Int)) = false := by simp; omega
 have t2 : decide ((65536 : Int) ≤ (x : Int)) = false := by simp; omega
 have t2n : ¬ 65536 ≤ x := by omega
 have t1n : ¬ 4294967296 ≤ x := by omega
 have t3 : decide ((256 : Int) ≤ (x : Int)) = false := by simp; omega
 have t3n : ¬ 256 ≤ x := by omega
 have hy : x < 256 := by omega
 have hy0 : 0 < x := by omega
 have hb : x * 1 ≤ x ∧ x < (x + 1) * 1 := by omega
 have H_hb := hid hb
 clear hb
 go_enter Tryz.func247, Tryz.ntmps247
 go_wp2
 go_ret
 have hsz : x < lenTab.size := by rw [lenTab_size]; exact hy
 obtain ⟨a1, a2, a3⟩ := lenTab_at x hy hsz hy0
 refine ⟨0 + lenTab[x].toNat, ?_, bitLen_shift (S := 1) (k := 0) rfl H_hb.out.1 H_hb.out.2 a2 a3 (Nat.le_trans (Nat.add_le_add_left a1 0) (by decide)), rfl⟩
 generalize ht : lenTab[x].toNat = t at *
 change Ending.returned (Value.int IntKind.i64 (wrap64 (wrap64 ((lenTab[x].toNat : Nat) : Int)))) = _
 rw [ht]
 exact congrArg (fun z => Ending.returned (Value.int IntKind.i64 z)) (len_fin t 0 a1 (by decide)).2

theorem Len64_any (x : Nat) (w : World) (hx : x < 18446744073709551616) (h0 : 0 < x) :
 Calls Tryz.prog 247 #[.int .u64 x] w (fun e w' => ∃ n : Nat, e = .returned (.int .i64 n) ∧ BitLen x n ∧ w' = w) := by
 rcases Nat.lt_or_ge x 4294967296 with h1 | h1
 · rcases Nat.lt_or_ge x 65536 with h2 | h2
   · rcases Nat.lt_or_ge x 256 with h3 | h3
     · exact Len64_000 x w hx h0 h1 h2 h3
     · exact Len64_001 x w hx h0 h1 h2 h3
   · rcases Nat.lt_or_ge (x / 65536) 256 with h3 | h3
     · exact Len64_010 x w hx h0 h1 h2 h3
     · exact Len64_011 x w hx h0 h1 h2 h3
 · rcases Nat.lt_or_ge (x / 4294967296) 65536 with h2 | h2
   · rcases Nat.lt_or_ge (x / 4294967296) 256 with h3 | h3
     · exact Len64_100 x w hx h0 h1 h2 h3
     · exact Len64_101 x w hx h0 h1 h2 h3
   · rcases Nat.lt_or_ge (x / 4294967296 / 65536) 256 with h3 | h3
     · exact Len64_110 x w hx h0 h1 h2 h3
     · exact Len64_111 x w hx h0 h1 h2 h3

def Lead (x s : Nat) : Prop := s < 64 ∧ 9223372036854775808 ≤ x * 2 ^ s ∧ x * 2 ^ s < 18446744073709551616

theorem lead_of {x n : Nat} (h0 : 0 < x) (h : BitLen x n) : Lead x (64 - n) := by
 obtain ⟨h1, h2, h3⟩ := h
 have hn : 0 < n := by
  rcases Nat.eq_zero_or_pos n with h | h
  · subst h; omega
  · exact h
 have e : 2 ^ n * 2 ^ (64 - n) = 18446744073709551616 := by rw [← Nat.pow_add, show n + (64 - n) = 64 by omega]
 have hp : 0 < 2 ^ (64 - n) := Nat.pow_pos (by omega)
 refine ⟨by omega, ?_, ?_⟩
 · have := Nat.mul_le_mul_right (2 ^ (64 - n)) h2
   rw [e, Nat.mul_assoc] at this
   omega
 · have := Nat.mul_lt_mul_of_pos_right h1 hp
   rwa [e] at this

theorem LeadingZeros64_any (x : Nat) (w : World) (hx : x < 18446744073709551616) (h0 : 0 < x) :
 Calls Tryz.prog 245 #[.int .u64 x] w (fun e w' => ∃ s : Nat, e = .returned (.int .i64 s) ∧ Lead x s ∧ w' = w) := by
 have hc := Len64_any x w hx h0
 have H_hc := hid hc; clear hc
 go_enter Tryz.func245, Tryz.ntmps245
 go_wp2_with (fail)
 refine H_hc.out.mono ?_
 rintro e w2 ⟨n, rfl, hb, hs⟩
 subst hs
 have hl := lead_of h0 hb
 have hb64 := hb.2.2
 have hI : (64 : Int) - (n : Int) = ((64 - n : Nat) : Int) := by omega
 obtain ⟨s, hs⟩ : ∃ s, s = 64 - n := ⟨_, rfl⟩
 rw [← hs] at hI hl
 clear hs hb
 have H_hl := hid hl; clear hl
 go_wp2_with (fail)
 go_ret
 exact ⟨s, rfl, H_hl.out, rfl⟩

theorem bitsLen_any (x : Nat) (w : World) (hx : x < 18446744073709551616) (h0 : 0 < x) :
 Calls Tryz.prog 232 #[.int .u64 x] w (fun e w' => ∃ n : Nat, e = .returned (.int .i64 n) ∧ BitLen x n ∧ w' = w) := by
 have hc := Len64_any x w hx h0
 have H_hc := hid hc; clear hc
 go_enter Tryz.func232, Tryz.ntmps232
 go_wp2_with (fail)
 refine H_hc.out.mono ?_
 rintro e w2 ⟨n, rfl, hb, hs⟩
 subst hs
 have H_hb := hid hb; clear hb
 go_wp2_with (fail)
 go_ret
 exact ⟨n, rfl, H_hb.out, rfl⟩

theorem LeadingZeros_any (x : Nat) (w : World) (hx : x < 18446744073709551616) (h0 : 0 < x) :
 Calls Tryz.prog 213 #[.int .u64 x] w (fun e w' => ∃ s : Nat, e = .returned (.int .i64 s) ∧ Lead x s ∧ w' = w) := by
 have hc := bitsLen_any x w hx h0
 have H_hc := hid hc; clear hc
 go_enter Tryz.func213, Tryz.ntmps213
 go_wp2_with (fail)
 refine H_hc.out.mono ?_
 rintro e w2 ⟨n, rfl, hb, hs⟩
 subst hs
 have hl := lead_of h0 hb
 have hb64 := hb.2.2
 have hI : (64 : Int) - (n : Int) = ((64 - n : Nat) : Int) := by omega
 obtain ⟨s, hs⟩ : ∃ s, s = 64 - n := ⟨_, rfl⟩
 rw [← hs] at hI hl
 clear hs hb
 have H_hl := hid hl; clear hl
 go_wp2_with (fail)
 go_ret
 exact ⟨s, rfl, H_hl.out, rfl⟩

theorem nlz_any (x : Nat) (w : World) (hx : x < 18446744073709551616) (h0 : 0 < x) :
 Calls Tryz.prog 184 #[.int .u64 x] w (fun e w' => ∃ s : Nat, e = .returned (.int .u64 s) ∧ Lead x s ∧ w' = w) := by
 have hc := LeadingZeros_any x w hx h0
 have H_hc := hid hc; clear hc
 go_enter Tryz.func184, Tryz.ntmps184
 go_wp2_with (fail)
 refine H_hc.out.mono ?_
 rintro e w2 ⟨s, rfl, hl, hs⟩
 subst hs
 have hs64 := hl.1
 have H_hl := hid hl; clear hl
 go_wp2_with (fail)
 go_ret
 exact ⟨s, rfl, H_hl.out, rfl⟩

end Go.Proofs.YtllencgncinphaaGreatDoor
