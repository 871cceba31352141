/- The plain law of long division by words: what stands in the words from digit to digit. No program is in sight. -/
import Derived.Laws.BitsAllLaws
import Derived.Test.YtllencgncinphaaGreatDoorKE6
import Derived.Test.YtllencgncinphaaGreatDoorKE13
import Derived.Test.YtllencgncinphaaGreatDoorKE20
import Derived.Test.YtllencgncinphaaGreatDoorKE21
namespace Go.Proofs.YtllencgncinphaaGreatDoor
open Go.RowKit
open Go.Lib (hid)
set_option maxRecDepth 200000
set_option maxHeartbeats 8000000

theorem getD_ge {l : List Nat} {i : Nat} (h : l.length ≤ i) : l.getD i 0 = 0 := by
 simp [List.getD, List.getElem?_eq_none h]

theorem getD_snoc0 (l : List Nat) (i : Nat) : (l ++ [0]).getD i 0 = l.getD i 0 := by
 rw [getD_append]
 split
 · rfl
 · rename_i h
   rw [getD_ge (l := l) (by omega)]
   cases i - l.length with
   | zero => rfl
   | succ k => rfl

theorem val_two {l : List Nat} {k : Nat} (h : l.length = k + 2) : val l = (l.getD (k + 1) 0 * 18446744073709551616 + l.getD k 0) * wpow k + val (l.take k) := by
 have e1 := val_take_succ (l := l) (k := k + 1) (by omega)
 have e2 := val_take_succ (l := l) (k := k) (by omega)
 rw [List.take_of_length_le (by omega)] at e1
 rw [e1, e2, wpow_succ, Nat.add_mul]
 have : l.getD (k + 1) 0 * 18446744073709551616 * wpow k = 18446744073709551616 * wpow k * l.getD (k + 1) 0 := by
  rw [Nat.mul_comm (18446744073709551616 * wpow k), Nat.mul_assoc]
 have := Nat.mul_comm (wpow k) (l.getD k 0)
 omega

theorem val_three {l : List Nat} {k : Nat} (h : l.length = k + 3) : val l = ((l.getD (k + 2) 0 * 18446744073709551616 + l.getD (k + 1) 0) * 18446744073709551616 + l.getD k 0) * wpow k + val (l.take k) := by
 have e1 := val_two (l := l) (k := k + 1) h
 have e2 := val_take_succ (l := l) (k := k) (by omega)
 have e3 : wpow (k + 1) = 18446744073709551616 * wpow k := wpow_succ k
 have e4 : l.getD (k + 1 + 1) 0 = l.getD (k + 2) 0 := rfl
 rw [e4] at e1
 generalize val (l.take (k + 1)) = s at *
 generalize wpow (k + 1) = p1 at *
 generalize wpow k = p at *
 generalize l.getD (k + 2) 0 = x2 at *
 generalize l.getD (k + 1) 0 = x1 at *
 generalize l.getD k 0 = x0 at *
 generalize val (l.take k) = r at *
 generalize (18446744073709551616 : Nat) = B at *
 subst e2 e3
 rw [e1]
 generalize x2 * B + x1 = z
 rw [Nat.add_mul (z * B) x0 p, Nat.mul_assoc z B p, Nat.mul_comm p x0]
 omega

theorem kd_guess {vs R : List Nat} {x n : Nat} (hn : 2 ≤ n) (hvl : vs.length = n) (hvb : ∀ a ∈ vs, a < 18446744073709551616) (hrl : R.length = n) (hrb : ∀ a ∈ R, a < 18446744073709551616) (hx : x < 18446744073709551616)
 (htop : 9223372036854775808 ≤ vs.getD (n - 1) 0) (hR : val R < val vs) :
 R.getD (n - 1) 0 ≤ vs.getD (n - 1) 0 ∧ (R.getD (n - 1) 0 = vs.getD (n - 1) 0 → val (x :: R) / val vs ≤ 18446744073709551615 ∧ 18446744073709551615 ≤ val (x :: R) / val vs + 1) ∧
 (∀ q, ((R.getD (n - 1) 0 * 18446744073709551616 + (x :: R).getD (n - 1) 0) * 18446744073709551616 + (x :: R).getD (n - 2) 0) / (vs.getD (n - 1) 0 * 18446744073709551616 + vs.getD (n - 2) 0) ≤ q →
  q * (vs.getD (n - 1) 0 * 18446744073709551616 + vs.getD (n - 2) 0) ≤ (R.getD (n - 1) 0 * 18446744073709551616 + (x :: R).getD (n - 1) 0) * 18446744073709551616 + (x :: R).getD (n - 2) 0 → q < 18446744073709551616 →
  val (x :: R) / val vs ≤ q ∧ q ≤ val (x :: R) / val vs + 1) := by
 obtain ⟨k, hk⟩ : ∃ k, n = k + 2 := ⟨n - 2, by omega⟩
 subst hk
 have f1 : k + 2 - 1 = k + 1 := rfl
 have f2 : k + 2 - 2 = k := rfl
 rw [f1] at htop
 rw [f1, f2]
 have eV := val_two hvl
 have eW := val_three (l := x :: R) (k := k) (by simp [hrl])
 have e0 : (x :: R).getD (k + 2) 0 = R.getD (k + 1) 0 := rfl
 rw [e0] at eW
 have hp : ∀ l : List Nat, (∀ a ∈ l, a < 18446744073709551616) → k ≤ l.length → val (l.take k) < wpow k := by
  intro l hl hk
  have := val_lt (xs := l.take k) (fun a ha => hl a (List.mem_of_mem_take ha))
  rwa [List.length_take, Nat.min_eq_left hk] at this
 have hxr : ∀ a ∈ x :: R, a < 18446744073709551616 := by
  intro a ha
  rcases List.mem_cons.1 ha with rfl | h
  · exact hx
  · exact hrb a h
 have p1 := hp vs hvb (by omega)
 have p2 := hp (x :: R) hxr (by simp; omega)
 have hv2 : vs.getD k 0 < 18446744073709551616 := getD_lt hvb pos64 k
 have hlt : val (x :: R) < val vs * 18446744073709551616 := by
  simp only [val]
  have h1 : 18446744073709551616 * (val R + 1) ≤ 18446744073709551616 * val vs := Nat.mul_le_mul_left _ hR
  rw [Nat.mul_comm (val vs)]
  omega
 generalize (x :: R).getD (k + 1) 0 = u1 at *
 generalize (x :: R).getD k 0 = u2 at *
 generalize R.getD (k + 1) 0 = t at *
 generalize vs.getD (k + 1) 0 = v1 at *
 generalize vs.getD k 0 = v2 at *
 generalize val ((x :: R).take k) = ur at *
 generalize val (vs.take k) = vr at *
 generalize val (x :: R) = W at *
 generalize val vs = V at *
 generalize wpow k = p at *
 refine ⟨kd_top eV p1 hv2 eW hlt, fun h => ?_, fun q h1 h2 h3 => ?_⟩
 · subst h
   exact kd_max eV p1 hv2 (by omega) eW hlt
 · exact kd_three (b := 18446744073709551616) eV p1 (by omega) eW p2 h1 h2 h3

structure KdInv (n m k t : Nat) (us vs ul R Qs : List Nat) : Prop where
 lu : ul.length = m + n
 ub : ∀ a ∈ ul, a < 18446744073709551616
 ueq : ∀ i, ul.getD i 0 = if i < k then us.getD i 0 else R.getD (i - k) 0
 rl : R.length = n
 rb : ∀ a ∈ R, a < 18446744073709551616
 rv : val R < val vs
 ht : R.getD (n - 1) 0 = t
 ql : Qs.length = m - k
 qb : ∀ a ∈ Qs, a < 18446744073709551616
 hv : val (us.drop k) = val Qs * val vs + val R

theorem val_drop {us : List Nat} {k : Nat} (h : k < us.length) : val (us.drop k) = us.getD k 0 + 18446744073709551616 * val (us.drop (k + 1)) := by
 rw [List.drop_eq_getElem_cons h]
 simp [val, List.getD, h]

theorem KdInv.start {n m : Nat} {us vs : List Nat} (hul : us.length = m + n) (hub : ∀ a ∈ us, a < 18446744073709551616) (hn : 2 ≤ n) (h : val (us.drop m) < val vs) :
 KdInv n m (m + 1) 0 us vs us (us.drop (m + 1) ++ [0]) [] := by
 have hdl : (us.drop (m + 1)).length = n - 1 := by simp; omega
 have e0 : val (us.drop (m + 1) ++ [0]) = val (us.drop (m + 1)) := by rw [val_snoc]; simp
 refine ⟨hul, hub, fun i => ?_, by simp; omega, ?_, ?_, ?_, by simp, by simp, ?_⟩
 · rw [getD_snoc0]
   split
   · rfl
   · rename_i hi
     simp only [List.getD, List.getElem?_drop]
     rw [show m + 1 + (i - (m + 1)) = i by omega]
 · intro a ha
   rw [List.mem_append, List.mem_singleton] at ha
   rcases ha with ha | rfl
   · exact hub a (List.mem_of_mem_drop ha)
   · omega
 · rw [e0]
   have := val_drop (us := us) (k := m) (by omega)
   omega
 · rw [getD_snoc0, getD_ge (by omega)]
 · rw [e0]; simp [val]

theorem KdInv.get {n m j t : Nat} {us vs ul R Qs : List Nat} (h : KdInv n m (j + 1) t us vs ul R Qs) (i : Nat) : ul.getD (j + i) 0 = (us.getD j 0 :: R).getD i 0 := by
 rw [h.ueq]
 cases i with
 | zero => rw [if_pos (by omega)]; rfl
 | succ i =>
   rw [if_neg (by omega), show j + (i + 1) - (j + 1) = i by omega]
   rfl

theorem KdInv.window {n m j t : Nat} {us vs ul R Qs : List Nat} (h : KdInv n m (j + 1) t us vs ul R Qs) (hj : j < m) : seg ul j (n + 1) = us.getD j 0 :: R := by
 have hu := h.lu
 have hr := h.rl
 apply ext_getD
 · rw [sgL (by omega)]; simp [hr]
 · intro i hi
   rw [sgL (by omega)] at hi
   rw [seg_getD hi, h.get]

theorem KdInv.windowM {n m t : Nat} {us vs ul R Qs : List Nat} (h : KdInv n m (m + 1) t us vs ul R Qs) : seg ul m n = (us.getD m 0 :: R).take n := by
 have hu := h.lu
 have hr := h.rl
 apply ext_getD
 · rw [sgL (by omega)]; simp [hr]
 · intro i hi
   rw [sgL (by omega)] at hi
   rw [seg_getD hi, h.get]
   simp [List.getD, hi]

theorem KdInv.lt {n m k t : Nat} {us vs ul R Qs : List Nat} (h : KdInv n m k t us vs ul R Qs) {x : Nat} (hx : x < 18446744073709551616) : val (x :: R) < val vs * 18446744073709551616 := by
 have := h.rv
 simp only [val]
 have h1 : 18446744073709551616 * (val R + 1) ≤ 18446744073709551616 * val vs := Nat.mul_le_mul_left _ this
 rw [Nat.mul_comm (val vs)]
 omega

theorem KdInv.digit {n m k t : Nat} {us vs ul R Qs : List Nat} (h : KdInv n m k t us vs ul R Qs) {x : Nat} (hx : x < 18446744073709551616) : val (x :: R) / val vs < 18446744073709551616 := by
 have := h.rv
 rw [Nat.div_lt_iff_lt_mul (by omega), Nat.mul_comm]
 exact h.lt hx

theorem KdInv.next {n m j t : Nat} {us vs ul R Qs R' : List Nat} (h : KdInv n m (j + 1) t us vs ul R Qs) (hj : j < m) (hus : us.length = m + n) (hub : ∀ a ∈ us, a < 18446744073709551616)
 (hl : R'.length = n) (hb : ∀ a ∈ R', a < 18446744073709551616) (hv : val R' = val (us.getD j 0 :: R) % val vs) :
 KdInv n m j (R'.getD (n - 1) 0) us vs (spl ul j (R' ++ [0])) R' (val (us.getD j 0 :: R) / val vs :: Qs) := by
 have hu := h.lu
 have hr := h.rl
 have hx : us.getD j 0 < 18446744073709551616 := getD_lt hub pos64 j
 have h0 : 0 < val vs := by have := h.rv; omega
 have hl1 : (R' ++ [0]).length = n + 1 := by simp [hl]
 refine ⟨?_, ?_, fun i => ?_, hl, hb, ?_, rfl, ?_, ?_, ?_⟩
 · rw [sgl (by omega)]; exact hu
 · intro a ha
   rcases spl_mem ha with ha | ha
   · exact h.ub a ha
   · rw [List.mem_append, List.mem_singleton] at ha
     rcases ha with ha | rfl
     · exact hb a ha
     · omega
 · rw [sgD (by omega), hl1]
   by_cases h1 : i < j
   · rw [if_neg (by omega), if_pos h1, h.ueq, if_pos (by omega)]
   · rw [if_neg h1]
     by_cases h2 : i < j + (n + 1)
     · rw [if_pos (by omega), getD_snoc0]
     · rw [if_neg (by omega), h.ueq, if_neg (by omega), getD_ge (by omega), getD_ge (by omega)]
 · rw [hv]; exact Nat.mod_lt _ h0
 · have := h.ql; simp; omega
 · intro a ha
   rcases List.mem_cons.1 ha with rfl | ha
   · exact h.digit hx
   · exact h.qb a ha
 · rw [val_drop (by omega)]
   have := kd_next (x := us.getD j 0) (Q := val (us.getD j 0 :: R) / val vs) (V := val vs) (R := R) (Qs := Qs) (.inr trivial) rfl _ h.hv
   rw [this, hv]

theorem KdInv.first {n m t : Nat} {us vs ul R Qs R' : List Nat} (h : KdInv n m (m + 1) t us vs ul R Qs) (hus : us.length = m + n) (hn : 2 ≤ n) (hlt : val (us.drop m) < val vs)
 (hl : R'.length = n) (hb : ∀ a ∈ R', a < 18446744073709551616) (hv : val R' = val (us.getD m 0 :: R) % val vs) :
 KdInv n m m (R'.getD (n - 1) 0) us vs (spl ul m R') R' Qs := by
 have hu := h.lu
 have hQ : Qs = [] := List.eq_nil_of_length_eq_zero (by have := h.ql; omega)
 have hW : val (us.getD m 0 :: R) = val (us.drop m) := by
  rw [val_drop (by omega), h.hv, hQ]; simp [val]
 rw [hW, Nat.mod_eq_of_lt hlt] at hv
 refine ⟨?_, ?_, fun i => ?_, hl, hb, by omega, rfl, by rw [hQ]; simp, h.qb, by rw [hQ]; simp [val]; omega⟩
 · rw [sgl (by omega)]; exact hu
 · intro a ha
   rcases spl_mem ha with ha | ha
   · exact h.ub a ha
   · exact hb a ha
 · rw [sgD (by omega), hl]
   by_cases h1 : i < m
   · rw [if_neg (by omega), if_pos h1, h.ueq, if_pos (by omega)]
   · rw [if_neg h1]
     by_cases h2 : i < m + n
     · rw [if_pos (by omega)]
     · rw [if_neg (by omega), getD_ge (by omega), getD_ge (by omega)]

theorem KdInv.small {n m t : Nat} {us vs ul R Qs : List Nat} (h : KdInv n m (m + 1) t us vs ul R Qs) (hus : us.length = m + n) (hn : 2 ≤ n) (hlt : val (us.drop m) < val vs) : val (us.getD m 0 :: R) < val vs := by
 have hQ : Qs = [] := List.eq_nil_of_length_eq_zero (by have := h.ql; omega)
 have hW : val (us.getD m 0 :: R) = val (us.drop m) := by
  rw [val_drop (by omega), h.hv, hQ]; simp [val]
 omega

theorem KdInv.done {n m t : Nat} {us vs ul R Qs : List Nat} (h : KdInv n m 0 t us vs ul R Qs) : ul = R ++ List.replicate m 0 ∧ val us = val Qs * val vs + val R ∧ Qs.length = m := by
 refine ⟨?_, h.hv, by have := h.ql; omega⟩
 have hu := h.lu
 have hr := h.rl
 apply ext_getD
 · simp; omega
 · intro i hi
   rw [h.ueq, if_neg (by omega), getD_append, Nat.sub_zero]
   split
   · rfl
   · rename_i h2
     rw [getD_ge (by omega)]
     simp only [List.getD, List.getElem?_replicate]
     split <;> rfl

theorem spl_set_in {L q : List Nat} {o i x : Nat} (h : o + q.length ≤ L.length) (hi : i < q.length) : (spl L o q).set (o + i) x = spl L o (q.set i x) := by
 apply ext_getD
 · rw [List.length_set, sgl h, sgl (by rw [List.length_set]; exact h)]
 · intro k _
   rw [getD_set _ _ _ _ (by rw [sgl h]; omega), sgD h, sgD (by rw [List.length_set]; exact h), List.length_set]
   by_cases e : o + i = k
   · subst e
     rw [if_pos rfl, if_pos (by omega), show o + i - o = i by omega, getD_set _ _ _ _ hi, if_pos rfl]
   · rw [if_neg e]
     by_cases a : o ≤ k ∧ k < o + q.length
     · rw [if_pos a, if_pos a, getD_set _ _ _ _ hi, if_neg (by omega)]
     · rw [if_neg a, if_neg a]

theorem snoc_set {S : List Nat} {n d x : Nat} (h : S.length = n) : (S ++ [d]).set n x = S ++ [x] := by
 subst h
 rw [List.set_append_right _ _ (Nat.le_refl _), Nat.sub_self]
 rfl

theorem spl_low {L D S : List Nat} {o n : Nat} (h : o + D.length ≤ L.length) (hD : D.length = n + 1) (hS : S.length = n) : spl (spl L o D) o S = spl L o (S ++ [D.getD n 0]) := by
 have e := spl_in (L := L) (q := D) (s := S) (o := o) (k := 0) h (by omega)
 rw [Nat.add_zero, List.take_zero, List.nil_append, Nat.zero_add, hS] at e
 rw [e]
 congr 2
 have h2 := last_split hD
 conv => lhs; rw [h2.1]
 rw [List.drop_append_of_le_length (by omega), List.drop_eq_nil_of_le (by omega), List.nil_append]

theorem spl_over {L D S : List Nat} {o n : Nat} (h : o + D.length ≤ L.length) (hD : D.length = n) (hS : S.length = n) : spl (spl L o D) o S = spl L o S := by
 have e := spl_in (L := L) (q := D) (s := S) (o := o) (k := 0) h (by omega)
 rw [Nat.add_zero, List.take_zero, List.nil_append, Nat.zero_add, hS] at e
 rw [e, List.drop_eq_nil_of_le (by omega), List.append_nil]

structure GInv (U u2 v1 v2 q r x1 x2 : Nat) : Prop where
 e : q * v1 + r = U
 x : 18446744073709551616 * x1 + x2 = q * v2
 g : (U * 18446744073709551616 + u2) / (v1 * 18446744073709551616 + v2) ≤ q
 b : q < 18446744073709551616

section
variable {U u2 v1 v2 q r x1 x2 : Nat}

theorem GInv.stop (h : GInv U u2 v1 v2 q r x1 x2) (hs : ¬ 18446744073709551616 * r + u2 < 18446744073709551616 * x1 + x2) : q * (v1 * 18446744073709551616 + v2) ≤ U * 18446744073709551616 + u2 :=
 kn_end h.e (by have := h.x; omega)

theorem GInv.pos (h : GInv U u2 v1 v2 q r x1 x2) (hs : 18446744073709551616 * r + u2 < 18446744073709551616 * x1 + x2) : 0 < q := by
 rcases Nat.eq_zero_or_pos q with h0 | h0
 · exfalso
   have := h.x
   rw [h0, Nat.zero_mul] at this
   omega
 · exact h0

theorem GInv.great (h : GInv U u2 v1 v2 q r x1 x2) (hs : 18446744073709551616 * r + u2 < 18446744073709551616 * x1 + x2) : (U * 18446744073709551616 + u2) / (v1 * 18446744073709551616 + v2) ≤ q - 1 :=
 kn_great h.e (Nat.div_mul_le_self _ _) (by have := h.g; have := h.b; omega) (.inr (by have := h.x; omega))

theorem GInv.sub1 (h : GInv U u2 v1 v2 q r x1 x2) (hs : 18446744073709551616 * r + u2 < 18446744073709551616 * x1 + x2) : (q - 1) * v1 + (r + v1) = U ∧ (q - 1) * v2 + v2 = q * v2 := by
 obtain ⟨c, rfl⟩ : ∃ c, q = c + 1 := ⟨q - 1, by have := h.pos hs; omega⟩
 have := h.e
 rw [Nat.add_mul, Nat.one_mul] at this
 rw [Nat.add_sub_cancel]
 refine ⟨by omega, by rw [Nat.add_mul, Nat.one_mul]⟩

theorem GInv.far (h : GInv U u2 v1 v2 q r x1 x2) (hs : 18446744073709551616 * r + u2 < 18446744073709551616 * x1 + x2) (hv : v2 < 18446744073709551616) (hr : 18446744073709551616 ≤ r + v1) :
 (q - 1) * (v1 * 18446744073709551616 + v2) ≤ U * 18446744073709551616 + u2 :=
 kn_end (h.sub1 hs).1 (kn_far hv (by have := h.b; omega) hr)

theorem GInv.next (h : GInv U u2 v1 v2 q r x1 x2) (hs : 18446744073709551616 * r + u2 < 18446744073709551616 * x1 + x2) {y1 y2 : Nat} (hy : 18446744073709551616 * y1 + y2 + v2 = 18446744073709551616 * x1 + x2) : GInv U u2 v1 v2 (q - 1) (r + v1) y1 y2 :=
 ⟨(h.sub1 hs).1, by have := (h.sub1 hs).2; have := h.x; omega, h.great hs, by have := h.b; omega⟩

theorem GInv.ge (h : GInv U u2 v1 v2 q r x1 x2) (hs : 18446744073709551616 * r + u2 < 18446744073709551616 * x1 + x2) : v2 ≤ 18446744073709551616 * x1 + x2 := by
 have := (h.sub1 hs).2
 have := h.x
 omega

end

theorem GInv.start {t u1 u2 v1 v2 q r : Nat} (h : t * 18446744073709551616 + u1 = q * v1 + r) (hr : r < v1) (hu2 : u2 < 18446744073709551616) (hq : q < 18446744073709551616) :
 GInv (t * 18446744073709551616 + u1) u2 v1 v2 q r (mulH q v2) (mulL q v2) := by
 refine ⟨h.symm, ?_, ?_, hq⟩
 · unfold mulH mulL; generalize q * v2 = p; omega
 · have h1 := guess_ge32 (u := t * 18446744073709551616 + u1) (u1 := u2) (y1 := v1) (y0 := v2) (b := 18446744073709551616) (by omega) hu2
   have h2 : (t * 18446744073709551616 + u1) / v1 = q := by
    rw [h, Nat.mul_comm, Nat.mul_add_div (by omega), Nat.div_eq_of_lt hr]; omega
   omega

theorem kd_fine0 {v W s : List Nat} {n q : Nat} (hW : W.length = n) (hs : s.length = n) (hWb : ∀ a ∈ W, a < 18446744073709551616) (hsb : ∀ a ∈ s, a < 18446744073709551616)
 (hlt : val W < val v) (hsv : val s = val v * q) (hc : (subVs W s 0).2 = 0) : q = 0 ∧ val (subVs W s 0).1 = val W := by
 have e := subVs_val W s 0 (by omega) hWb hsb (by omega)
 rw [hc] at e
 have : q = 0 := by
  rcases Nat.eq_zero_or_pos q with h | h
  · exact h
  · have : val v * 1 ≤ val v * q := Nat.mul_le_mul_left _ h
    omega
 subst this
 rw [Nat.mul_zero] at hsv
 exact ⟨rfl, by omega⟩

theorem kd_back0 {v W s : List Nat} {n q : Nat} (hW : W.length = n) (hs : s.length = n) (hv : v.length = n) (hWb : ∀ a ∈ W, a < 18446744073709551616) (hsb : ∀ a ∈ s, a < 18446744073709551616) (hvb : ∀ a ∈ v, a < 18446744073709551616)
 (_hlt : val W < val v) (hsv : val s = val v * q) (hq : q ≤ 1) (hc : (subVs W s 0).2 = 1) : q = 1 ∧ val (addVs (subVs W s 0).1 v 0).1 = val W := by
 have e := subVs_val W s 0 (by omega) hWb hsb (by omega)
 have hl := subVs_length W s 0 (by omega)
 have hDb := subVs_lt W s 0
 rw [hc] at e
 rw [hW] at e hl
 generalize (subVs W s 0).1 = D at *
 have hD := val_lt hDb
 rw [hl] at hD
 have hq1 : q = 1 := by
  rcases Nat.eq_zero_or_pos q with h | h
  · rw [h, Nat.mul_zero] at hsv
    omega
  · omega
 rw [hq1, Nat.mul_one] at hsv
 have ea := addVs_val D v 0 (by omega)
 have hal := addVs_lt D v 0
 have hall := addVs_length D v 0 (by omega)
 have hc2 := addVs_carry D v 0 hDb hvb (by omega)
 generalize (addVs D v 0).1 = S at *
 generalize (addVs D v 0).2 = c2 at *
 have hS := val_lt hal
 rw [hall, hl] at hS
 rw [hl] at ea
 refine ⟨hq1, ?_⟩
 rcases Nat.eq_zero_or_pos c2 with h | h
 · rw [h] at ea; omega
 · obtain rfl : c2 = 1 := by omega
   omega

theorem xor_ones (u : Nat) (h : u < 18446744073709551616) : 18446744073709551615 ^^^ u = 18446744073709551615 - u := by
 have h1 : (BitVec.allOnes 64 ^^^ BitVec.ofNat 64 u).toNat = 18446744073709551615 ^^^ u := by
  rw [BitVec.toNat_xor, BitVec.toNat_allOnes, BitVec.toNat_ofNat, Nat.mod_eq_of_lt (by omega)]
 rw [← h1, BitVec.allOnes_xor, BitVec.toNat_not, BitVec.toNat_ofNat, Nat.mod_eq_of_lt (by omega)]

theorem lead_unique {y s t : Nat} (h : Lead y s) (k : Lead y t) : s = t := by
 have one : ∀ {s t}, Lead y s → Lead y t → ¬ s < t := fun {s t} h k hlt => by
  have h1 : 2 ^ t = 2 ^ s * 2 ^ (t - s) := by rw [← Nat.pow_add]; congr 1; omega
  have h2 : 2 ^ 1 ≤ 2 ^ (t - s) := Nat.pow_le_pow_right (by omega) (by omega)
  have h3 := k.2.2
  rw [h1, ← Nat.mul_assoc] at h3
  have h4 := Nat.mul_le_mul h.2.1 h2
  omega
 have h1 := one h k
 have h2 := one k h
 omega

def Recip (y m : Nat) : Prop := ∃ s k, Lead y s ∧ (m + 18446744073709551616) * (y * 2 ^ s) + k = 18446744073709551616 * 18446744073709551616 ∧ 0 < k ∧ k ≤ y * 2 ^ s ∧ m < 18446744073709551616

theorem recip_eq {B u q r : Nat} (hB : 0 < B) (hu : u ≤ B - 1) (h : (B - 1 - u) * B + (B - 1) = q * u + r) : (q + B) * u + (r + 1) = B * B := by
 obtain ⟨m, hm⟩ : ∃ m, B - 1 = u + m := ⟨B - 1 - u, by omega⟩
 have hB1 : B = u + m + 1 := by omega
 rw [show B - 1 - u = m by omega, hm] at h
 subst hB1
 rw [Nat.add_mul]
 have e1 : (u + m + 1) * u = u * u + m * u + u := by grind
 have e2 : (u + m + 1) * (u + m + 1) = u * u + m * m + 2 * (m * u) + 2 * u + 2 * m + 1 := by grind
 have e3 : m * (u + m + 1) = m * u + m * m + m := by grind
 omega

theorem reciprocalWord_any (y : Nat) (w : World) (hy : y < 18446744073709551616) (h0 : 0 < y) :
 Calls Tryz.prog 209 #[.int .u64 y] w (fun e w' => ∃ m : Nat, e = .returned (.int .u64 m) ∧ Recip y m ∧ Fresh w w') := by
 have hlz := fun W => nlz_any y W hy h0
 have H_hlz := hid hlz; clear hlz
 go_enter Tryz.func209, Tryz.ntmps209
 go_wp2_with (fail)
 refine (H_hlz.out _).mono ?_
 rintro e w2 ⟨s, rfl, hl, hs⟩
 subst hs
 have hs64 := hl.1
 have hI : (s : Int) < 64 := by omega
 obtain ⟨u, hu⟩ : ∃ u, u = y * 2 ^ s := ⟨_, rfl⟩
 have hu1 : 9223372036854775808 ≤ u := by rw [hu]; exact hl.2.1
 have hu2 : u < 18446744073709551616 := by rw [hu]; exact hl.2.2
 have hsh : IntKind.u64.wrap ((y : Int) * 2 ^ s) = (u : Int) := by
  rw [show (y : Int) * 2 ^ s = ((y * 2 ^ s : Nat) : Int) from by simp, ← hu]; exact wum _ hu2
 obtain ⟨v, hv⟩ : ∃ v, v = 18446744073709551615 - u := ⟨_, rfl⟩
 have hx : bits BinOp.xor IntKind.u64 IntKind.u64.max (u : Int) = (v : Int) := by
  have e : IntKind.u64.max = ((18446744073709551615 : Nat) : Int) := by decide
  rw [e, u64_xor_nat _ _ (by omega) hu2, xor_ones u hu2, hv]
 have hdiv := fun W => bitsDiv_any v 18446744073709551615 u W (by omega) (by omega) hu2 (.inr hu1)
 have H_hl := hid hl; have H_hdiv := hid hdiv; have H_hu := hid hu; have H_hv := hid hv; clear hl hdiv hu hv
 go_wp2_with (fail)
 refine (H_hdiv.out _).mono ?_
 rintro e w3 ⟨q, r, rfl, h1, h2, h3, h4⟩
 have H_h1 := hid h1; have H_h2 := hid h2; have H_h3 := hid h3; have H_h4 := hid h4; clear h1 h2 h3 h4
 go_wp2_with (fail)
 go_ret
 refine ⟨q, rfl, ⟨s, r + 1, H_hl.out, ?_, by omega, by rw [← H_hu.out]; exact H_h2.out, H_h3.out⟩, H_h4.out⟩
 rw [← H_hu.out]
 refine recip_eq (by omega) (by omega) ?_
 have e := H_h1.out
 rw [H_hv.out] at e
 exact e

theorem shift_words {x1 x0 y s : Nat} (hx1 : x1 < y) (hx0 : x0 < 18446744073709551616) (hl : Lead y s) :
 (x1 * 2 ^ s + x0 / 2 ^ (64 - s)) * 18446744073709551616 + x0 * 2 ^ s % 18446744073709551616 = (x1 * 18446744073709551616 + x0) * 2 ^ s ∧ x0 / 2 ^ (64 - s) < 2 ^ s ∧ x1 * 2 ^ s + x0 / 2 ^ (64 - s) < y * 2 ^ s := by
 have hs := hl.1
 have e : 2 ^ (64 - s) * 2 ^ s = 18446744073709551616 := by rw [← Nat.pow_add, show 64 - s + s = 64 by omega]
 have p1 : 0 < 2 ^ (64 - s) := Nat.pow_pos (by omega)
 have p2 : 0 < 2 ^ s := Nat.pow_pos (by omega)
 have hd := Nat.div_add_mod x0 (2 ^ (64 - s))
 have hm := Nat.mod_lt x0 p1
 have hlt : x0 / 2 ^ (64 - s) < 2 ^ s := by
  rw [Nat.div_lt_iff_lt_mul p1, Nat.mul_comm, e]; exact hx0
 generalize x0 / 2 ^ (64 - s) = h at *
 generalize x0 % 2 ^ (64 - s) = l at *
 generalize 2 ^ (64 - s) = c at *
 generalize 2 ^ s = b at *
 have hx : x0 * b = h * 18446744073709551616 + l * b := by
  rw [← hd, ← e, Nat.add_mul]
  congr 1
  rw [Nat.mul_comm c h, Nat.mul_assoc]
 have hlb : l * b < 18446744073709551616 := by
  rw [← e]; exact Nat.mul_lt_mul_of_pos_right hm p2
 have hmod : x0 * b % 18446744073709551616 = l * b := by
  rw [hx, Nat.add_comm, Nat.add_mul_mod_self_right, Nat.mod_eq_of_lt hlb]
 refine ⟨?_, hlt, ?_⟩
 · rw [hmod, Nat.add_mul, Nat.add_mul, hx, Nat.mul_right_comm]
   omega
 · have := Nat.mul_le_mul_right b hx1
   rw [Nat.succ_mul] at this
   omega

theorem guess_words {m X1 X0 : Nat} (hX1 : X1 < 18446744073709551616) (hX0 : X0 < 18446744073709551616) (_hm : m < 18446744073709551616) (hV : ((m + 18446744073709551616) * X1 + X0) / 18446744073709551616 < 18446744073709551616) :
 addS (mulH m X1) X1 (addC (mulL m X1) X0 0) = ((m + 18446744073709551616) * X1 + X0) / 18446744073709551616 := by
 unfold addS addC mulH mulL at *
 rw [Nat.add_mul] at *
 generalize m * X1 = p at *
 omega

theorem diff_words {d q X1 X0 r : Nat} (_hX1 : X1 < 18446744073709551616) (hX0 : X0 < 18446744073709551616) (h : X1 * 18446744073709551616 + X0 = d * q + r) (hr : r < 18446744073709551616 + 18446744073709551616) :
 subS X0 (mulL d q) 0 = r % 18446744073709551616 ∧ subS X1 (mulH d q) (subC X0 (mulL d q) 0) = r / 18446744073709551616 := by
 unfold subS subC mulH mulL
 generalize d * q = p at *
 constructor
 · omega
 · split <;> omega

theorem divWW_zero (x1 x0 y m s : Nat) (w : World) (hx1 : x1 < y) (hx0 : x0 < 18446744073709551616) (hy : y < 18446744073709551616) (hl : Lead y s) (hm : m < 18446744073709551616) (k : Nat) (hk : (m + 18446744073709551616) * (y * 2 ^ s) + k = 18446744073709551616 * 18446744073709551616) (hk1 : k ≤ y * 2 ^ s) (hs0 : s = 0) :
 Calls Tryz.prog 210 #[.int .u64 x1, .int .u64 x0, .int .u64 y, .int .u64 m] w (DivRet w x1 x0 y) := by
 have hlz := fun W => nlz_any y W hy (by omega)
 have hs64 := hl.1
 obtain ⟨e1, e2, e3⟩ := shift_words hx1 hx0 hl
 obtain ⟨d, hd⟩ : ∃ d, d = y * 2 ^ s := ⟨_, rfl⟩
 have hd1 : 9223372036854775808 ≤ d := by rw [hd]; exact hl.2.1
 have hd2 : d < 18446744073709551616 := by rw [hd]; exact hl.2.2
 obtain ⟨X1, hX1⟩ : ∃ x, x = x1 * 2 ^ s + x0 / 2 ^ (64 - s) := ⟨_, rfl⟩
 obtain ⟨X0, hX0⟩ : ∃ x, x = x0 * 2 ^ s % 18446744073709551616 := ⟨_, rfl⟩
 rw [← hd] at hk hk1 e3
 rw [← hX1] at e1 e3
 have e1' := e1
 rw [← hX0] at e1
 have hX064 : X0 < 18446744073709551616 := by rw [hX0]; exact Nat.mod_lt _ (by omega)
 -- the guess and what is left
 obtain ⟨q, hq⟩ : ∃ q, q = ((m + 18446744073709551616) * X1 + X0) / 18446744073709551616 := ⟨_, rfl⟩
 obtain ⟨f, hf⟩ : ∃ f, f = ((m + 18446744073709551616) * X1 + X0) % 18446744073709551616 := ⟨_, rfl⟩
 have hqf : q * 18446744073709551616 + f = (m + 18446744073709551616) * X1 + X0 := by
  rw [hq, hf, Nat.mul_comm]; exact Nat.div_add_mod _ _
 have hf1 : f < 18446744073709551616 := by rw [hf]; exact Nat.mod_lt _ (by omega)
 obtain ⟨b1, b2⟩ := mg_bound hk hk1 (Nat.le_of_lt hd2) (by omega) e3 hX064 hqf hf1
 obtain ⟨r, hr⟩ := Nat.exists_eq_add_of_le b1
 have hrb : r < 18446744073709551616 + d := by omega
 have hX164 : X1 < 18446744073709551616 := by omega
 have hq64 : q < 18446744073709551616 := by
  rcases Nat.lt_or_ge q 18446744073709551616 with h | h
  · exact h
  · exfalso
    have h1 : d * 18446744073709551616 ≤ d * q := Nat.mul_le_mul_left _ h
    have h2 : (X1 + 1) * 18446744073709551616 ≤ d * 18446744073709551616 := Nat.mul_le_mul_right _ e3
    omega
 have hgw := guess_words hX164 hX064 hm (by rw [← hq]; exact hq64)
 rw [← hq] at hgw
 obtain ⟨hdw0, hdw1⟩ := diff_words hX164 hX064 hr (by omega)
 have hmul1 := fun W => bits_Mul m X1 hm hX164 W
 have hadd1 := fun W => bits_Add (mulL m X1) X0 0 (by omega) W
 have hadd2 := fun W => bits_Add (mulH m X1) X1 (addC (mulL m X1) X0 0) (by unfold addC mulL; omega) W
 have hmul2 := fun W => bits_Mul d q hd2 hq64 W
 have hsub1 := fun W => bits_Sub X0 (mulL d q) 0 (by omega) W
 have hsub2 := fun W => bits_Sub X1 (mulH d q) (subC X0 (mulL d q) 0) (by unfold subC; split <;> omega) W
 rw [hgw] at hadd2
 rw [hdw0] at hsub1
 rw [hdw1] at hsub2
 obtain ⟨q', r', q'', r'', c1, c2, c3, c4, c5⟩ := mg_fix hr hrb (by omega) (Nat.le_of_lt hd2) (by omega)
 obtain ⟨f1, f2⟩ := scaled_div (a := x1 * 18446744073709551616 + x0) (b := y) (t := 2 ^ s) (q := q'') (r := r'') (by rw [← e1, ← hd]; exact c4) (by rw [← hd]; exact c5) (Nat.pow_pos (by omega))
 have hq2 : q'' < 18446744073709551616 := by
  rcases Nat.lt_or_ge q'' 18446744073709551616 with h | h
  · exact h
  · exfalso
    have h1 : d * 18446744073709551616 ≤ d * q'' := Nat.mul_le_mul_left _ h
    have h2 : (X1 + 1) * 18446744073709551616 ≤ d * 18446744073709551616 := Nat.mul_le_mul_right _ e3
    omega
 obtain ⟨rr, hrr⟩ : ∃ x, x = r'' / 2 ^ s := ⟨_, rfl⟩
 rw [← hrr] at f1 f2
 have hrI : (r'' : Int) / 2 ^ s = (rr : Int) := by rw [hrr]; simp
 have hfin : x1 * 18446744073709551616 + x0 = q'' * y + rr := by rw [Nat.mul_comm q'' y]; exact f1
 -- the words of the first remainder
 obtain ⟨r0, hr0⟩ : ∃ x, x = r % 18446744073709551616 := ⟨_, rfl⟩
 obtain ⟨r1, hr1⟩ : ∃ x, x = r / 18446744073709551616 := ⟨_, rfl⟩
 rw [← hr0] at hsub1
 rw [← hr1] at hsub2
 have hdy : d = y := by rw [hd, hs0]; simp
 have hXx : X1 = x1 := by rw [hX1, hs0]; simp; omega
 have hX0x : X0 = x0 := by rw [hX0, hs0]; simp; omega
 obtain rfl : r'' = rr := by rw [hrr, hs0]; simp
 subst hdy hXx hX0x
 clear hk hk1 e1 e1' e2 b1 b2 hqf hf1 hf hq hgw hdw0 hdw1 f1 hr hrr 
 have H_hlz := hid hlz; have H_hl := hid hl; have H_hmul1 := hid hmul1; have H_hadd1 := hid hadd1; have H_hadd2 := hid hadd2; have H_hmul2 := hid hmul2; have H_hsub1 := hid hsub1; have H_hsub2 := hid hsub2; have H_c4 := hid c4; have H_hfin := hid hfin; have H_hX1 := hid hX1; have H_hX0 := hid hX0; have H_hd := hid hd; have H_hr0 := hid hr0; have H_hr1 := hid hr1; clear hlz hl hmul1 hadd1 hadd2 hmul2 hsub1 hsub2 c4 hfin hX1 hX0 hd hr0 hr1
 go_enter Tryz.func210, Tryz.ntmps210
 go_wp2_with (fail)
 refine (H_hlz.out _).mono ?_
 rintro e w2 ⟨s', rfl, hl', hs⟩
 subst hs
 obtain rfl := lead_unique H_hl.out hl'
 clear hl'
 subst hs0
 go_wp2_with (fail)
 refine (H_hmul1.out _).mono ?_
 rintro e w3 ⟨rfl, hs⟩
 subst hs
 go_wp2_with (fail)
 refine (H_hadd1.out _).mono ?_
 rintro e w3 ⟨rfl, hs⟩
 subst hs
 go_wp2_with (fail)
 refine (H_hadd2.out _).mono ?_
 rintro e w3 ⟨rfl, hs⟩
 subst hs
 go_wp2_with (fail)
 refine (H_hmul2.out _).mono ?_
 rintro e w3 ⟨rfl, hs⟩
 subst hs
 go_wp2_with (fail)
 refine (H_hsub1.out _).mono ?_
 rintro e w3 ⟨rfl, hs⟩
 subst hs
 go_wp2_with (fail)
 refine (H_hsub2.out _).mono ?_
 rintro e w3 ⟨rfl, hs⟩
 subst hs
 have hr0 := H_hr0.out
 have hr1 := H_hr1.out
 rcases c1 with ⟨g0, gq0, gr0⟩ | ⟨g0, gq0, gr0⟩
 · have w1 : r1 = 1 := by omega
   have w3 : IntKind.u64.wrap ((r0 : Int) - (d : Int)) = (r' : Int) := by rw [wrap_u64_int]; omega
   have w4 : (q : Int) + 1 = (q' : Int) := by omega
   have hqa9 : q' < 18446744073709551616 := by rcases c3 with ⟨_, h, _⟩ | ⟨_, h, _⟩ <;> omega
   have w5 : IntKind.u64.wrap (q' : Int) = (q' : Int) := wum _ hqa9
   subst w1
   clear hr0 hr1 gq0 gr0
   rcases c3 with ⟨g1, gq, gr⟩ | ⟨g1, gq, gr⟩
   · have u1 : decide ((d : Int) ≤ (r' : Int)) = true := by simp; omega
     have u2 : (r' : Int) - (d : Int) = (r'' : Int) := by omega
     have u3 : IntKind.u64.wrap (r'' : Int) = (r'' : Int) := wum _ (by omega)
     have u4 : (q' : Int) + 1 = (q'' : Int) := by omega
     have u5 : IntKind.u64.wrap (q'' : Int) = (q'' : Int) := wum _ hq2
     clear gq gr
     go_wp2_with (fail)
     go_ret2
     exact ⟨q'', _, rfl, H_hfin.out, f2, hq2, Keep.refl _ _⟩
   · have u1 : decide ((d : Int) ≤ (r' : Int)) = false := by simp; omega
     have u1n : ¬ d ≤ r' := by omega
     subst gq gr
     go_wp2_with (fail)
     go_ret2
     exact ⟨_, _, rfl, H_hfin.out, f2, hq2, Keep.refl _ _⟩
 · have w1 : r1 = 0 := by omega
   obtain rfl : r' = r0 := by omega
   obtain rfl : q' = q := by omega
   subst w1
   clear hr0 hr1 gr0
   rcases c3 with ⟨g1, gq, gr⟩ | ⟨g1, gq, gr⟩
   · have u1 : decide ((d : Int) ≤ (r' : Int)) = true := by simp; omega
     have u2 : (r' : Int) - (d : Int) = (r'' : Int) := by omega
     have u3 : IntKind.u64.wrap (r'' : Int) = (r'' : Int) := wum _ (by omega)
     have u4 : (q' : Int) + 1 = (q'' : Int) := by omega
     have u5 : IntKind.u64.wrap (q'' : Int) = (q'' : Int) := wum _ hq2
     clear gq gr
     go_wp2_with (fail)
     go_ret2
     exact ⟨q'', _, rfl, H_hfin.out, f2, hq2, Keep.refl _ _⟩
   · have u1 : decide ((d : Int) ≤ (r' : Int)) = false := by simp; omega
     have u1n : ¬ d ≤ r' := by omega
     subst gq gr
     go_wp2_with (fail)
     go_ret2
     exact ⟨_, _, rfl, H_hfin.out, f2, hq2, Keep.refl _ _⟩

theorem divWW_shift (x1 x0 y m s : Nat) (w : World) (hx1 : x1 < y) (hx0 : x0 < 18446744073709551616) (hy : y < 18446744073709551616) (hl : Lead y s) (hm : m < 18446744073709551616) (k : Nat) (hk : (m + 18446744073709551616) * (y * 2 ^ s) + k = 18446744073709551616 * 18446744073709551616) (hk1 : k ≤ y * 2 ^ s) (hs0 : 0 < s) :
 Calls Tryz.prog 210 #[.int .u64 x1, .int .u64 x0, .int .u64 y, .int .u64 m] w (DivRet w x1 x0 y) := by
 have hlz := fun W => nlz_any y W hy (by omega)
 have hs64 := hl.1
 obtain ⟨e1, e2, e3⟩ := shift_words hx1 hx0 hl
 obtain ⟨d, hd⟩ : ∃ d, d = y * 2 ^ s := ⟨_, rfl⟩
 have hd1 : 9223372036854775808 ≤ d := by rw [hd]; exact hl.2.1
 have hd2 : d < 18446744073709551616 := by rw [hd]; exact hl.2.2
 obtain ⟨X1, hX1⟩ : ∃ x, x = x1 * 2 ^ s + x0 / 2 ^ (64 - s) := ⟨_, rfl⟩
 obtain ⟨X0, hX0⟩ : ∃ x, x = x0 * 2 ^ s % 18446744073709551616 := ⟨_, rfl⟩
 rw [← hd] at hk hk1 e3
 rw [← hX1] at e1 e3
 have e1' := e1
 rw [← hX0] at e1
 have hX064 : X0 < 18446744073709551616 := by rw [hX0]; exact Nat.mod_lt _ (by omega)
 -- the guess and what is left
 obtain ⟨q, hq⟩ : ∃ q, q = ((m + 18446744073709551616) * X1 + X0) / 18446744073709551616 := ⟨_, rfl⟩
 obtain ⟨f, hf⟩ : ∃ f, f = ((m + 18446744073709551616) * X1 + X0) % 18446744073709551616 := ⟨_, rfl⟩
 have hqf : q * 18446744073709551616 + f = (m + 18446744073709551616) * X1 + X0 := by
  rw [hq, hf, Nat.mul_comm]; exact Nat.div_add_mod _ _
 have hf1 : f < 18446744073709551616 := by rw [hf]; exact Nat.mod_lt _ (by omega)
 obtain ⟨b1, b2⟩ := mg_bound hk hk1 (Nat.le_of_lt hd2) (by omega) e3 hX064 hqf hf1
 obtain ⟨r, hr⟩ := Nat.exists_eq_add_of_le b1
 have hrb : r < 18446744073709551616 + d := by omega
 have hX164 : X1 < 18446744073709551616 := by omega
 have hq64 : q < 18446744073709551616 := by
  rcases Nat.lt_or_ge q 18446744073709551616 with h | h
  · exact h
  · exfalso
    have h1 : d * 18446744073709551616 ≤ d * q := Nat.mul_le_mul_left _ h
    have h2 : (X1 + 1) * 18446744073709551616 ≤ d * 18446744073709551616 := Nat.mul_le_mul_right _ e3
    omega
 have hgw := guess_words hX164 hX064 hm (by rw [← hq]; exact hq64)
 rw [← hq] at hgw
 obtain ⟨hdw0, hdw1⟩ := diff_words hX164 hX064 hr (by omega)
 have hmul1 := fun W => bits_Mul m X1 hm hX164 W
 have hadd1 := fun W => bits_Add (mulL m X1) X0 0 (by omega) W
 have hadd2 := fun W => bits_Add (mulH m X1) X1 (addC (mulL m X1) X0 0) (by unfold addC mulL; omega) W
 have hmul2 := fun W => bits_Mul d q hd2 hq64 W
 have hsub1 := fun W => bits_Sub X0 (mulL d q) 0 (by omega) W
 have hsub2 := fun W => bits_Sub X1 (mulH d q) (subC X0 (mulL d q) 0) (by unfold subC; split <;> omega) W
 rw [hgw] at hadd2
 rw [hdw0] at hsub1
 rw [hdw1] at hsub2
 obtain ⟨q', r', q'', r'', c1, c2, c3, c4, c5⟩ := mg_fix hr hrb (by omega) (Nat.le_of_lt hd2) (by omega)
 obtain ⟨f1, f2⟩ := scaled_div (a := x1 * 18446744073709551616 + x0) (b := y) (t := 2 ^ s) (q := q'') (r := r'') (by rw [← e1, ← hd]; exact c4) (by rw [← hd]; exact c5) (Nat.pow_pos (by omega))
 have hq2 : q'' < 18446744073709551616 := by
  rcases Nat.lt_or_ge q'' 18446744073709551616 with h | h
  · exact h
  · exfalso
    have h1 : d * 18446744073709551616 ≤ d * q'' := Nat.mul_le_mul_left _ h
    have h2 : (X1 + 1) * 18446744073709551616 ≤ d * 18446744073709551616 := Nat.mul_le_mul_right _ e3
    omega
 obtain ⟨rr, hrr⟩ : ∃ x, x = r'' / 2 ^ s := ⟨_, rfl⟩
 rw [← hrr] at f1 f2
 have hrI : (r'' : Int) / 2 ^ s = (rr : Int) := by rw [hrr]; simp
 have hfin : x1 * 18446744073709551616 + x0 = q'' * y + rr := by rw [Nat.mul_comm q'' y]; exact f1
 -- the words of the first remainder
 obtain ⟨r0, hr0⟩ : ∃ x, x = r % 18446744073709551616 := ⟨_, rfl⟩
 obtain ⟨r1, hr1⟩ : ∃ x, x = r / 18446744073709551616 := ⟨_, rfl⟩
 rw [← hr0] at hsub1
 rw [← hr1] at hsub2
 have hsN : ¬ s = 0 := by omega
 have t0 : ((s : Int) != 0) = true := by simp; omega
 obtain ⟨h1, hh1⟩ : ∃ x, x = x1 * 2 ^ s := ⟨_, rfl⟩
 obtain ⟨h2, hh2⟩ : ∃ x, x = x0 / 2 ^ (64 - s) := ⟨_, rfl⟩
 have v1 : IntKind.u64.wrap ((x1 : Int) * 2 ^ s) = (h1 : Int) := by
  rw [show (x1 : Int) * 2 ^ s = ((x1 * 2 ^ s : Nat) : Int) from by simp, ← hh1]; exact wum _ (by omega)
 obtain ⟨k1, hk1'⟩ : ∃ k, k = 64 - s := ⟨_, rfl⟩
 have v2 : (64 : Int) - (s : Int) = (k1 : Int) := by omega
 have v3 : (x0 : Int) / 2 ^ k1 = (h2 : Int) := by rw [hh2, hk1']; simp
 have v4 : bits BinOp.or IntKind.u64 (h1 : Int) (h2 : Int) = (X1 : Int) := by
  rw [bits_or_u64_nat _ _ (by omega) (by omega)]
  have := Nat.shiftLeft_add_eq_or_of_lt (i := s) (b := h2) (by rw [hh2]; exact e2) x1
  rw [Nat.shiftLeft_eq, ← hh1] at this
  rw [← this, hX1, ← hh1, ← hh2]
 have v5 : IntKind.u64.wrap ((x0 : Int) * 2 ^ s) = (X0 : Int) := by
  rw [show (x0 : Int) * 2 ^ s = ((x0 * 2 ^ s : Nat) : Int) from by simp, wrap_u64_mod, hX0]
 have v6 : IntKind.u64.wrap ((y : Int) * 2 ^ s) = (d : Int) := by
  rw [show (y : Int) * 2 ^ s = ((y * 2 ^ s : Nat) : Int) from by simp, ← hd]; exact wum _ hd2
 have hk64 : (k1 : Int) < 64 := by omega
 clear hh1 hh2 hk1'
 clear hk hk1 e1 e1' e2 b1 b2 hqf hf1 hf hq hgw hdw0 hdw1 f1 hr hrr 
 have H_hlz := hid hlz; have H_hl := hid hl; have H_hmul1 := hid hmul1; have H_hadd1 := hid hadd1; have H_hadd2 := hid hadd2; have H_hmul2 := hid hmul2; have H_hsub1 := hid hsub1; have H_hsub2 := hid hsub2; have H_c4 := hid c4; have H_hfin := hid hfin; have H_hX1 := hid hX1; have H_hX0 := hid hX0; have H_hd := hid hd; have H_hr0 := hid hr0; have H_hr1 := hid hr1; clear hlz hl hmul1 hadd1 hadd2 hmul2 hsub1 hsub2 c4 hfin hX1 hX0 hd hr0 hr1
 go_enter Tryz.func210, Tryz.ntmps210
 go_wp2_with (fail)
 refine (H_hlz.out _).mono ?_
 rintro e w2 ⟨s', rfl, hl', hs⟩
 subst hs
 obtain rfl := lead_unique H_hl.out hl'
 clear hl'
 go_wp2_with (fail)
 refine (H_hmul1.out _).mono ?_
 rintro e w3 ⟨rfl, hs⟩
 subst hs
 go_wp2_with (fail)
 refine (H_hadd1.out _).mono ?_
 rintro e w3 ⟨rfl, hs⟩
 subst hs
 go_wp2_with (fail)
 refine (H_hadd2.out _).mono ?_
 rintro e w3 ⟨rfl, hs⟩
 subst hs
 go_wp2_with (fail)
 refine (H_hmul2.out _).mono ?_
 rintro e w3 ⟨rfl, hs⟩
 subst hs
 go_wp2_with (fail)
 refine (H_hsub1.out _).mono ?_
 rintro e w3 ⟨rfl, hs⟩
 subst hs
 go_wp2_with (fail)
 refine (H_hsub2.out _).mono ?_
 rintro e w3 ⟨rfl, hs⟩
 subst hs
 have hr0 := H_hr0.out
 have hr1 := H_hr1.out
 rcases c1 with ⟨g0, gq0, gr0⟩ | ⟨g0, gq0, gr0⟩
 · have w1 : r1 = 1 := by omega
   have w3 : IntKind.u64.wrap ((r0 : Int) - (d : Int)) = (r' : Int) := by rw [wrap_u64_int]; omega
   have w4 : (q : Int) + 1 = (q' : Int) := by omega
   have hqa9 : q' < 18446744073709551616 := by rcases c3 with ⟨_, h, _⟩ | ⟨_, h, _⟩ <;> omega
   have w5 : IntKind.u64.wrap (q' : Int) = (q' : Int) := wum _ hqa9
   subst w1
   clear hr0 hr1 gq0 gr0
   rcases c3 with ⟨g1, gq, gr⟩ | ⟨g1, gq, gr⟩
   · have u1 : decide ((d : Int) ≤ (r' : Int)) = true := by simp; omega
     have u2 : (r' : Int) - (d : Int) = (r'' : Int) := by omega
     have u3 : IntKind.u64.wrap (r'' : Int) = (r'' : Int) := wum _ (by omega)
     have u4 : (q' : Int) + 1 = (q'' : Int) := by omega
     have u5 : IntKind.u64.wrap (q'' : Int) = (q'' : Int) := wum _ hq2
     clear gq gr
     go_wp2_with (fail)
     go_ret2
     exact ⟨q'', _, rfl, H_hfin.out, f2, hq2, Keep.refl _ _⟩
   · have u1 : decide ((d : Int) ≤ (r' : Int)) = false := by simp; omega
     have u1n : ¬ d ≤ r' := by omega
     subst gq gr
     go_wp2_with (fail)
     go_ret2
     exact ⟨_, _, rfl, H_hfin.out, f2, hq2, Keep.refl _ _⟩
 · have w1 : r1 = 0 := by omega
   obtain rfl : r' = r0 := by omega
   obtain rfl : q' = q := by omega
   subst w1
   clear hr0 hr1 gr0
   rcases c3 with ⟨g1, gq, gr⟩ | ⟨g1, gq, gr⟩
   · have u1 : decide ((d : Int) ≤ (r' : Int)) = true := by simp; omega
     have u2 : (r' : Int) - (d : Int) = (r'' : Int) := by omega
     have u3 : IntKind.u64.wrap (r'' : Int) = (r'' : Int) := wum _ (by omega)
     have u4 : (q' : Int) + 1 = (q'' : Int) := by omega
     have u5 : IntKind.u64.wrap (q'' : Int) = (q'' : Int) := wum _ hq2
     clear gq gr
     go_wp2_with (fail)
     go_ret2
     exact ⟨q'', _, rfl, H_hfin.out, f2, hq2, Keep.refl _ _⟩
   · have u1 : decide ((d : Int) ≤ (r' : Int)) = false := by simp; omega
     have u1n : ¬ d ≤ r' := by omega
     subst gq gr
     go_wp2_with (fail)
     go_ret2
     exact ⟨_, _, rfl, H_hfin.out, f2, hq2, Keep.refl _ _⟩

theorem divWW_any (x1 x0 y m : Nat) (w : World) (hx1 : x1 < y) (hx0 : x0 < 18446744073709551616) (hy : y < 18446744073709551616) (hm : Recip y m) :
 Calls Tryz.prog 210 #[.int .u64 x1, .int .u64 x0, .int .u64 y, .int .u64 m] w (DivRet w x1 x0 y) := by
 obtain ⟨s, k, hl, hk, _, hk1, hm1⟩ := hm
 rcases Nat.eq_zero_or_pos s with h | h
 · exact divWW_zero x1 x0 y m s w hx1 hx0 hy hl hm1 k hk hk1 h
 · exact divWW_shift x1 x0 y m s w hx1 hx0 hy hl hm1 k hk hk1 h

end Go.Proofs.YtllencgncinphaaGreatDoor
