/- The contracts of the thin package: FixNeg. -/
import Derived.Defers
import Derived.Recover
import Derived.Test.YtmgidnjpkbgmgabGreatDoorKB4
namespace Go.Proofs.YtmgidnjpkbgmgabGreatDoor
open Go.RowKit

theorem results_cell_cell {P : Program} {fn : Func} {p q : Tmp} {ty ty' : TypeId} (h : fn.results = #[.cell p ty, .cell q ty']) (tmps : Array Value) (w : World) (g : Nat) (t : TypeId) (cs : Array Value) (fr : Nat × Nat) (d : TypeDesc) (g' : Nat) (v : Value)
    (hp : tmps.getD p undef = .pointer (some ⟨g, 0, none⟩)) (hq : tmps.getD q undef = .pointer (some ⟨g', 0, none⟩)) (hg : w.heap[g]? = some (.cells cs t fr)) (hu : P.underlying ty = some d) (hd : (match d with | .struct _ | .array _ _ => true | _ => false) = true) (hi : (P.info? ty).map (·.size) = some cs.size)
    (hv : (loadVar ty' ⟨g', 0, none⟩).run P w = .ok v w) :
    (results fn tmps).run P w = .ok (.tuple #[.agg cs, v]) w := by
  have hp' : tmps[p]?.getD undef = .pointer (some ⟨g, 0, none⟩) := by simpa using hp
  have hq' : tmps[q]?.getD undef = .pointer (some ⟨g', 0, none⟩) := by simpa using hq
  simp [results, h, hp', hq', asAddr, run_loadVar_row w g t ty cs fr d hg hu hd hi, hv, Sem.run_bind, Result.andThen]

theorem row_far {w : World} {g h o : Nat} {x : Value} (hne : h ≠ g) : (w.setCell ⟨h, o, none⟩ x).heap[g]? = w.heap[g]? := by
  simp only [World.setCell, Array.getElem?_modify]
  rw [if_neg hne]

end Go.Proofs.YtmgidnjpkbgmgabGreatDoor

/- The contracts of the thin package: FixAbs. -/
namespace Go.Proofs.YtmgidnjpkbgmgabGreatDoor
open Go.RowKit

end Go.Proofs.YtmgidnjpkbgmgabGreatDoor

/- The contracts of govalues' decimals: CopySign. -/
namespace Go.Proofs.YtmgidnjpkbgmgabGreatDoor
open Go.RowKit

end Go.Proofs.YtmgidnjpkbgmgabGreatDoor

/- The contracts of the thin package: FixCopySign. -/
namespace Go.Proofs.YtmgidnjpkbgmgabGreatDoor
open Go.RowKit

theorem boxes4 (w : World) (c1 c2 c3 c4 : Array Value) (T1 T2 T3 T4 : TypeId) : ∀ g, g = w.heap.size → ∀ w1, (((w.alloc (.cells c1 T1)).alloc (.cells c2 T2)).alloc (.cells c3 T3)).alloc (.cells c4 T4) = w1 →
    w1.heap[g]? = some (.cells c1 T1 (0, 0)) ∧ w1.heap[g + 1]? = some (.cells c2 T2 (0, 0)) ∧ w1.heap[g + 1 + 1]? = some (.cells c3 T3 (0, 0)) ∧ w1.heap[g + 1 + 1 + 1]? = some (.cells c4 T4 (0, 0)) ∧ Fresh w w1 := by
  rintro g hg w1 rfl
  obtain ⟨b1, b2, b3, hf, hgs⟩ := boxes3 w c1 c2 c3 T1 T2 T3 g hg _ rfl
  have f4 : Fresh (((w.alloc (.cells c1 T1)).alloc (.cells c2 T2)).alloc (.cells c3 T3)) ((((w.alloc (.cells c1 T1)).alloc (.cells c2 T2)).alloc (.cells c3 T3)).alloc (.cells c4 T4)) := (Keep.refl _ _).alloc _
  refine ⟨row_fresh b1 f4, row_fresh b2 f4, row_fresh b3 f4, ?_, fresh_trans hf f4⟩
  have s3 : (((w.alloc (.cells c1 T1)).alloc (.cells c2 T2)).alloc (.cells c3 T3)).heap.size = g + 1 + 1 + 1 := by simp [hg]
  rw [← s3]
  exact heap_alloc_new _ _

end Go.Proofs.YtmgidnjpkbgmgabGreatDoor

/- The contracts of govalues' whole numbers of 64 bits: prec, ntz; and the laws of digits and of zeros at the end. -/
namespace Go.Proofs.YtmgidnjpkbgmgabGreatDoor
open Go.RowKit

/-- p is how many decimal digits c has; 0 for 0 -/
def IsPrec (c p : Nat) : Prop := c < 10 ^ p ∧ (0 < p → 10 ^ (p - 1) ≤ c)

theorem IsPrec.lt_iff {c p m : Nat} (h : IsPrec c p) : c < 10 ^ m ↔ p ≤ m := by
  refine ⟨fun h1 => ?_, fun h1 => Nat.lt_of_lt_of_le h.1 (Nat.pow_le_pow_right (by decide) h1)⟩
  refine Nat.le_of_not_lt fun h2 => ?_
  have h3 := h.2 (by omega)
  have h4 : 10 ^ m ≤ 10 ^ (p - 1) := Nat.pow_le_pow_right (by decide) (by omega)
  omega

theorem IsPrec.unique {c p q : Nat} (h : IsPrec c p) (k : IsPrec c q) : p = q :=
  Nat.le_antisymm (h.lt_iff.1 k.1) (k.lt_iff.1 h.1)

theorem isPrec_ex : ∀ (n c : Nat), c < 10 ^ n → ∃ p, p ≤ n ∧ IsPrec c p
  | 0, c, h => ⟨0, Nat.le_refl _, h, fun h => absurd h (by decide)⟩
  | n+1, c, h => by
    by_cases h1 : c < 10 ^ n
    · obtain ⟨p, h2, h3⟩ := isPrec_ex n c h1
      exact ⟨p, by omega, h3⟩
    · exact ⟨n+1, Nat.le_refl _, h, fun _ => by simpa using Nat.le_of_not_lt h1⟩

/-- the table of the powers of ten holds what it is laid -/
def Pow10s (w : World) : Prop := ∀ i : Nat, i < 20 → w.cell? ⟨3, i, none⟩ = some (.int .u64 ((10 ^ i : Nat) : Int))

theorem Pow10s.fresh {w w' : World} (h : Pow10s w) (hk : Fresh w w') : Pow10s w' := fun i hi => cell_fresh (h i hi) hk

theorem half_sum (a b : Nat) : Int.tdiv ((a : Int) + (b : Int)) 2 = (((a + b) / 2 : Nat) : Int) := by
  rw [Int.tdiv_eq_ediv_of_nonneg (by omega)]; omega

end Go.Proofs.YtmgidnjpkbgmgabGreatDoor

/- The contracts of the reference: natShort, Trim. -/
namespace Go.Proofs.YtmgidnjpkbgmgabGreatDoor
open Go.RowKit

/-- one step of a short division -/
theorem short_step {b Q r S x : Nat} (h : S = b * Q + r) :
    x + 1000000000 * S = b * (((r * 1000000000 + x) / b) + 1000000000 * Q) + (r * 1000000000 + x) % b := by
  have h1 := Nat.div_add_mod (r * 1000000000 + x) b
  generalize (r * 1000000000 + x) / b = d at *
  generalize (r * 1000000000 + x) % b = m at *
  subst h
  grind

theorem short_lim {b r x : Nat} (hb : 0 < b) (hr : r < b) (hx : x < 1000000000) : (r * 1000000000 + x) / b < 1000000000 := by
  rw [Nat.div_lt_iff_lt_mul hb]
  have : (r + 1) * 1000000000 ≤ b * 1000000000 := Nat.mul_le_mul_right _ hr
  omega

theorem short_room {b r x : Nat} (hb : b ≤ 1000000000) (hr : r < b) (hx : x < 1000000000) : r * 1000000000 + x < 1000000000000000000 := by
  have : r * 1000000000 ≤ 999999999 * 1000000000 := Nat.mul_le_mul_right _ (by omega)
  omega

theorem rep_set_cons (q x : Nat) (Q : List Nat) : (List.replicate (q + 1) 0 ++ Q).set q x = List.replicate q 0 ++ x :: Q := by
  rw [List.set_append_left _ _ (by simp), rep_set, List.append_assoc]; rfl

theorem drop_cons_getD {l : List Nat} {k : Nat} (h : k < l.length) : l.drop k = l.getD k 0 :: l.drop (k + 1) := by
  rw [List.drop_eq_getElem_cons h]; simp [List.getD, h]

set_option maxRecDepth 20000 in
set_option maxHeartbeats 1000000 in
theorem natShort_any (v : Value) (l : List Nat) (b : Nat) (w : World) (h : SNat w v l) (hlen : l.length ≤ 1000000) (hb0 : 0 < b) (hb : b ≤ 1000000000) :
    Calls Tryz.prog 99 #[v, .int .u32 b] w (fun e w' => ∃ q m, e = .returned (.tuple #[q, .int .u32 (sval l % b : Nat)]) ∧ SNat w' q m ∧ Norm m ∧ sval m = sval l / b ∧ Fresh w w') := by
  obtain ⟨a, c, rfl⟩ := h.form
  obtain ⟨n, hn⟩ : ∃ n, n = l.length := ⟨_, rfl⟩
  rw [← hn] at h hlen ⊢
  obtain ⟨o, ho, mk⟩ := make_u32 n w (by omega)
  have t0 : ((b : Int) == 0) = false := by rw [beq_eq_false_iff_ne]; omega
  have H_h := Lib.hid h; clear h
  have H_hn := Lib.hid hn; clear hn
  go_enter Tryz.func99, Tryz.ntmps99
  go_wp2_with (fail)
  go_loopw [7, 8] (fun rv i wr => ∃ (k r : Nat) (Q : List Nat), k ≤ n ∧ i = .int .i64 ((k : Int) - 1) ∧ rv = .int .u64 r ∧ r < b ∧ Hid (Q.length = n - k) ∧ Hid (Lim Q) ∧ Hid (sval (l.drop k) = b * sval Q + r) ∧ Hid (Blk .u32 wr w.heap.size (List.replicate k 0 ++ Q)) ∧ Hid (Fresh w wr)) (fun _ i _ => (intOf i + 1).toNat)
  case atStart =>
    refine ⟨n, 0, [], Nat.le_refl _, rfl, rfl, hb0, Lib.hid (by simp), Lim.nil, Lib.hid (by rw [List.drop_of_length_le (by have := H_hn.out; omega)]; simp [sval]), Lib.hid (by rw [List.append_nil]; exact ho.out), (Keep.refl _ _).alloc o⟩
  case round =>
    obtain ⟨k, r, Q, hk, rfl, rfl, hr, hQl, hQlim, hQv, hblk, hfr⟩ := hrel
    by_cases hk0 : k = 0
    · subst hk0
      have e0 : List.replicate 0 0 ++ Q = Q := by simp
      have hbk := hblk.out
      rw [e0] at hbk
      have hs := SNat.of_blk hbk hQlim.out (by have := hQl.out; omega)
      rw [show Q.length = n by have := hQl.out; omega] at hs
      have hcall := natTrim_any _ _ _ hs
      have hv : sval l = b * sval Q + r := by have := hQv.out; simpa using this
      have H_hcall := Lib.hid hcall; clear hcall
      have H_hv := Lib.hid hv; clear hv
      clear hbk hs e0
      go_wp2_with (fail)
      refine H_hcall.out.mono ?_
      rintro e w2 ⟨v, m, rfl, h1, h2, h3, h4⟩
      have H_h1 := Lib.hid h1; clear h1
      have H_h2 := Lib.hid h2; clear h2
      have H_h3 := Lib.hid h3; clear h3
      have H_h4 := Lib.hid h4; clear h4
      go_wp2_with (fail)
      go_ret2
      have h5 := H_hv.out
      have h6 : sval l / b = sval Q ∧ sval l % b = r := by
        rw [h5]
        exact ⟨by rw [Nat.mul_add_div hb0, Nat.div_eq_of_lt hr, Nat.add_zero], by rw [Nat.mul_add_mod, Nat.mod_eq_of_lt hr]⟩
      exact ⟨v, m, by rw [h6.2]; rfl, H_h1.out, H_h2.out, by rw [H_h3.out, h6.1], hfr.out.trans H_h4.out (fun _ _ h => h) (fun _ _ h => h)⟩
    · obtain ⟨j, rfl⟩ : ∃ j, k = j + 1 := ⟨k - 1, by omega⟩
      obtain ⟨gx, rfl, hcx, hgx, hcells⟩ := (H_h.out.fresh hfr.out).cells H_hn.out (by omega)
      have hxj := hcells j (by omega)
      have hxlim := H_h.out.lim.getD j
      obtain ⟨x, hxx⟩ : ∃ x, x = l.getD j 0 := ⟨_, rfl⟩
      rw [← hxx] at hxj hxlim
      have b1 := short_lim hb0 hr hxlim
      have b2 := short_room hb hr hxlim
      have hL : (List.replicate (j + 1) 0 ++ Q).length = n := by have := hQl.out; simp; omega
      have hcell := hblk.out.cell (o := j) (by rw [hL]; omega)
      have hfroz := hblk.out.frozen j
      generalize (List.replicate (j + 1) 0 ++ Q).getD j 0 = z9 at hcell
      have hset := hblk.out.set j ((r * 1000000000 + x) / b)
      rw [rep_set_cons] at hset
      have hstep := short_step (b := b) (x := x) hQv.out
      have hv' : sval (l.drop j) = x + 1000000000 * sval (l.drop (j + 1)) := by rw [drop_cons_getD (by have := H_hn.out; omega), ← hxx]; rfl
      rw [← hv'] at hstep
      have hm : (r * 1000000000 + x) % b < b := Nat.mod_lt _ hb0
      have hcast : (r : Int) * 1000000000 + (x : Int) = ((r * 1000000000 + x : Nat) : Int) := by omega
      have hq2 : Int.tdiv ((r : Int) * 1000000000 + (x : Int)) (b : Int) = (((r * 1000000000 + x) / b : Nat) : Int) := by rw [hcast, Int.tdiv_eq_ediv_of_nonneg (by omega)]; rfl
      have hr2 : Int.tmod ((r : Int) * 1000000000 + (x : Int)) (b : Int) = (((r * 1000000000 + x) % b : Nat) : Int) := by rw [hcast, Int.tmod_eq_emod_of_nonneg (by omega)]; rfl
      generalize (r * 1000000000 + x) / b = q1 at *
      generalize (r * 1000000000 + x) % b = r1 at *
      have H_hcells := Lib.hid hcells; clear hcells
      have H_hxx := Lib.hid hxx; clear hxx
      have H_hL := Lib.hid hL; clear hL
      have H_hv' := Lib.hid hv'; clear hv'
      have H_hset := Lib.hid hset; clear hset
      have H_hstep := Lib.hid hstep; clear hstep
      clear hcast
      go_wp2_with (fail)
      go_roundw
      case rel =>
        refine ⟨j, r1, q1 :: Q, by omega, rfl, rfl, hm, Lib.hid (by have := hQl.out; simp; omega), ?_, H_hstep, H_hset, Lib.hid (hfr.out.setCell (fun h => absurd h (Nat.lt_irrefl _)) _)⟩
        intro z hz
        rcases List.mem_cons.1 hz with h1 | h1
        · omega
        · exact hQlim.out z h1
      case measure => simp [intOf]

end Go.Proofs.YtmgidnjpkbgmgabGreatDoor

/- The plain laws of sums, differences and quotients of numbers of limbs. -/
namespace Go.Proofs.YtmgidnjpkbgmgabGreatDoor
open Go.RowKit

/-- a number without limbs of 0 at its end is one by its value -/
theorem norm_of_ge {l : List Nat} (hl : Lim l) (h : ∀ k, l.length = k + 1 → spow k ≤ sval l) : Norm l := by
  intro k hk h0
  have h1 := sval_take_succ (l := l) (k := k) (by omega)
  rw [← hk, List.take_length, h0] at h1
  have h2 := sval_lt (hl.take k)
  rw [List.length_take, Nat.min_eq_left (by omega)] at h2
  have := h k hk
  omega

theorem sval_take_succ' (l : List Nat) (k : Nat) : sval (l.take (k + 1)) = sval (l.take k) + spow k * l.getD k 0 := by
  by_cases h : k < l.length
  · exact sval_take_succ h
  · rw [List.take_of_length_le (by omega), List.take_of_length_le (by omega)]
    simp [List.getD, List.getElem?_eq_none (Nat.le_of_not_lt h)]

/-- one step of a sum -/
theorem add_step {O S c X Y x y t : Nat} (h : O + S * c = X + Y) (ht : t = c + x + y) :
    (O + S * (t % 1000000000)) + 1000000000 * S * (t / 1000000000) = (X + S * x) + (Y + S * y) := by
  have h1 := Nat.div_add_mod t 1000000000
  generalize t / 1000000000 = d at *
  generalize t % 1000000000 = m at *
  have : S * (1000000000 * d + m) = S * (c + x + y) := by rw [h1, ht]
  grind

/-- one step of a difference: nothing is borrowed -/
theorem sub_step0 {O S b X Y x y : Nat} (h : X + S * b = O + Y) (hy : b + y ≤ x) : (X + S * x) + 1000000000 * S * 0 = (O + S * (x - (b + y))) + (Y + S * y) := by
  have : S * x = S * (x - (b + y)) + S * (b + y) := by rw [← Nat.mul_add]; congr 1; omega
  rw [this, Nat.mul_add]
  omega

/-- one step of a difference: one is borrowed -/
theorem sub_step1 {O S b X Y x y : Nat} (h : X + S * b = O + Y) (hy : b + y ≤ x + 1000000000) : (X + S * x) + 1000000000 * S * 1 = (O + S * (x + 1000000000 - (b + y))) + (Y + S * y) := by
  have h1 : S * (x + 1000000000) = S * (x + 1000000000 - (b + y)) + S * (b + y) := by rw [← Nat.mul_add]; congr 1; omega
  have h2 : 1000000000 * S * 1 = S * 1000000000 := by rw [Nat.mul_one, Nat.mul_comm]
  rw [h2]
  rw [Nat.mul_add, Nat.mul_add] at h1
  omega

/-- a guess by the highest limbs is not less than the digit -/
theorem guess_ge {r y k top yt : Nat} (hr : r < (top + 1) * spow k) (hy : yt * spow k ≤ y) (ht : 0 < yt) (hlim : r < 1000000000 * y) :
    r / y ≤ min (top / yt) 999999999 := by
  have hy0 : 0 < y := Nat.lt_of_lt_of_le (Nat.mul_pos ht (spow_pos k)) hy
  have h1 : r / y < 1000000000 := by rw [Nat.div_lt_iff_lt_mul hy0]; exact hlim
  have h2 : r / y ≤ top / yt := by
    rw [Nat.le_div_iff_mul_le ht]
    have h3 : r / y * y ≤ r := Nat.div_mul_le_self r y
    have h4 : r / y * (yt * spow k) ≤ r / y * y := Nat.mul_le_mul_left _ hy
    have h5 : r / y * yt * spow k < (top + 1) * spow k := by rw [Nat.mul_assoc]; omega
    have h6 := Nat.lt_of_mul_lt_mul_right h5
    omega
  omega

/-- one digit of a long division -/
theorem long_step {S y Q r x d r' : Nat} (h : S = y * Q + r) (hd : d = (x + 1000000000 * r) / y) (hr' : r' = (x + 1000000000 * r) - y * d) (hy : 0 < y) :
    x + 1000000000 * S = y * (d + 1000000000 * Q) + r' ∧ r' < y := by
  have h1 := Nat.div_add_mod (x + 1000000000 * r) y
  have h2 := Nat.mod_lt (x + 1000000000 * r) hy
  rw [← hd] at h1
  generalize hR : x + 1000000000 * r = R at *
  have e : r' = R % y := by omega
  constructor
  · subst h
    have : y * (d + 1000000000 * Q) = y * d + 1000000000 * (y * Q) := by rw [Nat.mul_add, Nat.mul_left_comm]
    omega
  · omega

/-- what the scaling leaves -/
theorem scaled_div {a b t q r : Nat} (h : a * t = b * t * q + r) (hr : r < b * t) (ht : 0 < t) : a = b * q + r / t ∧ r / t < b := by
  have hd : t ∣ r := by
    have h1 : t ∣ a * t := ⟨a, Nat.mul_comm _ _⟩
    have h2 : t ∣ b * t * q := ⟨b * q, by rw [Nat.mul_comm b t, Nat.mul_assoc]⟩
    rw [h] at h1
    exact (Nat.dvd_add_right h2).1 h1
  obtain ⟨c, rfl⟩ := hd
  have hc : t * c / t = c := Nat.mul_div_cancel_left c ht
  rw [hc]
  constructor
  · have : t * a = t * (b * q + c) := by rw [Nat.mul_comm t a, h, Nat.mul_add]; congr 1; rw [Nat.mul_comm b t, Nat.mul_assoc]
    exact Nat.eq_of_mul_eq_mul_left ht this
  · rw [Nat.mul_comm b t] at hr
    exact Nat.lt_of_mul_lt_mul_left hr

end Go.Proofs.YtmgidnjpkbgmgabGreatDoor

/- The contracts of the reference's natural numbers: NatAdd. -/
namespace Go.Proofs.YtmgidnjpkbgmgabGreatDoor
open Go.RowKit

theorem getD_out {l : List Nat} {k : Nat} (h : l.length ≤ k) : l.getD k 0 = 0 := by simp [List.getD, List.getElem?_eq_none h]

set_option maxRecDepth 20000 in
set_option maxHeartbeats 4000000 in
theorem NatAdd_any (xv yv : Value) (xs ys : List Nat) (w : World) (hx : SNat w xv xs) (hy : SNat w yv ys) (hnx : Norm xs) (hny : Norm ys) (hlx : xs.length ≤ 100000) (hly : ys.length ≤ 100000) :
    Calls Tryz.prog 81 #[xv, yv] w (SRet w (sval xs + sval ys)) := by
  obtain ⟨i0, hi, hz0, hz1, hz2⟩ := info_parts info_u32
  obtain ⟨ax, cx, rfl⟩ := hx.form
  obtain ⟨ay, cy, rfl⟩ := hy.form
  obtain ⟨n, hn⟩ : ∃ n, n = xs.length := ⟨_, rfl⟩
  obtain ⟨m, hmm⟩ : ∃ m, m = ys.length := ⟨_, rfl⟩
  obtain ⟨M, hM⟩ : ∃ M, M = max n m := ⟨_, rfl⟩
  have hM1 : n ≤ M := by omega
  have hM2 : m ≤ M := by omega
  have hM3 : M ≤ 100000 := by omega
  rw [← hn] at hlx hx ⊢
  rw [← hmm] at hly hy ⊢
  have hend : ∀ k L, Lim L → L.length = k → sval L = sval xs + sval ys → (M < k → spow (k - 1) ≤ sval xs + sval ys) → M ≤ k → Norm L := fun k L hl hk hv hb hMk => norm_of_ge hl (fun j hj => by
    rw [hv]
    rcases Nat.lt_or_ge M k with h | h
    · have := hb h
      rwa [show k - 1 = j by omega] at this
    · have hkM : k = M := by omega
      rcases Nat.lt_or_ge n m with h2 | h2
      · have := hny.s_ge (k := j) (by omega)
        omega
      · have := hnx.s_ge (k := j) (by omega)
        omega)
  have H_hx := Lib.hid hx; clear hx
  have H_hy := Lib.hid hy; clear hy
  have H_hn := Lib.hid hn; clear hn
  have H_hmm := Lib.hid hmm; clear hmm
  have H_hM := Lib.hid hM; clear hM
  have H_hend := Lib.hid hend; clear hend
  have H_hnx := Lib.hid hnx; clear hnx
  have H_hny := Lib.hid hny; clear hny
  go_enter Tryz.func81, Tryz.ntmps81
  go_wp2_with (fail)
  go_loopw [5, 6, 7] (fun o b i wr => ∃ (k c : Nat) (L : List Nat), k ≤ M + 1 ∧ i = .int .i64 k ∧ b = .int .u32 c ∧ c ≤ 1 ∧ (k = M + 1 → c = 0) ∧ wr.ownsRow w.heap.size 102 1 o L.length (L.map (wd .u32)) ∧ Hid (Lim L) ∧ Hid (L.length = k) ∧ Hid (sval L + spow k * c = sval (xs.take k) + sval (ys.take k)) ∧ Hid (M < k → spow (k - 1) ≤ sval xs + sval ys) ∧ Hid (Fresh w wr)) (fun _ _ i _ => M + 2 - (intOf i).toNat)
  case atStart => exact ⟨0, 0, [], by omega, rfl, rfl, by omega, fun _ => rfl, World.ownsRow_nil _ _ _ _, Lim.nil, Lib.hid rfl, Lib.hid (by simp [sval]), Lib.hid (fun h => by omega), Keep.refl _ _⟩
  case round =>
    obtain ⟨k, c, L, hk, rfl, rfl, hc, hcM, hown, hlim, hLl, hval, hbig, hfr⟩ := hrel
    have H_hown := Lib.hid hown
    clear hown
    have hsz := hfr.out.size
    have hLk := hLl.out
    have hxlim := H_hx.out.lim.getD k
    have hylim := H_hy.out.lim.getD k
    obtain ⟨x, hxx⟩ : ∃ x, x = xs.getD k 0 := ⟨_, rfl⟩
    obtain ⟨y, hyy⟩ : ∃ y, y = ys.getD k 0 := ⟨_, rfl⟩
    obtain ⟨d, hd⟩ : ∃ d, d = c + x := ⟨_, rfl⟩
    obtain ⟨t, ht⟩ : ∃ t, t = d + y := ⟨_, rfl⟩
    rw [← hxx] at hxlim
    rw [← hyy] at hylim
    have hstep : sval (L ++ [t % 1000000000]) + spow (k + 1) * (t / 1000000000) = sval (xs.take (k + 1)) + sval (ys.take (k + 1)) := by
      have := add_step (x := x) (y := y) (t := t) hval.out (by omega)
      rw [sval_take_succ' xs k, sval_take_succ' ys k, spow_succ, sval_append, hLk, ← hxx, ← hyy]
      simpa [sval] using this
    have hq9 : t % 1000000000 < 1000000000 := by omega
    have hc9 : t / 1000000000 ≤ 1 := by omega
    have hd9 : d ≤ 1000000000 := by omega
    have ht9 : t ≤ 1999999999 := by omega
    have hdI : (c : Int) + (x : Int) = (d : Int) := by omega
    have htI : (d : Int) + (y : Int) = (t : Int) := by omega
    have hown2 := H_hown.out
    rw [hLk] at hown2
    by_cases hcase : k < n ∧ k < m
    · obtain ⟨hk1, hk2⟩ := hcase
      have hnx2 : M < k + 1 → spow (k + 1 - 1) ≤ sval xs + sval ys := fun h => by
        omega
      obtain ⟨gx, rfl, hcx, hgx, hcellx⟩ := (H_hx.out.fresh hfr.out).cells H_hn.out (by omega)
      have hxk := hcellx k hk1
      rw [← hxx] at hxk
      have t1 : decide ((k : Int) < (n : Int)) = true := by simp; omega
      clear hcellx
      obtain ⟨gy, rfl, hcy, hgy, hcelly⟩ := (H_hy.out.fresh hfr.out).cells H_hmm.out (by omega)
      have hyk := hcelly k hk2
      rw [← hyy] at hyk
      have t2 : decide ((k : Int) < (m : Int)) = true := by simp; omega
      clear hcelly
      have H_ht := Lib.hid ht; clear ht
      have H_hd := Lib.hid hd; clear hd
      have H_hxx := Lib.hid hxx; clear hxx
      have H_hyy := Lib.hid hyy; clear hyy
      have H_hstep := Lib.hid hstep; clear hstep
      have H_hnx2 := Lib.hid hnx2; clear hnx2
      have H_hq9 := Lib.hid hq9; clear hq9
      have H_hc9 := Lib.hid hc9; clear hc9
      clear hval hbig
      go_wp2_with (at_builtin; refine wpList_append_own _ rfl _ _ 35 rfl w.heap.size 102 i0 (.int .u32 0) 1 4 Tryz.underlying35 hi hz0 hz1 hz2 rfl (by decide) _ _ _ rfl (hown2.alloc _) ⟨wr.heap.size, 0, none⟩ 1 1 [wd .u32 (t % 1000000000)] rfl rfl ?c1 ?c2 ?c3 ?c4 ?c5 ?_)
      case c1 =>
        intro j u hj
        match j, hj with
        | 0, hj => simp at hj; subst hj; simp [Addr.add, wd]
      case c2 => intro u hu; simp at hu; subst hu; rfl
      case c3 => unfold maxLen; omega
      case c4 => omega
      case c5 => simp; omega
      · intro v' w1 hown' hgrow _
        have hf1 : Fresh w w1 := Fresh.owns (hfr.out.alloc _) (H_hown.out.alloc _) (Nat.le_refl _) hgrow
        have hL : (L ++ [(t % 1000000000)]).length = L.length + 1 := by simp
        have hown1 : w1.ownsRow w.heap.size 102 1 v' (L ++ [(t % 1000000000)]).length ((L ++ [(t % 1000000000)]).map (wd .u32)) := by
          rw [hL, hLk, List.map_append]; exact hown'
        have H_hown1 := Lib.hid hown1; clear hown1
        have H_hf1 := Lib.hid hf1; clear hf1
        clear hown' hgrow hown2
        go_wp2_with (fail)
        go_roundw
        case rel => exact ⟨k + 1, (t / 1000000000), L ++ [(t % 1000000000)], by omega, by simp, rfl, H_hc9.out, by have := H_hM.out; omega, H_hown1.out, Lib.hid (hlim.out.append (Lim.one H_hq9.out)), Lib.hid (by rw [hL, hLk]), H_hstep, H_hnx2, H_hf1⟩
        case measure => simp [intOf]; omega
    by_cases hcase : k < n ∧ m ≤ k
    · obtain ⟨hk1, hk2⟩ := hcase
      have hnx2 : M < k + 1 → spow (k + 1 - 1) ≤ sval xs + sval ys := fun h => by
        omega
      obtain ⟨gx, rfl, hcx, hgx, hcellx⟩ := (H_hx.out.fresh hfr.out).cells H_hn.out (by omega)
      have hxk := hcellx k hk1
      rw [← hxx] at hxk
      have t1 : decide ((k : Int) < (n : Int)) = true := by simp; omega
      clear hcellx
      have hy0 : y = 0 := by rw [hyy]; exact getD_out (by have := H_hmm.out; omega)
      have t2 : decide ((k : Int) < (m : Int)) = false := by simp; omega
      have t2n : ¬ k < m := by omega
      subst hy0
      have htd : d = t := by omega
      subst htd
      have H_ht := Lib.hid ht; clear ht
      have H_hd := Lib.hid hd; clear hd
      have H_hxx := Lib.hid hxx; clear hxx
      have H_hyy := Lib.hid hyy; clear hyy
      have H_hstep := Lib.hid hstep; clear hstep
      have H_hnx2 := Lib.hid hnx2; clear hnx2
      have H_hq9 := Lib.hid hq9; clear hq9
      have H_hc9 := Lib.hid hc9; clear hc9
      clear hval hbig
      go_wp2_with (at_builtin; refine wpList_append_own _ rfl _ _ 35 rfl w.heap.size 102 i0 (.int .u32 0) 1 4 Tryz.underlying35 hi hz0 hz1 hz2 rfl (by decide) _ _ _ rfl (hown2.alloc _) ⟨wr.heap.size, 0, none⟩ 1 1 [wd .u32 (d % 1000000000)] rfl rfl ?c1 ?c2 ?c3 ?c4 ?c5 ?_)
      case c1 =>
        intro j u hj
        match j, hj with
        | 0, hj => simp at hj; subst hj; simp [Addr.add, wd]
      case c2 => intro u hu; simp at hu; subst hu; rfl
      case c3 => unfold maxLen; omega
      case c4 => omega
      case c5 => simp; omega
      · intro v' w1 hown' hgrow _
        have hf1 : Fresh w w1 := Fresh.owns (hfr.out.alloc _) (H_hown.out.alloc _) (Nat.le_refl _) hgrow
        have hL : (L ++ [(d % 1000000000)]).length = L.length + 1 := by simp
        have hown1 : w1.ownsRow w.heap.size 102 1 v' (L ++ [(d % 1000000000)]).length ((L ++ [(d % 1000000000)]).map (wd .u32)) := by
          rw [hL, hLk, List.map_append]; exact hown'
        have H_hown1 := Lib.hid hown1; clear hown1
        have H_hf1 := Lib.hid hf1; clear hf1
        clear hown' hgrow hown2
        go_wp2_with (fail)
        go_roundw
        case rel => exact ⟨k + 1, (d / 1000000000), L ++ [(d % 1000000000)], by omega, by simp, rfl, H_hc9.out, by have := H_hM.out; omega, H_hown1.out, Lib.hid (hlim.out.append (Lim.one H_hq9.out)), Lib.hid (by rw [hL, hLk]), H_hstep, H_hnx2, H_hf1⟩
        case measure => simp [intOf]; omega
    by_cases hcase : n ≤ k ∧ k < m
    · obtain ⟨hk1, hk2⟩ := hcase
      have hnx2 : M < k + 1 → spow (k + 1 - 1) ≤ sval xs + sval ys := fun h => by
        omega
      have hx0 : x = 0 := by rw [hxx]; exact getD_out (by have := H_hn.out; omega)
      have t1 : decide ((k : Int) < (n : Int)) = false := by simp; omega
      have t1n : ¬ k < n := by omega
      obtain ⟨gy, rfl, hcy, hgy, hcelly⟩ := (H_hy.out.fresh hfr.out).cells H_hmm.out (by omega)
      have hyk := hcelly k hk2
      rw [← hyy] at hyk
      have t2 : decide ((k : Int) < (m : Int)) = true := by simp; omega
      clear hcelly
      subst hx0
      have hdc : c = d := by omega
      subst hdc
      have H_ht := Lib.hid ht; clear ht
      have H_hd := Lib.hid hd; clear hd
      have H_hxx := Lib.hid hxx; clear hxx
      have H_hyy := Lib.hid hyy; clear hyy
      have H_hstep := Lib.hid hstep; clear hstep
      have H_hnx2 := Lib.hid hnx2; clear hnx2
      have H_hq9 := Lib.hid hq9; clear hq9
      have H_hc9 := Lib.hid hc9; clear hc9
      clear hval hbig
      go_wp2_with (at_builtin; refine wpList_append_own _ rfl _ _ 35 rfl w.heap.size 102 i0 (.int .u32 0) 1 4 Tryz.underlying35 hi hz0 hz1 hz2 rfl (by decide) _ _ _ rfl (hown2.alloc _) ⟨wr.heap.size, 0, none⟩ 1 1 [wd .u32 (t % 1000000000)] rfl rfl ?c1 ?c2 ?c3 ?c4 ?c5 ?_)
      case c1 =>
        intro j u hj
        match j, hj with
        | 0, hj => simp at hj; subst hj; simp [Addr.add, wd]
      case c2 => intro u hu; simp at hu; subst hu; rfl
      case c3 => unfold maxLen; omega
      case c4 => omega
      case c5 => simp; omega
      · intro v' w1 hown' hgrow _
        have hf1 : Fresh w w1 := Fresh.owns (hfr.out.alloc _) (H_hown.out.alloc _) (Nat.le_refl _) hgrow
        have hL : (L ++ [(t % 1000000000)]).length = L.length + 1 := by simp
        have hown1 : w1.ownsRow w.heap.size 102 1 v' (L ++ [(t % 1000000000)]).length ((L ++ [(t % 1000000000)]).map (wd .u32)) := by
          rw [hL, hLk, List.map_append]; exact hown'
        have H_hown1 := Lib.hid hown1; clear hown1
        have H_hf1 := Lib.hid hf1; clear hf1
        clear hown' hgrow hown2
        go_wp2_with (fail)
        go_roundw
        case rel => exact ⟨k + 1, (t / 1000000000), L ++ [(t % 1000000000)], by omega, by simp, rfl, H_hc9.out, by have := H_hM.out; omega, H_hown1.out, Lib.hid (hlim.out.append (Lim.one H_hq9.out)), Lib.hid (by rw [hL, hLk]), H_hstep, H_hnx2, H_hf1⟩
        case measure => simp [intOf]; omega
    by_cases hcase : n ≤ k ∧ m ≤ k ∧ c = 1
    · obtain ⟨hk1, hk2, rfl⟩ := hcase
      have hnx2 : M < k + 1 → spow (k + 1 - 1) ≤ sval xs + sval ys := fun h => by
        have h1 := hval.out
        rw [List.take_of_length_le (by have := H_hn.out; omega), List.take_of_length_le (by have := H_hmm.out; omega)] at h1
        rw [Nat.add_sub_cancel]
        omega
      have hx0 : x = 0 := by rw [hxx]; exact getD_out (by have := H_hn.out; omega)
      have t1 : decide ((k : Int) < (n : Int)) = false := by simp; omega
      have t1n : ¬ k < n := by omega
      have hy0 : y = 0 := by rw [hyy]; exact getD_out (by have := H_hmm.out; omega)
      have t2 : decide ((k : Int) < (m : Int)) = false := by simp; omega
      have t2n : ¬ k < m := by omega
      subst hx0
      have hdc : 1 = d := by omega
      subst hdc
      subst hy0
      have htd : 1 = t := by omega
      subst htd
      have H_ht := Lib.hid ht; clear ht
      have H_hd := Lib.hid hd; clear hd
      have H_hxx := Lib.hid hxx; clear hxx
      have H_hyy := Lib.hid hyy; clear hyy
      have H_hstep := Lib.hid hstep; clear hstep
      have H_hnx2 := Lib.hid hnx2; clear hnx2
      have H_hq9 := Lib.hid hq9; clear hq9
      have H_hc9 := Lib.hid hc9; clear hc9
      clear hval hbig
      go_wp2_with (at_builtin; refine wpList_append_own _ rfl _ _ 35 rfl w.heap.size 102 i0 (.int .u32 0) 1 4 Tryz.underlying35 hi hz0 hz1 hz2 rfl (by decide) _ _ _ rfl (hown2.alloc _) ⟨wr.heap.size, 0, none⟩ 1 1 [Value.int .u32 1] rfl rfl ?c1 ?c2 ?c3 ?c4 ?c5 ?_)
      case c2 => rfl
      case c3 => unfold maxLen; omega
      case c4 => omega
      case c5 => first | omega | (simp; omega)
      · intro v' w1 hown' hgrow _
        have hf1 : Fresh w w1 := Fresh.owns (hfr.out.alloc _) (H_hown.out.alloc _) (Nat.le_refl _) hgrow
        have hL : (L ++ [1]).length = L.length + 1 := by simp
        have hown1 : w1.ownsRow w.heap.size 102 1 v' (L ++ [1]).length ((L ++ [1]).map (wd .u32)) := by
          rw [hL, hLk, List.map_append]; exact hown'
        have H_hown1 := Lib.hid hown1; clear hown1
        have H_hf1 := Lib.hid hf1; clear hf1
        clear hown' hgrow hown2
        go_wp2_with (fail)
        go_roundw
        case rel => exact ⟨k + 1, 0, L ++ [1], by omega, by simp, rfl, H_hc9.out, by have := H_hM.out; omega, H_hown1.out, Lib.hid (hlim.out.append (Lim.one H_hq9.out)), Lib.hid (by rw [hL, hLk]), H_hstep, H_hnx2, H_hf1⟩
        case measure => simp [intOf]; omega
    have hex : n ≤ k ∧ m ≤ k ∧ c = 0 := by omega
    obtain ⟨hk1, hk2, rfl⟩ := hex
    have t1 : decide ((k : Int) < (n : Int)) = false := by simp; omega
    have t1n : ¬ k < n := by omega
    have t2 : decide ((k : Int) < (m : Int)) = false := by simp; omega
    have t2n : ¬ k < m := by omega
    have hv : sval L = sval xs + sval ys := by
      have hv := hval.out
      rw [List.take_of_length_le (by have := H_hn.out; omega), List.take_of_length_le (by have := H_hmm.out; omega)] at hv
      omega
    have hnl : Norm L := H_hend.out k L hlim.out hLk hv hbig.out (by have := H_hM.out; omega)
    have hs := SNat.of_owns H_hown.out hlim.out (by omega)
    clear hown2 hstep hval hbig ht hd hq9 hc9 hxx hyy hxlim hylim
    have H_hnl := Lib.hid hnl; clear hnl
    have H_hs := Lib.hid hs; clear hs
    have H_hv := Lib.hid hv; clear hv
    go_wp2_with (fail)
    go_ret
    exact ⟨_, L, rfl, H_hs.out, H_hnl.out, H_hv.out, hfr.out⟩

end Go.Proofs.YtmgidnjpkbgmgabGreatDoor

/- The contracts of the reference's natural numbers: NatSub. -/
namespace Go.Proofs.YtmgidnjpkbgmgabGreatDoor
open Go.RowKit

set_option maxRecDepth 20000 in
set_option maxHeartbeats 2000000 in
theorem NatSub_any (xv yv : Value) (xs ys : List Nat) (w : World) (hx : SNat w xv xs) (hy : SNat w yv ys) (hm : ys.length ≤ xs.length) (hle : sval ys ≤ sval xs) (hlen : xs.length ≤ 100000) :
    Calls Tryz.prog 101 #[xv, yv] w (SRet w (sval xs - sval ys)) := by
  obtain ⟨i0, hi, hz0, hz1, hz2⟩ := info_parts info_u32
  obtain ⟨ax, cx, rfl⟩ := hx.form
  obtain ⟨ay, cy, rfl⟩ := hy.form
  obtain ⟨n, hn⟩ : ∃ n, n = xs.length := ⟨_, rfl⟩
  obtain ⟨m, hmm⟩ : ∃ m, m = ys.length := ⟨_, rfl⟩
  rw [← hn] at hlen hm hx ⊢
  rw [← hmm] at hm hy ⊢
  have H_hx := Lib.hid hx; clear hx
  have H_hy := Lib.hid hy; clear hy
  have H_hn := Lib.hid hn; clear hn
  have H_hmm := Lib.hid hmm; clear hmm
  have H_hle := Lib.hid hle; clear hle
  go_enter Tryz.func101, Tryz.ntmps101
  go_wp2_with (fail)
  go_loopw [5, 6, 12] (fun o b i wr => ∃ (k br : Nat) (L : List Nat), k ≤ n ∧ i = .int .i64 k ∧ b = .int .u32 br ∧ br ≤ 1 ∧ wr.ownsRow w.heap.size 102 1 o L.length (L.map (wd .u32)) ∧ Hid (Lim L) ∧ Hid (L.length = k) ∧ Hid (sval (xs.take k) + spow k * br = sval L + sval (ys.take k)) ∧ Hid (Fresh w wr)) (fun _ _ i _ => n - (intOf i).toNat)
  case atStart => exact ⟨0, 0, [], by omega, rfl, rfl, by omega, World.ownsRow_nil _ _ _ _, Lim.nil, Lib.hid rfl, Lib.hid (by simp [sval]), Keep.refl _ _⟩
  case round =>
    obtain ⟨k, br, L, hk, rfl, rfl, hbr, hown, hlim, hLl, hval, hfr⟩ := hrel
    have H_hown := Lib.hid hown
    clear hown
    by_cases hlt : k < n
    · obtain ⟨gx, rfl, hcx, hgx, hcells⟩ := (H_hx.out.fresh hfr.out).cells H_hn.out (by omega)
      have hxk := hcells k hlt
      have hxlim := H_hx.out.lim.getD k
      have hylim := H_hy.out.lim.getD k
      have hstep0 := fun (q : Nat) (hb : br + ys.getD k 0 ≤ xs.getD k 0) (e : q = xs.getD k 0 - (br + ys.getD k 0)) => sub_step0 (y := ys.getD k 0) (x := xs.getD k 0) hval.out hb
      have hstep1 := fun (q : Nat) (hb : br + ys.getD k 0 ≤ xs.getD k 0 + 1000000000) (e : q = xs.getD k 0 + 1000000000 - (br + ys.getD k 0)) => sub_step1 (y := ys.getD k 0) (x := xs.getD k 0) hval.out hb
      rw [← sval_take_succ' xs k, ← sval_take_succ' ys k, ← spow_succ] at hstep0 hstep1
      have hLk := hLl.out
      obtain ⟨x, hxx⟩ : ∃ x, x = xs.getD k 0 := ⟨_, rfl⟩
      obtain ⟨y, hyy⟩ : ∃ y, y = ys.getD k 0 := ⟨_, rfl⟩
      rw [← hxx] at hxk hxlim hstep0 hstep1
      rw [← hyy] at hylim hstep0 hstep1
      have hlt' : (k : Int) < (n : Int) := by omega
      have t1 : decide ((k : Int) < (n : Int)) = true := by simp; omega
      have hsz := hfr.out.size
      obtain ⟨d, hd⟩ : ∃ d, d = br + y := ⟨_, rfl⟩
      rw [← hd] at hstep0 hstep1
      have H_hcells := Lib.hid hcells; clear hcells
      have H_hxx := Lib.hid hxx; clear hxx
      by_cases hkm : k < m
      · obtain ⟨gy, rfl, hcy, hgy, hcells⟩ := (H_hy.out.fresh hfr.out).cells H_hmm.out (by omega)
        have hyk := hcells k hkm
        rw [← hyy] at hyk
        have hkm' : (k : Int) < (m : Int) := by omega
        have t2 : decide ((k : Int) < (m : Int)) = true := by simp; omega
        have hdI : (br : Int) + (y : Int) = (d : Int) := by omega
        have hd9 : d ≤ 1000000000 := by omega
        clear hd
        have H_hcells := Lib.hid hcells; clear hcells
        have H_hyy := Lib.hid hyy; clear hyy
        by_cases hxd : x < d
        · obtain ⟨q, hq⟩ : ∃ q, q = x + 1000000000 - d := ⟨_, rfl⟩
          have hstep := hstep1 q (by omega) hq
          rw [← hq] at hstep
          clear hstep0 hstep1
          have t3 : decide ((x : Int) < (d : Int)) = true := by simp; omega
          have hqI : (x : Int) + 1000000000 - (d : Int) = (q : Int) := by omega
          have hq9 : q < 1000000000 := by omega
          have hown2 := H_hown.out
          rw [hLk] at hown2
          have H_hstep := Lib.hid hstep; clear hstep
          clear hq
          go_wp2_with (at_builtin; refine wpList_append_own _ rfl _ _ 35 rfl w.heap.size 102 i0 (.int .u32 0) 1 4 Tryz.underlying35 hi hz0 hz1 hz2 rfl (by decide) _ _ _ rfl (hown2.alloc _) ⟨wr.heap.size, 0, none⟩ 1 1 [Value.int .u32 (q : Int)] rfl rfl ?c1 ?c2 ?c3 ?c4 ?c5 ?_)
          case c1 =>
            intro j u hj
            match j, hj with
            | 0, hj => simp at hj; subst hj; simp [Addr.add]
          case c2 => intro u hu; simp at hu; subst hu; rfl
          case c3 => unfold maxLen; omega
          case c4 => omega
          case c5 => simp; omega
          · intro v' w1 hown' hgrow _
            have hf1 : Fresh w w1 := Fresh.owns (hfr.out.alloc _) (H_hown.out.alloc _) (Nat.le_refl _) hgrow
            have hL : (L ++ [q]).length = L.length + 1 := by simp
            have hown1 : w1.ownsRow w.heap.size 102 1 v' (L ++ [q]).length ((L ++ [q]).map (wd .u32)) := by
              rw [hL, hLk, List.map_append]; exact hown'
            have H_hown1 := Lib.hid hown1; clear hown1
            have H_hf1 := Lib.hid hf1; clear hf1
            clear hown' hgrow hown2
            go_wp2_with (fail)
            go_roundw
            case rel => exact ⟨k + 1, 1, L ++ [q], by omega, by simp, rfl, by omega, H_hown1.out, Lib.hid (hlim.out.append (Lim.one hq9)), Lib.hid (by rw [hL, hLk]), Lib.hid (by have h9 := H_hstep.out; rw [sval_append, hLk]; simpa [sval] using h9), H_hf1⟩
            case measure => simp [intOf]; omega
        · obtain ⟨q, hq⟩ : ∃ q, q = x - d := ⟨_, rfl⟩
          have hstep := hstep0 q (by omega) hq
          rw [← hq] at hstep
          clear hstep0 hstep1
          have t3 : decide ((x : Int) < (d : Int)) = false := by simp; omega
          have hqI : (x : Int) - (d : Int) = (q : Int) := by omega
          have hq9 : q < 1000000000 := by omega
          have hown2 := H_hown.out
          rw [hLk] at hown2
          have H_hstep := Lib.hid hstep; clear hstep
          clear hq
          go_wp2_with (at_builtin; refine wpList_append_own _ rfl _ _ 35 rfl w.heap.size 102 i0 (.int .u32 0) 1 4 Tryz.underlying35 hi hz0 hz1 hz2 rfl (by decide) _ _ _ rfl (hown2.alloc _) ⟨wr.heap.size, 0, none⟩ 1 1 [Value.int .u32 (q : Int)] rfl rfl ?c1 ?c2 ?c3 ?c4 ?c5 ?_)
          case c1 =>
            intro j u hj
            match j, hj with
            | 0, hj => simp at hj; subst hj; simp [Addr.add]
          case c2 => intro u hu; simp at hu; subst hu; rfl
          case c3 => unfold maxLen; omega
          case c4 => omega
          case c5 => simp; omega
          · intro v' w1 hown' hgrow _
            have hf1 : Fresh w w1 := Fresh.owns (hfr.out.alloc _) (H_hown.out.alloc _) (Nat.le_refl _) hgrow
            have hL : (L ++ [q]).length = L.length + 1 := by simp
            have hown1 : w1.ownsRow w.heap.size 102 1 v' (L ++ [q]).length ((L ++ [q]).map (wd .u32)) := by
              rw [hL, hLk, List.map_append]; exact hown'
            have H_hown1 := Lib.hid hown1; clear hown1
            have H_hf1 := Lib.hid hf1; clear hf1
            clear hown' hgrow hown2
            go_wp2_with (fail)
            go_roundw
            case rel => exact ⟨k + 1, 0, L ++ [q], by omega, by simp, rfl, by omega, H_hown1.out, Lib.hid (hlim.out.append (Lim.one hq9)), Lib.hid (by rw [hL, hLk]), Lib.hid (by have h9 := H_hstep.out; rw [sval_append, hLk]; simpa [sval] using h9), H_hf1⟩
            case measure => simp [intOf]; omega
      · have hy0 : y = 0 := by
          have hml := H_hmm.out
          rw [hyy]; simp [List.getD, List.getElem?_eq_none (show ys.length ≤ k by omega)]
        have t2 : decide ((k : Int) < (m : Int)) = false := by simp; omega
        have hdb : br = d := by omega
        subst hdb
        clear hd
        have hyy' := hyy
        clear hyy hy0 hylim
        have H_hyy := Lib.hid hyy'
        clear hyy'
        by_cases hxd : x < br
        · obtain ⟨q, hq⟩ : ∃ q, q = x + 1000000000 - br := ⟨_, rfl⟩
          have hstep := hstep1 q (by omega) hq
          rw [← hq] at hstep
          clear hstep0 hstep1
          have t3 : decide ((x : Int) < (br : Int)) = true := by simp; omega
          have hqI : (x : Int) + 1000000000 - (br : Int) = (q : Int) := by omega
          have hq9 : q < 1000000000 := by omega
          have hown2 := H_hown.out
          rw [hLk] at hown2
          have H_hstep := Lib.hid hstep; clear hstep
          clear hq
          go_wp2_with (at_builtin; refine wpList_append_own _ rfl _ _ 35 rfl w.heap.size 102 i0 (.int .u32 0) 1 4 Tryz.underlying35 hi hz0 hz1 hz2 rfl (by decide) _ _ _ rfl (hown2.alloc _) ⟨wr.heap.size, 0, none⟩ 1 1 [Value.int .u32 (q : Int)] rfl rfl ?c1 ?c2 ?c3 ?c4 ?c5 ?_)
          case c1 =>
            intro j u hj
            match j, hj with
            | 0, hj => simp at hj; subst hj; simp [Addr.add]
          case c2 => intro u hu; simp at hu; subst hu; rfl
          case c3 => unfold maxLen; omega
          case c4 => omega
          case c5 => simp; omega
          · intro v' w1 hown' hgrow _
            have hf1 : Fresh w w1 := Fresh.owns (hfr.out.alloc _) (H_hown.out.alloc _) (Nat.le_refl _) hgrow
            have hL : (L ++ [q]).length = L.length + 1 := by simp
            have hown1 : w1.ownsRow w.heap.size 102 1 v' (L ++ [q]).length ((L ++ [q]).map (wd .u32)) := by
              rw [hL, hLk, List.map_append]; exact hown'
            have H_hown1 := Lib.hid hown1; clear hown1
            have H_hf1 := Lib.hid hf1; clear hf1
            clear hown' hgrow hown2
            go_wp2_with (fail)
            go_roundw
            case rel => exact ⟨k + 1, 1, L ++ [q], by omega, by simp, rfl, by omega, H_hown1.out, Lib.hid (hlim.out.append (Lim.one hq9)), Lib.hid (by rw [hL, hLk]), Lib.hid (by have h9 := H_hstep.out; rw [sval_append, hLk]; simpa [sval] using h9), H_hf1⟩
            case measure => simp [intOf]; omega
        · obtain ⟨q, hq⟩ : ∃ q, q = x - br := ⟨_, rfl⟩
          have hstep := hstep0 q (by omega) hq
          rw [← hq] at hstep
          clear hstep0 hstep1
          have t3 : decide ((x : Int) < (br : Int)) = false := by simp; omega
          have hqI : (x : Int) - (br : Int) = (q : Int) := by omega
          have hq9 : q < 1000000000 := by omega
          have hown2 := H_hown.out
          rw [hLk] at hown2
          have H_hstep := Lib.hid hstep; clear hstep
          clear hq
          go_wp2_with (at_builtin; refine wpList_append_own _ rfl _ _ 35 rfl w.heap.size 102 i0 (.int .u32 0) 1 4 Tryz.underlying35 hi hz0 hz1 hz2 rfl (by decide) _ _ _ rfl (hown2.alloc _) ⟨wr.heap.size, 0, none⟩ 1 1 [Value.int .u32 (q : Int)] rfl rfl ?c1 ?c2 ?c3 ?c4 ?c5 ?_)
          case c1 =>
            intro j u hj
            match j, hj with
            | 0, hj => simp at hj; subst hj; simp [Addr.add]
          case c2 => intro u hu; simp at hu; subst hu; rfl
          case c3 => unfold maxLen; omega
          case c4 => omega
          case c5 => simp; omega
          · intro v' w1 hown' hgrow _
            have hf1 : Fresh w w1 := Fresh.owns (hfr.out.alloc _) (H_hown.out.alloc _) (Nat.le_refl _) hgrow
            have hL : (L ++ [q]).length = L.length + 1 := by simp
            have hown1 : w1.ownsRow w.heap.size 102 1 v' (L ++ [q]).length ((L ++ [q]).map (wd .u32)) := by
              rw [hL, hLk, List.map_append]; exact hown'
            have H_hown1 := Lib.hid hown1; clear hown1
            have H_hf1 := Lib.hid hf1; clear hf1
            clear hown' hgrow hown2
            go_wp2_with (fail)
            go_roundw
            case rel => exact ⟨k + 1, 0, L ++ [q], by omega, by simp, rfl, by omega, H_hown1.out, Lib.hid (hlim.out.append (Lim.one hq9)), Lib.hid (by rw [hL, hLk]), Lib.hid (by have h9 := H_hstep.out; rw [sval_append, hLk]; simpa [sval] using h9), H_hf1⟩
            case measure => simp [intOf]; omega
    · obtain rfl : k = n := by omega
      have t1 : decide ((k : Int) < (k : Int)) = false := by simp
      have hs := SNat.of_owns H_hown.out hlim.out (by have := hLl.out; omega)
      obtain ⟨ao, co, rfl⟩ := hs.form
      have hcall := natTrim_any _ _ _ hs
      have H_hcall := Lib.hid hcall; clear hcall
      clear hs
      go_wp2_with (fail)
      refine H_hcall.out.mono ?_
      rintro e w2 ⟨v, l, rfl, h1, h2, h3, h4⟩
      have H_h1 := Lib.hid h1; clear h1
      have H_h2 := Lib.hid h2; clear h2
      have H_h3 := Lib.hid h3; clear h3
      have H_h4 := Lib.hid h4; clear h4
      go_wp2_with (fail)
      go_ret
      refine ⟨_, l, rfl, H_h1.out, H_h2.out, ?_, fresh_trans hfr.out H_h4.out⟩
      have hv := hval.out
      have hlt2 := sval_lt hlim.out
      rw [hLl.out] at hlt2
      rw [List.take_of_length_le (by have := H_hn.out; omega), List.take_of_length_le (by have := H_hmm.out; omega)] at hv
      have hl := H_hle.out
      have hb0 : br = 0 := by
        rcases Nat.eq_zero_or_pos br with h | h
        · exact h
        · obtain rfl : br = 1 := by omega
          omega
      subst hb0
      rw [H_h3.out]
      omega

end Go.Proofs.YtmgidnjpkbgmgabGreatDoor

/- The contracts of the reference's natural numbers: natGuess. -/
namespace Go.Proofs.YtmgidnjpkbgmgabGreatDoor
open Go.RowKit

theorem sval_top {l : List Nat} {k : Nat} (hl : Lim l) (h : l.length = k + 1) : l.getD k 0 * spow k ≤ sval l ∧ sval l < (l.getD k 0 + 1) * spow k := by
  have e := sval_take_succ (l := l) (k := k) (by omega)
  rw [← h, List.take_length] at e
  have h2 := sval_lt (hl.take k)
  rw [List.length_take, Nat.min_eq_left (by omega)] at h2
  rw [Nat.mul_comm (spow k)] at e
  rw [Nat.add_mul]
  omega

theorem sval_top2 {l : List Nat} {k : Nat} (hl : Lim l) (h : l.length = k + 1 + 1) : sval l < (l.getD k 0 + l.getD (k + 1) 0 * 1000000000 + 1) * spow k := by
  have e := sval_take_succ (l := l) (k := k + 1) (by omega)
  rw [← h, List.take_length] at e
  have e2 := sval_take_succ (l := l) (k := k) (by omega)
  have h2 := sval_lt (hl.take k)
  rw [List.length_take, Nat.min_eq_left (by omega)] at h2
  rw [e2, spow_succ] at e
  rw [e]
  generalize sval (l.take k) = a at *
  generalize l.getD k 0 = b at *
  generalize l.getD (k + 1) 0 = c at *
  have : (b + c * 1000000000 + 1) * spow k = spow k * b + 1000000000 * spow k * c + spow k := by
    rw [Nat.add_mul, Nat.add_mul, Nat.one_mul, Nat.mul_comm b, Nat.mul_comm c, Nat.mul_assoc, Nat.mul_assoc, Nat.mul_comm c]
  omega

set_option maxRecDepth 20000 in
set_option maxHeartbeats 2000000 in
theorem natGuess_any (rv yv : Value) (rs ys : List Nat) (w : World) (hr : SNat w rv rs) (hy : SNat w yv ys) (hny : Norm ys) (hnr : Norm rs) (hy0 : 0 < ys.length) (hlen : ys.length ≤ 100000) (hlt : sval rs < 1000000000 * sval ys) :
    Calls Tryz.prog 100 #[rv, yv] w (fun e w' => ∃ d : Nat, e = .returned (.int .u64 d) ∧ sval rs / sval ys ≤ d ∧ d ≤ 999999999 ∧ Fresh w w') := by
  obtain ⟨ar, cr, rfl⟩ := hr.form
  obtain ⟨ay, cy, rfl⟩ := hy.form
  obtain ⟨k, hk⟩ : ∃ k, ys.length = k + 1 := ⟨ys.length - 1, by omega⟩
  have hrl : rs.length ≤ k + 2 := hnr.s_len_le (by
    have h1 := sval_lt hy.lim
    rw [hk] at h1
    rw [spow_succ]; omega)
  have hyt := sval_top hy.lim hk
  have hyt0 : 0 < ys.getD k 0 := by have := hny k hk; omega
  have hytl := hy.lim.getD k
  obtain ⟨yt, hyte⟩ : ∃ yt, yt = ys.getD k 0 := ⟨_, rfl⟩
  rw [← hyte] at hyt hyt0 hytl
  obtain ⟨n, hn⟩ : ∃ n, n = ys.length := ⟨_, rfl⟩
  obtain ⟨m, hm⟩ : ∃ m, m = rs.length := ⟨_, rfl⟩
  rw [← hn] at hk hlen hy0 hy ⊢
  rw [← hm] at hrl hr ⊢
  subst hk
  obtain ⟨gy, rfl, hcy, hgy, hcells⟩ := hy.cells hn (by omega)
  have hyk := hcells k (by omega)
  rw [← hyte] at hyk
  clear hcells
  have hk1 : (((k + 1 : Nat) : Int)) - 1 = (k : Int) := by omega
  have hk2 : ((k : Int) + 1) - 1 = (k : Int) := by omega
  have t0 : ((yt : Int) == 0) = false := by rw [beq_eq_false_iff_ne]; omega
  have hytN : ¬ yt = 0 := by omega
  rcases Nat.lt_or_ge m (k + 1) with hmk | hmk
  · have t1 : decide ((m : Int) < (k : Int) + 1) = true := by simp; omega
    have hz : sval rs / sval ys ≤ 0 := by
      have h1 := sval_lt hr.lim
      rw [← hm] at h1
      have h2 := spow_mono (m := m) (n := k) (by omega)
      have h3 : 1 * spow k ≤ yt * spow k := Nat.mul_le_mul_right _ hyt0
      rw [Nat.div_eq_of_lt (by omega)]; omega
    clear hyt hyte hlt
    have H_hr := Lib.hid hr; clear hr
    have H_hy := Lib.hid hy; clear hy
    have H_hny := Lib.hid hny; clear hny
    have H_hnr := Lib.hid hnr; clear hnr
    have H_hz := Lib.hid hz; clear hz
    have H_hn := Lib.hid hn; clear hn
    have H_hm := Lib.hid hm; clear hm
    go_enter Tryz.func100, Tryz.ntmps100
    go_wp2
    go_ret
    exact ⟨0, rfl, H_hz.out, by omega, Keep.refl _ _⟩
  · have t1 : decide ((m : Int) < (k : Int) + 1) = false := by simp; omega
    obtain ⟨gr, rfl, hcr, hgr, hrc⟩ := hr.cells hm (by omega)
    have hrk := hrc k (by omega)
    have hrlim := hr.lim.getD k
    rcases Nat.eq_or_lt_of_le hmk with hmk2 | hmk2
    · have t2 : decide ((k : Int) + 1 < (m : Int)) = false := by simp; omega
      obtain ⟨top, htop⟩ : ∃ top, top = rs.getD k 0 := ⟨_, rfl⟩
      have hrt := (sval_top hr.lim (show rs.length = k + 1 by omega)).2
      rw [← htop] at hrk hrlim hrt
      have hg := guess_ge hrt hyt.1 hyt0 hlt
      have hdiv : Int.tdiv (top : Int) (yt : Int) = ((top / yt : Nat) : Int) := by rw [Int.tdiv_eq_ediv_of_nonneg (by omega)]; rfl
      have hqle : top / yt ≤ top := Nat.div_le_self _ _
      generalize top / yt = q at *
      clear hyt hyte hlt hrt htop hrc
      subst hmk2
      have H_hr := Lib.hid hr; clear hr
      have H_hy := Lib.hid hy; clear hy
      have H_hny := Lib.hid hny; clear hny
      have H_hnr := Lib.hid hnr; clear hnr
      have H_hg := Lib.hid hg; clear hg
      have H_hn := Lib.hid hn; clear hn
      have H_hm := Lib.hid hm; clear hm
      go_enter Tryz.func100, Tryz.ntmps100
      go_wp2
      all_goals go_ret
      all_goals first
        | exact ⟨q, rfl, Nat.le_trans H_hg.out (Nat.min_le_left _ _), by omega, Keep.refl _ _⟩
        | exact ⟨999999999, rfl, Nat.le_trans H_hg.out (Nat.min_le_right _ _), by omega, Keep.refl _ _⟩
    · obtain rfl : m = k + 1 + 1 := by omega
      have t2 : decide ((k : Int) + 1 < (k : Int) + 1 + 1) = true := by simp; omega
      have hrk1 := hrc (k + 1) (by omega)
      have hrlim1 := hr.lim.getD (k + 1)
      have hrt := sval_top2 hr.lim hm.symm
      obtain ⟨a, ha⟩ : ∃ a, a = rs.getD k 0 := ⟨_, rfl⟩
      obtain ⟨b, hb⟩ : ∃ b, b = rs.getD (k + 1) 0 := ⟨_, rfl⟩
      rw [← ha] at hrk hrlim hrt
      rw [← hb] at hrk1 hrlim1 hrt
      obtain ⟨top, htop⟩ : ∃ top, top = a + b * 1000000000 := ⟨_, rfl⟩
      rw [← htop] at hrt
      have htI : (a : Int) + (b : Int) * 1000000000 = (top : Int) := by omega
      have htl : top < 1000000000000000000 := by omega
      have hg := guess_ge hrt hyt.1 hyt0 hlt
      have hdiv : Int.tdiv (top : Int) (yt : Int) = ((top / yt : Nat) : Int) := by rw [Int.tdiv_eq_ediv_of_nonneg (by omega)]; rfl
      have hqle : top / yt ≤ top := Nat.div_le_self _ _
      generalize top / yt = q at *
      clear hyt hyte hlt hrt hrc ha hb htop
      have H_hr := Lib.hid hr; clear hr
      have H_hy := Lib.hid hy; clear hy
      have H_hny := Lib.hid hny; clear hny
      have H_hnr := Lib.hid hnr; clear hnr
      have H_hg := Lib.hid hg; clear hg
      have H_hn := Lib.hid hn; clear hn
      have H_hm := Lib.hid hm; clear hm
      go_enter Tryz.func100, Tryz.ntmps100
      go_wp2
      all_goals go_ret
      all_goals first
        | exact ⟨q, rfl, Nat.le_trans H_hg.out (Nat.min_le_left _ _), by omega, Keep.refl _ _⟩
        | exact ⟨999999999, rfl, Nat.le_trans H_hg.out (Nat.min_le_right _ _), by omega, Keep.refl _ _⟩

end Go.Proofs.YtmgidnjpkbgmgabGreatDoor

/- The contracts of the reference's natural numbers: natTrim and NatSub with the block of the result. -/
namespace Go.Proofs.YtmgidnjpkbgmgabGreatDoor
open Go.RowKit

/-- the call returns a number that lies where v lay -/
def SRetO (w : World) (v0 : Value) (n : Nat) (e : Ending) (w' : World) : Prop := ∃ v l, e = .returned v ∧ SNat w' v l ∧ Norm l ∧ sval l = n ∧ Fresh w w' ∧ (∀ k, v.ownBlock = some k → v0.ownBlock = some k)

/-- the call returns a number that lies in a block of its own -/
def SNew (w : World) (n : Nat) (e : Ending) (w' : World) : Prop := ∃ v l, e = .returned v ∧ SNat w' v l ∧ Norm l ∧ sval l = n ∧ Fresh w w' ∧ (∀ k, v.ownBlock = some k → w.heap.size ≤ k)

set_option maxHeartbeats 400000 in
theorem natTrim_own (v : Value) (l : List Nat) (w : World) (h : SNat w v l) : Calls Tryz.prog 85 #[v] w (SRetO w v (sval l)) := by
  by_cases h0 : l.length = 0
  · obtain rfl : l = [] := List.eq_nil_of_length_eq_zero h0
    obtain ⟨a, c, rfl⟩ := h.form
    have H_h := Lib.hid h
    clear h h0
    go_enter Tryz.func85, Tryz.ntmps85
    go_wp2
    refine wp_loop_rounds 1 ?_
    rw [rounds_succ]
    go_wp2
    go_ret
    exact ⟨_, [], rfl, H_h.out, Norm.nil, rfl, Keep.refl _ _, fun _ h => h⟩
  · obtain ⟨g, cap, rfl, h1, h2, h3, h4⟩ := h.open_pos (by omega)
    have hlen := h.len
    generalize hn : l.length = n at *
    have H_h := Lib.hid h; clear h
    have H_h4 := Lib.hid h4; clear h4
    go_enter Tryz.func85, Tryz.ntmps85
    go_wp2
    go_loop [0] (fun v => ∃ k : Nat, k ≤ n ∧ v = .slice (some ⟨g, 0, none⟩) k cap ∧ Hid (normL.normK l n = normL.normK l k)) (fun v => match v with | .slice _ m _ => m | _ => 0)
    case atStart => exact ⟨n, Nat.le_refl _, rfl, rfl⟩
    case round =>
      obtain ⟨k, hk, rfl, he⟩ := hrel
      cases k with
      | zero =>
        go_wp2
        go_ret
        have hc := SNat.cut (w := w) (l := l) (by rw [hn]; exact H_h.out) (n := 0) (by omega)
        have hv : sval (normL l) = sval l := normL_sval l
        have hz : normL l = l.take 0 := by unfold normL; rw [hn, he.out]; rfl
        exact ⟨_, l.take 0, rfl, hc, by rw [← hz]; exact normL_norm l, by rw [← hz]; exact hv, Keep.refl _ _, fun _ h => h⟩
      | succ k =>
        have hc := H_h4.out k (by omega)
        generalize hx : l.getD k 0 = x at *
        have H_hx := Lib.hid hx
        clear hx
        have e1 : ((k : Int) + 1 - 1) = (k : Int) := by omega
        have e2 : ((k : Int) + 1 - 1).toNat = k := by omega
        by_cases hx0 : x = 0
        · have ht : ((x : Int) == 0) = true := by subst hx0; rfl
          have H_hx0 := Lib.hid hx0
          clear hx0
          go_wp2
          go_round
          case rel =>
            refine ⟨k, by omega, by simp, ?_⟩
            have := he.out
            simp only [normL.normK] at this
            rw [if_pos (by rw [H_hx.out]; exact H_hx0.out)] at this
            exact this
          case measure => simp
        · have ht : ((x : Int) == 0) = false := by rw [beq_eq_false_iff_ne]; omega
          have H_hx0 := Lib.hid hx0
          clear hx0
          go_wp2
          go_ret
          have hc := SNat.cut (w := w) (l := l) (by rw [hn]; exact H_h.out) (n := k + 1) (by omega)
          have hz : normL l = l.take (k + 1) := by
            unfold normL; rw [hn, he.out]; simp only [normL.normK]; rw [if_neg (by rw [H_hx.out]; exact H_hx0.out)]
          exact ⟨_, l.take (k + 1), rfl, hc, by rw [← hz]; exact normL_norm l, by rw [← hz]; exact normL_sval l, Keep.refl _ _, fun _ h => h⟩

set_option maxRecDepth 20000 in
set_option maxHeartbeats 2000000 in
theorem NatSub_own (xv yv : Value) (xs ys : List Nat) (w : World) (hx : SNat w xv xs) (hy : SNat w yv ys) (hm : ys.length ≤ xs.length) (hle : sval ys ≤ sval xs) (hlen : xs.length ≤ 100000) :
    Calls Tryz.prog 101 #[xv, yv] w (SNew w (sval xs - sval ys)) := by
  obtain ⟨i0, hi, hz0, hz1, hz2⟩ := info_parts info_u32
  obtain ⟨ax, cx, rfl⟩ := hx.form
  obtain ⟨ay, cy, rfl⟩ := hy.form
  obtain ⟨n, hn⟩ : ∃ n, n = xs.length := ⟨_, rfl⟩
  obtain ⟨m, hmm⟩ : ∃ m, m = ys.length := ⟨_, rfl⟩
  rw [← hn] at hlen hm hx ⊢
  rw [← hmm] at hm hy ⊢
  have H_hx := Lib.hid hx; clear hx
  have H_hy := Lib.hid hy; clear hy
  have H_hn := Lib.hid hn; clear hn
  have H_hmm := Lib.hid hmm; clear hmm
  have H_hle := Lib.hid hle; clear hle
  go_enter Tryz.func101, Tryz.ntmps101
  go_wp2_with (fail)
  go_loopw [5, 6, 12] (fun o b i wr => ∃ (k br : Nat) (L : List Nat), k ≤ n ∧ i = .int .i64 k ∧ b = .int .u32 br ∧ br ≤ 1 ∧ wr.ownsRow w.heap.size 102 1 o L.length (L.map (wd .u32)) ∧ Hid (Lim L) ∧ Hid (L.length = k) ∧ Hid (sval (xs.take k) + spow k * br = sval L + sval (ys.take k)) ∧ Hid (Fresh w wr)) (fun _ _ i _ => n - (intOf i).toNat)
  case atStart => exact ⟨0, 0, [], by omega, rfl, rfl, by omega, World.ownsRow_nil _ _ _ _, Lim.nil, Lib.hid rfl, Lib.hid (by simp [sval]), Keep.refl _ _⟩
  case round =>
    obtain ⟨k, br, L, hk, rfl, rfl, hbr, hown, hlim, hLl, hval, hfr⟩ := hrel
    have H_hown := Lib.hid hown
    clear hown
    by_cases hlt : k < n
    · obtain ⟨gx, rfl, hcx, hgx, hcells⟩ := (H_hx.out.fresh hfr.out).cells H_hn.out (by omega)
      have hxk := hcells k hlt
      have hxlim := H_hx.out.lim.getD k
      have hylim := H_hy.out.lim.getD k
      have hstep0 := fun (q : Nat) (hb : br + ys.getD k 0 ≤ xs.getD k 0) (e : q = xs.getD k 0 - (br + ys.getD k 0)) => sub_step0 (y := ys.getD k 0) (x := xs.getD k 0) hval.out hb
      have hstep1 := fun (q : Nat) (hb : br + ys.getD k 0 ≤ xs.getD k 0 + 1000000000) (e : q = xs.getD k 0 + 1000000000 - (br + ys.getD k 0)) => sub_step1 (y := ys.getD k 0) (x := xs.getD k 0) hval.out hb
      rw [← sval_take_succ' xs k, ← sval_take_succ' ys k, ← spow_succ] at hstep0 hstep1
      have hLk := hLl.out
      obtain ⟨x, hxx⟩ : ∃ x, x = xs.getD k 0 := ⟨_, rfl⟩
      obtain ⟨y, hyy⟩ : ∃ y, y = ys.getD k 0 := ⟨_, rfl⟩
      rw [← hxx] at hxk hxlim hstep0 hstep1
      rw [← hyy] at hylim hstep0 hstep1
      have hlt' : (k : Int) < (n : Int) := by omega
      have t1 : decide ((k : Int) < (n : Int)) = true := by simp; omega
      have hsz := hfr.out.size
      obtain ⟨d, hd⟩ : ∃ d, d = br + y := ⟨_, rfl⟩
      rw [← hd] at hstep0 hstep1
      have H_hcells := Lib.hid hcells; clear hcells
      have H_hxx := Lib.hid hxx; clear hxx
      by_cases hkm : k < m
      · obtain ⟨gy, rfl, hcy, hgy, hcells⟩ := (H_hy.out.fresh hfr.out).cells H_hmm.out (by omega)
        have hyk := hcells k hkm
        rw [← hyy] at hyk
        have hkm' : (k : Int) < (m : Int) := by omega
        have t2 : decide ((k : Int) < (m : Int)) = true := by simp; omega
        have hdI : (br : Int) + (y : Int) = (d : Int) := by omega
        have hd9 : d ≤ 1000000000 := by omega
        clear hd
        have H_hcells := Lib.hid hcells; clear hcells
        have H_hyy := Lib.hid hyy; clear hyy
        by_cases hxd : x < d
        · obtain ⟨q, hq⟩ : ∃ q, q = x + 1000000000 - d := ⟨_, rfl⟩
          have hstep := hstep1 q (by omega) hq
          rw [← hq] at hstep
          clear hstep0 hstep1
          have t3 : decide ((x : Int) < (d : Int)) = true := by simp; omega
          have hqI : (x : Int) + 1000000000 - (d : Int) = (q : Int) := by omega
          have hq9 : q < 1000000000 := by omega
          have hown2 := H_hown.out
          rw [hLk] at hown2
          have H_hstep := Lib.hid hstep; clear hstep
          clear hq
          go_wp2_with (at_builtin; refine wpList_append_own _ rfl _ _ 35 rfl w.heap.size 102 i0 (.int .u32 0) 1 4 Tryz.underlying35 hi hz0 hz1 hz2 rfl (by decide) _ _ _ rfl (hown2.alloc _) ⟨wr.heap.size, 0, none⟩ 1 1 [Value.int .u32 (q : Int)] rfl rfl ?c1 ?c2 ?c3 ?c4 ?c5 ?_)
          case c1 =>
            intro j u hj
            match j, hj with
            | 0, hj => simp at hj; subst hj; simp [Addr.add]
          case c2 => intro u hu; simp at hu; subst hu; rfl
          case c3 => unfold maxLen; omega
          case c4 => omega
          case c5 => simp; omega
          · intro v' w1 hown' hgrow _
            have hf1 : Fresh w w1 := Fresh.owns (hfr.out.alloc _) (H_hown.out.alloc _) (Nat.le_refl _) hgrow
            have hL : (L ++ [q]).length = L.length + 1 := by simp
            have hown1 : w1.ownsRow w.heap.size 102 1 v' (L ++ [q]).length ((L ++ [q]).map (wd .u32)) := by
              rw [hL, hLk, List.map_append]; exact hown'
            have H_hown1 := Lib.hid hown1; clear hown1
            have H_hf1 := Lib.hid hf1; clear hf1
            clear hown' hgrow hown2
            go_wp2_with (fail)
            go_roundw
            case rel => exact ⟨k + 1, 1, L ++ [q], by omega, by simp, rfl, by omega, H_hown1.out, Lib.hid (hlim.out.append (Lim.one hq9)), Lib.hid (by rw [hL, hLk]), Lib.hid (by have h9 := H_hstep.out; rw [sval_append, hLk]; simpa [sval] using h9), H_hf1⟩
            case measure => simp [intOf]; omega
        · obtain ⟨q, hq⟩ : ∃ q, q = x - d := ⟨_, rfl⟩
          have hstep := hstep0 q (by omega) hq
          rw [← hq] at hstep
          clear hstep0 hstep1
          have t3 : decide ((x : Int) < (d : Int)) = false := by simp; omega
          have hqI : (x : Int) - (d : Int) = (q : Int) := by omega
          have hq9 : q < 1000000000 := by omega
          have hown2 := H_hown.out
          rw [hLk] at hown2
          have H_hstep := Lib.hid hstep; clear hstep
          clear hq
          go_wp2_with (at_builtin; refine wpList_append_own _ rfl _ _ 35 rfl w.heap.size 102 i0 (.int .u32 0) 1 4 Tryz.underlying35 hi hz0 hz1 hz2 rfl (by decide) _ _ _ rfl (hown2.alloc _) ⟨wr.heap.size, 0, none⟩ 1 1 [Value.int .u32 (q : Int)] rfl rfl ?c1 ?c2 ?c3 ?c4 ?c5 ?_)
          case c1 =>
            intro j u hj
            match j, hj with
            | 0, hj => simp at hj; subst hj; simp [Addr.add]
          case c2 => intro u hu; simp at hu; subst hu; rfl
          case c3 => unfold maxLen; omega
          case c4 => omega
          case c5 => simp; omega
          · intro v' w1 hown' hgrow _
            have hf1 : Fresh w w1 := Fresh.owns (hfr.out.alloc _) (H_hown.out.alloc _) (Nat.le_refl _) hgrow
            have hL : (L ++ [q]).length = L.length + 1 := by simp
            have hown1 : w1.ownsRow w.heap.size 102 1 v' (L ++ [q]).length ((L ++ [q]).map (wd .u32)) := by
              rw [hL, hLk, List.map_append]; exact hown'
            have H_hown1 := Lib.hid hown1; clear hown1
            have H_hf1 := Lib.hid hf1; clear hf1
            clear hown' hgrow hown2
            go_wp2_with (fail)
            go_roundw
            case rel => exact ⟨k + 1, 0, L ++ [q], by omega, by simp, rfl, by omega, H_hown1.out, Lib.hid (hlim.out.append (Lim.one hq9)), Lib.hid (by rw [hL, hLk]), Lib.hid (by have h9 := H_hstep.out; rw [sval_append, hLk]; simpa [sval] using h9), H_hf1⟩
            case measure => simp [intOf]; omega
      · have hy0 : y = 0 := by
          have hml := H_hmm.out
          rw [hyy]; simp [List.getD, List.getElem?_eq_none (show ys.length ≤ k by omega)]
        have t2 : decide ((k : Int) < (m : Int)) = false := by simp; omega
        have hdb : br = d := by omega
        subst hdb
        clear hd
        have hyy' := hyy
        clear hyy hy0 hylim
        have H_hyy := Lib.hid hyy'
        clear hyy'
        by_cases hxd : x < br
        · obtain ⟨q, hq⟩ : ∃ q, q = x + 1000000000 - br := ⟨_, rfl⟩
          have hstep := hstep1 q (by omega) hq
          rw [← hq] at hstep
          clear hstep0 hstep1
          have t3 : decide ((x : Int) < (br : Int)) = true := by simp; omega
          have hqI : (x : Int) + 1000000000 - (br : Int) = (q : Int) := by omega
          have hq9 : q < 1000000000 := by omega
          have hown2 := H_hown.out
          rw [hLk] at hown2
          have H_hstep := Lib.hid hstep; clear hstep
          clear hq
          go_wp2_with (at_builtin; refine wpList_append_own _ rfl _ _ 35 rfl w.heap.size 102 i0 (.int .u32 0) 1 4 Tryz.underlying35 hi hz0 hz1 hz2 rfl (by decide) _ _ _ rfl (hown2.alloc _) ⟨wr.heap.size, 0, none⟩ 1 1 [Value.int .u32 (q : Int)] rfl rfl ?c1 ?c2 ?c3 ?c4 ?c5 ?_)
          case c1 =>
            intro j u hj
            match j, hj with
            | 0, hj => simp at hj; subst hj; simp [Addr.add]
          case c2 => intro u hu; simp at hu; subst hu; rfl
          case c3 => unfold maxLen; omega
          case c4 => omega
          case c5 => simp; omega
          · intro v' w1 hown' hgrow _
            have hf1 : Fresh w w1 := Fresh.owns (hfr.out.alloc _) (H_hown.out.alloc _) (Nat.le_refl _) hgrow
            have hL : (L ++ [q]).length = L.length + 1 := by simp
            have hown1 : w1.ownsRow w.heap.size 102 1 v' (L ++ [q]).length ((L ++ [q]).map (wd .u32)) := by
              rw [hL, hLk, List.map_append]; exact hown'
            have H_hown1 := Lib.hid hown1; clear hown1
            have H_hf1 := Lib.hid hf1; clear hf1
            clear hown' hgrow hown2
            go_wp2_with (fail)
            go_roundw
            case rel => exact ⟨k + 1, 1, L ++ [q], by omega, by simp, rfl, by omega, H_hown1.out, Lib.hid (hlim.out.append (Lim.one hq9)), Lib.hid (by rw [hL, hLk]), Lib.hid (by have h9 := H_hstep.out; rw [sval_append, hLk]; simpa [sval] using h9), H_hf1⟩
            case measure => simp [intOf]; omega
        · obtain ⟨q, hq⟩ : ∃ q, q = x - br := ⟨_, rfl⟩
          have hstep := hstep0 q (by omega) hq
          rw [← hq] at hstep
          clear hstep0 hstep1
          have t3 : decide ((x : Int) < (br : Int)) = false := by simp; omega
          have hqI : (x : Int) - (br : Int) = (q : Int) := by omega
          have hq9 : q < 1000000000 := by omega
          have hown2 := H_hown.out
          rw [hLk] at hown2
          have H_hstep := Lib.hid hstep; clear hstep
          clear hq
          go_wp2_with (at_builtin; refine wpList_append_own _ rfl _ _ 35 rfl w.heap.size 102 i0 (.int .u32 0) 1 4 Tryz.underlying35 hi hz0 hz1 hz2 rfl (by decide) _ _ _ rfl (hown2.alloc _) ⟨wr.heap.size, 0, none⟩ 1 1 [Value.int .u32 (q : Int)] rfl rfl ?c1 ?c2 ?c3 ?c4 ?c5 ?_)
          case c1 =>
            intro j u hj
            match j, hj with
            | 0, hj => simp at hj; subst hj; simp [Addr.add]
          case c2 => intro u hu; simp at hu; subst hu; rfl
          case c3 => unfold maxLen; omega
          case c4 => omega
          case c5 => simp; omega
          · intro v' w1 hown' hgrow _
            have hf1 : Fresh w w1 := Fresh.owns (hfr.out.alloc _) (H_hown.out.alloc _) (Nat.le_refl _) hgrow
            have hL : (L ++ [q]).length = L.length + 1 := by simp
            have hown1 : w1.ownsRow w.heap.size 102 1 v' (L ++ [q]).length ((L ++ [q]).map (wd .u32)) := by
              rw [hL, hLk, List.map_append]; exact hown'
            have H_hown1 := Lib.hid hown1; clear hown1
            have H_hf1 := Lib.hid hf1; clear hf1
            clear hown' hgrow hown2
            go_wp2_with (fail)
            go_roundw
            case rel => exact ⟨k + 1, 0, L ++ [q], by omega, by simp, rfl, by omega, H_hown1.out, Lib.hid (hlim.out.append (Lim.one hq9)), Lib.hid (by rw [hL, hLk]), Lib.hid (by have h9 := H_hstep.out; rw [sval_append, hLk]; simpa [sval] using h9), H_hf1⟩
            case measure => simp [intOf]; omega
    · obtain rfl : k = n := by omega
      have t1 : decide ((k : Int) < (k : Int)) = false := by simp
      have hs := SNat.of_owns H_hown.out hlim.out (by have := hLl.out; omega)
      obtain ⟨ao, co, rfl⟩ := hs.form
      have hcall := natTrim_own _ _ _ hs
      have H_hcall := Lib.hid hcall; clear hcall
      clear hs
      go_wp2_with (fail)
      refine H_hcall.out.mono ?_
      rintro e w2 ⟨v, l, rfl, h1, h2, h3, h4, h5⟩
      have H_h1 := Lib.hid h1; clear h1
      have H_h2 := Lib.hid h2; clear h2
      have H_h3 := Lib.hid h3; clear h3
      have H_h4 := Lib.hid h4; clear h4
      have H_h5 := Lib.hid h5; clear h5
      go_wp2_with (fail)
      go_ret
      refine ⟨_, l, rfl, H_h1.out, H_h2.out, ?_, fresh_trans hfr.out H_h4.out, fun k hk => (H_hown.out.lt k (H_h5.out k hk)).1⟩
      have hv := hval.out
      have hlt2 := sval_lt hlim.out
      rw [hLl.out] at hlt2
      rw [List.take_of_length_le (by have := H_hn.out; omega), List.take_of_length_le (by have := H_hmm.out; omega)] at hv
      have hl := H_hle.out
      have hb0 : br = 0 := by
        rcases Nat.eq_zero_or_pos br with h | h
        · exact h
        · obtain rfl : br = 1 := by omega
          omega
      subst hb0
      rw [H_h3.out]
      omega

end Go.Proofs.YtmgidnjpkbgmgabGreatDoor

/- The contracts of the reference on govalues' decimals: FixIs, Minus, FixDec. -/
namespace Go.Proofs.YtmgidnjpkbgmgabGreatDoor
open Go.RowKit

/-- are the parts those of a decimal? -/
def fixIs (c : Nat) (s : Int) : Bool := decide (c ≤ 9999999999999999999) && (decide (0 ≤ s) && decide (s ≤ 19))

theorem FixIs_any (neg : Bool) (c : Nat) (s : Int) (w : World) : Calls Tryz.prog 16 #[.agg #[.bool neg, .int .u64 c, .int .i64 s]] w (VRet w (.bool (fixIs c s))) := by
  by_cases h1 : c ≤ 9999999999999999999
  · have t1 : decide ((c : Int) ≤ 9999999999999999999) = true := by simp; omega
    by_cases h2 : 0 ≤ s
    · have t2 : decide ((0 : Int) ≤ s) = true := by simp; omega
      by_cases h3 : s ≤ 19
      · have t3 : decide (s ≤ (19 : Int)) = true := by simp; omega
        have hr : fixIs c s = true := by unfold fixIs; simp; omega
        rw [hr]
        clear hr h1 h2 h3
        go_enter Tryz.func16, Tryz.ntmps16
        go_wp2
        go_ret
        exact ⟨rfl, (Keep.refl _ _).alloc _⟩
      · have t3 : decide (s ≤ (19 : Int)) = false := by simp; omega
        have hr : fixIs c s = false := by unfold fixIs; simp; omega
        rw [hr]
        clear hr h1 h2 h3
        go_enter Tryz.func16, Tryz.ntmps16
        go_wp2
        go_ret
        exact ⟨rfl, (Keep.refl _ _).alloc _⟩
    · have t2 : decide ((0 : Int) ≤ s) = false := by simp; omega
      have hr : fixIs c s = false := by unfold fixIs; simp; omega
      rw [hr]
      clear hr h1 h2
      go_enter Tryz.func16, Tryz.ntmps16
      go_wp2
      go_ret
      exact ⟨rfl, (Keep.refl _ _).alloc _⟩
  · have t1 : decide ((c : Int) ≤ 9999999999999999999) = false := by simp; omega
    have hr : fixIs c s = false := by unfold fixIs; simp; omega
    rw [hr]
    clear hr h1
    go_enter Tryz.func16, Tryz.ntmps16
    go_wp2
    go_ret
    exact ⟨rfl, (Keep.refl _ _).alloc _⟩

end Go.Proofs.YtmgidnjpkbgmgabGreatDoor

/- The contracts of the reference on govalues' decimals: Minus, FixDec, FixNum. -/
namespace Go.Proofs.YtmgidnjpkbgmgabGreatDoor
open Go.RowKit

/-- the call returns the decimal number of a decimal -/
def DRet (w : World) (neg : Bool) (c s : Nat) (e : Ending) (w' : World) : Prop :=
  ∃ v l, e = .returned (.agg #[.bool (neg && decide (0 < l.length)), v, .int .i64 (-(s : Int))]) ∧ SNat w' v l ∧ Norm l ∧ sval l = c ∧ Fresh w w'

set_option maxRecDepth 20000 in
set_option maxHeartbeats 2000000 in
theorem FixDec_any (neg : Bool) (c s : Nat) (w : World) (hs : s ≤ 19) (hc : c ≤ 9999999999999999999) :
    Calls Tryz.prog 46 #[fx neg c s] w (DRet w neg c s) := by
  have t1 : IntKind.i64.wrap (-(s : Int)) = -(s : Int) := by rw [IntKind.wrap_i64]; omega
  obtain ⟨g, hg⟩ : ∃ g, g = w.heap.size := ⟨_, rfl⟩
  have bx := boxes2 w #[.bool neg, .int .u64 c, .int .i64 s] #[.bool false, .slice none 0 0, .int .i64 0] 24 45 g hg
  have H_bx := Lib.hid bx; clear bx
  go_enter Tryz.func46, Tryz.ntmps46
  go_wp2_with (fail)
  generalize hw1 : (w.alloc _).alloc _ = w1
  rw [← hg]
  obtain ⟨b1, b2, hf⟩ := H_bx.out w1 hw1
  have k0 := row_cell b1 0
  have k1 := row_cell b1 1
  have k2 := row_cell b1 2
  simp at k0 k1 k2
  have H_b1 := Lib.hid b1; clear b1
  have H_b2 := Lib.hid b2; clear b2
  have H_hf := Lib.hid hf; clear hf
  have H_hw1 := Lib.hid hw1; clear hw1
  have H_hg := Lib.hid hg; clear hg
  go_region_held3 (fun (w' : World) => w'.cell? ⟨g, 0, none⟩ = some (.bool neg) ∧ w'.cell? ⟨g, 1, none⟩ = some (.int .u64 c) ∧ w'.cell? ⟨g, 2, none⟩ = some (.int .i64 s)) (first | exact ⟨k0, k1, k2⟩ | exact ⟨m0, m1, m2⟩ | exact ⟨n0, n1, n2⟩ | exact ⟨far3 (by omega) n0, far3 (by omega) n1, far3 (by omega) n2⟩) (first
    | (go_at_call 82; (with_reducible refine (NatFrom_any c _ (by omega)).mono ?_); rintro e w2 ⟨v, l, rfl, r1, r2, r3, r⟩; obtain ⟨a, cc, rfl⟩ := r1.form; have hf0 : Fresh w1 w2 := (by first | exact r | exact r.of_drew | exact r.of_drewN); have m0 := cell_fresh k0 hf0; have m1 := cell_fresh k1 hf0; have m2 := cell_fresh k2 hf0; have H_r1 := Lib.hid r1; have H_r2 := Lib.hid r2; have H_r3 := Lib.hid r3; have H_hf0 := Lib.hid hf0; clear r1 r2 r3 r hf0)
    | (go_at_call 48; (with_reducible refine (wholeOf_any _ _ _ _ H_r1.out).mono ?_); rintro e w3 ⟨rfl, r⟩; have n0 := cell_fresh m0 r; have n1 := cell_fresh m1 r; have n2 := cell_fresh m2 r; have hfa := fresh_trans H_hf0.out r; have b4 := row_fresh H_b2.out hfa; have p0 := row_cell b4 0; have p1 := row_cell b4 1; have p2 := row_cell b4 2; simp at p0 p1 p2; have q0 : w3.frozen? ⟨g + 1, 0, none⟩ = false := frozen_of_row _ _ _ _ _ b4; have q1 : w3.frozen? ⟨g + 1, 1, none⟩ = false := frozen_of_row _ _ _ _ _ b4; have q2 : w3.frozen? ⟨g + 1, 2, none⟩ = false := frozen_of_row _ _ _ _ _ b4; have H_s1 := Lib.hid (H_r1.out.fresh r); have H_hfa := Lib.hid hfa; have H_b4 := Lib.hid b4; clear hfa b4 r))
  go_wp2
  refine bodyPost_ret (results_cell_row rfl _ _ (g + 1) 45 #[.bool (neg && decide (0 < l.length)), .slice a l.length cc, .int .i64 (-(s : Int))] (0, 0) _ rfl (row_set (row_set (row_set H_b4.out))) Tryz.underlying45 rfl (by kernel_rfl)) rfl ?_
  have f1 := H_s1.out.off p0 (fun n e => by simp at e)
  exact ⟨_, l, rfl, ((H_s1.out.setOff f1).setOff f1).setOff f1, H_r2.out, H_r3.out, (fresh_trans H_hf.out H_hfa.out).set3 (by have := H_hg.out; omega)⟩

theorem DecFrac_any (neg : Bool) (v : Value) (l : List Nat) (s : Nat) (w : World) (h : SNat w v l) (hn : Norm l) (hc : l = [] → neg = false) (hs : s ≤ 1000) (hl : l.length ≤ 1000) :
    Calls Tryz.prog 21 #[.agg #[.bool neg, v, .int .i64 (-(s : Int))]] w (FRet w (sint neg l) (10 ^ s)) := by
  by_cases h0 : s = 0
  · subst h0
    have := DecFrac_pos neg v l 0 w h (by omega) (by omega) (by omega)
    rw [show sint neg l * ((10 ^ 0 : Nat) : Int) = sint neg l by simp] at this
    exact this
  · exact DecFrac_neg neg v l s w h hn hc (by omega) (by omega)

end Go.Proofs.YtmgidnjpkbgmgabGreatDoor
