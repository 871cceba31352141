/- big: nat.expNN: the powers of ten from the 128th to the 255th. -/
import Derived.Test.YtllencgncinphaaGreatDoorKE28
import Derived.Test.YtllencgncinphaaGreatDoorKE34
import Derived.Test.YtllencgncinphaaGreatDoorKE38
namespace Go.Proofs.YtllencgncinphaaGreatDoor
open Go.RowKit
open Go.Lib (hid)
set_option maxRecDepth 20000
set_option maxHeartbeats 4000000

def vj (n j : Nat) : Nat := n * 2 ^ (57 + j) % 18446744073709551616

theorem vj_wrap (n : Nat) : IntKind.u64.wrap ((n : Int) * 144115188075855872) = ((vj n 0 : Nat) : Int) := by
 rw [IntKind.wrap_u64]
 unfold vj
 simp only [Nat.add_zero, Nat.reducePow]
 omega

theorem vj_next (n j : Nat) : IntKind.u64.wrap (((vj n j : Nat) : Int) * 2) = ((vj n (j + 1) : Nat) : Int) := by
 have e : vj n (j + 1) = vj n j * 2 % 18446744073709551616 := by
  unfold vj
  rw [show 57 + (j + 1) = (57 + j) + 1 by omega, Nat.pow_succ, ← Nat.mul_assoc]
  generalize n * 2 ^ (57 + j) = x
  omega
 rw [e, IntKind.wrap_u64]
 omega

theorem vj_bit {n j : Nat} (hj : j < 7) (_hn : n < 256) : vj n j < 18446744073709551616 ∧ bits BinOp.and IntKind.u64 ((vj n j : Nat) : Int) 9223372036854775808 = if n / 2 ^ (6 - j) % 2 = 1 then 9223372036854775808 else 0 := by
 have h1 : vj n j < 18446744073709551616 := Nat.mod_lt _ (by omega)
 refine ⟨h1, ?_⟩
 have h2 : bits BinOp.and IntKind.u64 ((vj n j : Nat) : Int) ((9223372036854775808 : Nat) : Int) = ((vj n j &&& 9223372036854775808 : Nat) : Int) := bits_and_u64_nat _ _ h1 (by omega)
 rw [show ((9223372036854775808 : Nat) : Int) = 9223372036854775808 from rfl] at h2
 have h3 : vj n j / 2 ^ 63 % 2 = n / 2 ^ (6 - j) % 2 := by
  unfold vj
  rcases (by omega : j = 0 ∨ j = 1 ∨ j = 2 ∨ j = 3 ∨ j = 4 ∨ j = 5 ∨ j = 6) with rfl | rfl | rfl | rfl | rfl | rfl | rfl <;> simp only [Nat.reducePow, Nat.reduceAdd, Nat.reduceSub] <;> omega
 have h4 : (vj n j).testBit 63 = decide (n / 2 ^ (6 - j) % 2 = 1) := by rw [Nat.testBit_eq_decide_div_mod_eq, h3]
 rw [h2]
 generalize vj n j = x at *
 by_cases h : n / 2 ^ (6 - j) % 2 = 1
 · rw [if_pos h]
   have : x &&& 9223372036854775808 = 9223372036854775808 := by
    rw [show (9223372036854775808 : Nat) = 2 ^ 63 from rfl]
    refine Nat.eq_of_testBit_eq (fun i => ?_)
    rw [Nat.testBit_and, Nat.testBit_two_pow]
    by_cases hi : 63 = i
    · subst hi; rw [h4, decide_eq_true h]; rfl
    · simp [hi]
   rw [this]; rfl
 · rw [if_neg h]
   have : x &&& 9223372036854775808 = 0 := by
    rw [show (9223372036854775808 : Nat) = 2 ^ 63 from rfl]
    refine Nat.eq_of_testBit_eq (fun i => ?_)
    rw [Nat.testBit_and, Nat.testBit_two_pow, Nat.zero_testBit]
    by_cases hi : 63 = i
    · subst hi; rw [h4, decide_eq_false h]; rfl
    · simp [hi]
   rw [this]; rfl

def ExL (w1 wr : World) (zv qv : Value) (p : Nat) : Prop :=
 ∃ l lq, NatAt wr zv l ∧ Norm l ∧ val l = p ∧ NatAt wr qv lq ∧ (∀ k, zv.ownBlock = some k → qv.ownBlock ≠ some k) ∧ (∀ k, zv.ownBlock = some k → w1.heap.size ≤ k) ∧ (∀ k, qv.ownBlock = some k → w1.heap.size ≤ k) ∧ Fresh w1 wr

theorem ExL.step {w1 wr w' : World} {zv qv : Value} {p p' : Nat} {e : Ending} (h : ExL w1 wr zv qv p) (hr : NatRet wr qv p' e w') : ∃ rv, e = .returned rv ∧ ExL w1 w' rv zv p' := by
 obtain ⟨l, lq, h1, h2, h3, h4, h5, h6, h7, h8⟩ := h
 obtain ⟨rv, l', rfl, hop, hn, hv⟩ := hr
 refine ⟨rv, rfl, l', l, hop.nat, hn, hv, h1.keep hop.keep (fun k hk h => h5 k hk h), ?_, ?_, h6, ?_⟩
 · intro k hk hz
   rcases hop.own k hk with h | h
   · exact h5 k hz h
   · have := h1.lt hz; omega
 · intro k hk
   rcases hop.own k hk with h | h
   · exact h7 k h
   · exact Nat.le_trans h8.size h
 · exact h8.trans hop.keep (fun _ _ h => h) (fun k hk h => by have := h7 k h; omega)

theorem pow10_words {p : Nat} (hp : p ≤ 127) : 10 ^ p < wpow 7 := by
 have h1 : 10 ^ p ≤ 10 ^ 127 := Nat.pow_le_pow_right (by omega) hp
 exact Nat.lt_of_le_of_lt h1 (by unfold wpow; decide)

theorem pow10_words14 {p : Nat} (hp : p ≤ 255) : 10 ^ p < wpow 14 := by
 have h1 : 10 ^ p ≤ 10 ^ 255 := Nat.pow_le_pow_right (by omega) hp
 exact Nat.lt_of_le_of_lt h1 (by unfold wpow; decide)

theorem ExL.sqr {w1 wr : World} {zv qv : Value} {p : Nat} (h : ExL w1 wr zv qv (10 ^ p)) (hp : p ≤ 127) (hG : Glob w1) (stk : Option Addr) :
 Calls Tryz.prog 170 #[qv, .pointer stk, zv] wr (fun e w' => ∃ rv, e = .returned rv ∧ ExL w1 w' rv zv (10 ^ (2 * p))) := by
 have h' := h
 obtain ⟨l, lq, h1, h2, h3, h4, h5, h6, h7, h8⟩ := h
 have hl : l.length ≤ 7 := h2.len_le (by rw [h3]; exact pow10_words hp)
 have hl0 : 0 < l.length := by
  rcases Nat.eq_zero_or_pos l.length with h | h
  · rw [List.eq_nil_of_length_eq_zero h] at h3
    have : 0 < 10 ^ p := Nat.pow_pos (by omega)
    rw [← h3] at this
    exact absurd this (by decide)
  · exact h
 have hs := nat_sqr qv zv stk lq l wr (hG.fresh h8) hl0 (by omega) h4 h1 (fun g hg hz => h5 g hz hg)
 refine hs.mono (fun e w' hr => ?_)
 rw [h3, ← Nat.pow_add, ← Nat.two_mul] at hr
 exact h'.step hr

theorem ExL.mul {w1 wr : World} {zv qv xv : Value} {p : Nat} (h : ExL w1 wr zv qv (10 ^ p)) (hp : p ≤ 254) (hG : Glob w1) (hx : NatAt w1 xv [10]) (stk : Option Addr) :
 Calls Tryz.prog 171 #[qv, .pointer stk, zv, xv] wr (fun e w' => ∃ rv, e = .returned rv ∧ ExL w1 w' rv zv (10 ^ (p + 1))) := by
 have h' := h
 obtain ⟨l, lq, h1, h2, h3, h4, h5, h6, h7, h8⟩ := h
 have hl : l.length ≤ 14 := h2.len_le (by rw [h3]; exact pow10_words14 (by omega))
 have hs := nat_mul qv zv xv stk lq l [10] wr (hG.fresh h8) (by omega) (by simp) h4 h1 (hx.keep h8 (fun _ _ h => h)) (.inr (fun g hg hz => h5 g hz hg)) (.inr (fun g hg hz => by have := h7 g hg; have := hx.lt hz; omega))
 refine hs.mono (fun e w' hr => ?_)
 rw [h3, show val [10] = 10 from rfl, ← Nat.pow_succ] at hr
 exact h'.step hr

theorem lead_256 {n s : Nat} (h0 : 128 ≤ n) (h1 : n < 256) (h : Lead n s) : s = 56 := by
 obtain ⟨a, b, c⟩ := h
 rcases Nat.lt_trichotomy s 56 with h | h | h
 · have h2 : 2 ^ s ≤ 2 ^ 55 := Nat.pow_le_pow_right (by omega) (by omega)
   have h3 : n * 2 ^ s ≤ 255 * 2 ^ 55 := Nat.mul_le_mul (by omega) h2
   simp only [Nat.reducePow, Nat.reduceMul] at h3
   omega
 · exact h
 · have h2 : 2 ^ 57 ≤ 2 ^ s := Nat.pow_le_pow_right (by omega) (by omega)
   have h3 : 128 * 2 ^ 57 ≤ n * 2 ^ s := Nat.mul_le_mul h0 h2
   simp only [Nat.reducePow, Nat.reduceMul] at h3
   omega

theorem half_of {n j : Nat} (hj : j < 7) : n / 2 ^ (7 - j) = n / 2 ^ (6 - j) / 2 := by
 rw [show 7 - j = (6 - j) + 1 by omega, Nat.pow_succ, Nat.div_div_eq_div_mul]

theorem expNN_ten (xv yv : Value) (n : Nat) (w : World) (hG : Glob w) (hn0 : 128 ≤ n) (hn : n < 256) (hx : NatAt w xv [10]) (hy : NatAt w yv [n]) :
 Calls Tryz.prog 174 #[.slice none 0 0, .pointer none, xv, yv, .slice none 0 0, .bool false] w (NatRet w (.slice none 0 0) (10 ^ n)) := by
 have ha1 := fun q => alias_apart (.slice none 0 0) xv [] [10] (w.drewN q) (NatAt.nil _) (hx.drewN q) (fun g h => by simp [Value.ownBlock] at h)
 have ha2 := fun q => alias_apart (.slice none 0 0) yv [] [n] (w.drewN q) (NatAt.nil _) (hy.drewN q) (fun g h => by simp [Value.ownBlock] at h)
 have hst := fun q => getStack_f (w.drewN q)
 have hlz := fun W => nlz_any n W (by omega) (by omega)
 have hx' := hx
 have hy' := hy
 obtain ⟨gx, ox, cx, M, rfl, bx, hx1, hx2, hx3, hx4⟩ := hx.open_pos (by simp)
 obtain ⟨gy, oy, cy, K, rfl, by_, hy1, hy2, hy3, hy4⟩ := hy.open_pos (by simp)
 simp only [List.length_cons, List.length_nil, Nat.zero_add] at *
 have cx0 := bx.cell (o := ox) (by omega)
 have cy0 := by_.cell (o := oy) (by omega)
 have ex : M.getD ox 0 = 10 := by
  have := congrArg (fun l => l.getD 0 0) hx3
  rw [seg_getD (by omega)] at this
  simpa using this.symm
 have ey : K.getD oy 0 = n := by
  have := congrArg (fun l => l.getD 0 0) hy3
  rw [seg_getD (by omega)] at this
  simpa using this.symm
 rw [ex] at cx0
 rw [ey] at cy0
 have t1 : ((n : Int) == 1) = false := by rw [beq_eq_false_iff_ne]; omega
 have hset : ∀ W, Fresh w W → Calls Tryz.prog 153 #[.slice none 0 0, .slice (some ⟨gx, ox, none⟩) 1 cx] W fun e w' => ∃ rv, e = .returned rv ∧ NatOp W (.slice none 0 0) rv [10] w' := fun W hW => set_any (.slice none 0 0) _ [] [10] W (by simp) (NatAt.nil W) (hx'.keep hW (fun _ _ h => h)) (Sep.nil _)
 have hv0 := vj_wrap n
 have H_hG := hid hG; have H_hx := hid hx; have H_hy := hid hy; have H_hx' := hid hx'; have H_hy' := hid hy'; have H_bx := hid bx; have H_by_ := hid by_; have H_hx1 := hid hx1; have H_hx2 := hid hx2; have H_hx3 := hid hx3; have H_hx4 := hid hx4; have H_hy1 := hid hy1; have H_hy2 := hid hy2; have H_hy3 := hid hy3; have H_hy4 := hid hy4; have H_ex := hid ex; have H_ey := hid ey; have H_ha1 := hid ha1; have H_ha2 := hid ha2; have H_hst := hid hst; have H_hlz := hid hlz; have H_hset := hid hset; have H_hn0 := hid hn0; have H_hn := hid hn; clear hG hx hy hx' hy' bx by_ hx1 hx2 hx3 hx4 hy1 hy2 hy3 hy4 ex ey ha1 ha2 hst hlz hset hn0 hn
 go_enter_defers Tryz.func174, Tryz.ntmps174
 go_wp2_with (fail)
 refine (H_ha1.out 0).mono ?_
 rintro e w1 ⟨rfl, n1, rfl⟩
 go_wp2_with (fail)
 refine (H_ha2.out _).mono ?_
 rintro e w1 ⟨rfl, n2, hw⟩
 rw [World.drewN_drewN] at hw
 subst hw
 go_wp2_with (fail)
 refine (H_hst.out _).mono ?_
 rintro e w2 ⟨rfl, hs2⟩
 obtain ⟨st2, fz2, f2⟩ := hs2.out
 have f2 : Fresh w w2 := f2.of_drewN
 clear hs2
 have dx2 := cfr cx0 f2
 have dy2 := cfr cy0 f2
 clear cx0 cy0
 have hs2 := H_hset.out w2 f2
 have hG2 := H_hG.out.fresh f2
 have hx2' := H_hx'.out.keep f2 (fun _ _ h => h)
 have H_st2 := hid st2; have H_fz2 := hid fz2; have H_f2 := hid f2; have H_hs2 := hid hs2; have H_hG2 := hid hG2; have H_hx2' := hid hx2'; clear st2 fz2 f2 hs2 hG2 hx2'
 go_wp2_with (fail)
 refine H_hs2.out.mono ?_
 rintro e w3 ⟨rv, rfl, hop⟩
 have f3 : Fresh w2 w3 := hop.keep.mono (fun k _ h => by simp [Value.ownBlock] at h)
 have dy3 := cfr dy2 f3
 have hE : ExL w2 w3 rv (.slice none 0 0) (10 ^ (n / 2 ^ 7)) := by
  refine ⟨[10], [], hop.nat, ?_, ?_, NatAt.nil _, fun k _ h => by simp [Value.ownBlock] at h, fun k hk => ?_, fun k h => by simp [Value.ownBlock] at h, f3⟩
  · intro k hk
    have : k = 0 := by simp at hk; omega
    subst this
    decide
  · have : n / 2 ^ 7 = 1 := by have := H_hn0.out; have := H_hn.out; simp only [Nat.reducePow]; omega
    rw [this]; rfl
  · rcases hop.own k hk with h | h
    · simp [Value.ownBlock] at h
    · exact h
 clear dx2 dy2 hop
 have H_f3 := hid f3; have H_hE := hid hE; clear f3 hE
 go_wp2_with (fail)
 refine (H_hlz.out _).mono ?_
 rintro e w4 ⟨s, rfl, hls, hww⟩
 rw [hww]
 clear hww
 obtain rfl := lead_256 H_hn0.out H_hn.out hls
 clear hls
 go_wp2_with (fail)
 generalize hvv : vj n 0 = v0 at *
 have H_hvv := hid hvv; clear hvv
 go_loopw [0, 15, 19, 21] (fun zx vv qx jv wr => ∃ (j : Nat) (zv qv : Value), zx = zv ∧ qx = qv ∧ jv = .int .i64 j ∧ j ≤ 7 ∧ vv = .int .u64 ((vj n j : Nat) : Int) ∧ Hid (ExL w2 wr zv qv (10 ^ (n / 2 ^ (7 - j))))) (fun _ _ _ jv _ => 7 - (intOf jv).toNat)
 case atStart => exact ⟨0, _, _, rfl, rfl, rfl, by omega, by rw [H_hvv.out], H_hE⟩
 case round =>
  obtain ⟨j, zv, qv, rfl, rfl, rfl, hj, rfl, hrE⟩ := hrel
  by_cases hj7 : j < 7
  · have t1 : decide ((j : Int) < 7) = true := by simp; omega
    have t2 : (j : Int) < 7 := by omega
    have hw := vj_next n j
    obtain ⟨hb1, hb2⟩ := vj_bit hj7 H_hn.out
    have hh := half_of (n := n) hj7
    obtain ⟨a, ha⟩ : ∃ a, a = n / 2 ^ (6 - j) := ⟨_, rfl⟩
    rw [← ha] at hh hb2
    have haN : a ≤ n := by rw [ha]; exact Nat.div_le_self _ _
    have hE := hrE.out
    rw [hh] at hE
    have hsq := fun stk => hE.sqr (by have := H_hn.out; omega) H_hG2.out stk
    clear hE
    obtain ⟨v, hv⟩ : ∃ v, v = vj n j := ⟨_, rfl⟩
    obtain ⟨v', hv'⟩ : ∃ v, v = vj n (j + 1) := ⟨_, rfl⟩
    rw [← hv, ← hv'] at hw
    rw [← hv] at hb1 hb2 ⊢
    have hjj : (((j + 1 : Nat)) : Int) = (j : Int) + 1 := by push_cast; rfl
    have hfin : a = n / 2 ^ (7 - (j + 1)) := by rw [show 7 - (j + 1) = 6 - j by omega]; exact ha
    have H_hrE := hid hrE; have H_hh := hid hh; have H_ha := hid ha; have H_haN := hid haN; have H_hsq := hid hsq; have H_hv := hid hv; have H_hv' := hid hv'; have H_hfin := hid hfin; clear hrE hh ha haN hsq hv hv' hfin
    by_cases hb : a % 2 = 1
    · rw [if_pos hb] at hb2
      have H_hb := hid hb; have H_hjj := hid hjj; clear hb hjj
      go_wp2_with (fail)
      refine (H_hsq.out _).mono ?_
      rintro e w5 ⟨rv5, rfl, hE5⟩
      have hm := fun stk => hE5.mul (by have := H_haN.out; have := H_hn.out; omega) H_hG2.out H_hx2'.out stk
      have H_hm := hid hm; have H_hE5 := hid hE5; clear hm hE5
      go_wp2_with (fail)
      refine (H_hm.out _).mono ?_
      rintro e w6 ⟨rv6, rfl, hE6⟩
      rw [show 2 * (a / 2) + 1 = a by have := H_hb.out; omega, H_hfin.out] at hE6
      have H_hE6 := hid hE6; clear hE6
      go_wp2_with (fail)
      go_roundw
      case rel => exact ⟨j + 1, _, _, rfl, rfl, by simp, by omega, by rw [H_hv'.out], H_hE6⟩
      case measure => simp [intOf]; omega
    · rw [if_neg hb] at hb2
      have H_hb := hid hb; have H_hjj := hid hjj; clear hb hjj
      go_wp2_with (fail)
      refine (H_hsq.out _).mono ?_
      rintro e w5 ⟨rv5, rfl, hE5⟩
      rw [show 2 * (a / 2) = a by have := H_hb.out; omega, H_hfin.out] at hE5
      have H_hE5 := hid hE5; clear hE5
      go_wp2_with (fail)
      go_roundw
      case rel => exact ⟨j + 1, _, _, rfl, rfl, by simp, by omega, by rw [H_hv'.out], H_hE5⟩
      case measure => simp [intOf]; omega
  · obtain rfl : j = 7 := by omega
    have t1 : decide (((7 : Nat) : Int) < 7) = false := by simp
    obtain ⟨l, lq, p1, p2, p3, p4, p5, p6, p7, p8⟩ := hrE.out
    have hno := norm_any _ l wr (by
     have : l.length ≤ 14 := p2.len_le (by rw [p3]; exact pow10_words14 (by have := H_hn.out; simp; omega))
     omega) p1
    have p3 : val l = 10 ^ n := by rw [p3]; simp
    generalize vj n 7 = v7 at *
    have H_hrE := hid hrE; have H_hno := hid hno; have H_p1 := hid p1; have H_p2 := hid p2; have H_p3 := hid p3; have H_p4 := hid p4; have H_p5 := hid p5; have H_p6 := hid p6; have H_p7 := hid p7; have H_p8 := hid p8; clear hrE hno p1 p2 p3 p4 p5 p6 p7 p8
    clear hj hj7
    go_wp2_with (fail)
    refine wp_loop_once ?_
    go_wp2_with (fail)
    refine H_hno.out.mono ?_
    rintro e w7 ⟨rvn, ln, rfl, h6, hnorm, hval, hown, rfl⟩
    have H_h6 := hid h6; have H_hnorm := hid hnorm; have H_hval := hid hval; have H_hown := hid hown; clear h6 hnorm hval hown
    go_wp2_with (fail)
    have f7 := ftr H_f2.out H_p8.out
    have st7 : Stk0 wr w.heap.size := (H_p8.out.cell (World.block_lt_of_cell? _ _ H_st2.out) (fun h => h)).trans H_st2.out
    refine leaves_cons (f := 168) (args := #[.pointer (some ⟨w.heap.size, 0, none⟩)]) (by simp) (by simp [go_sem]) ?_
    refine (free_nil _ _ st7).mono ?_
    rintro e u' w'' ⟨rfl, rfl, rfl⟩
    refine ⟨rvn, ?_, ?_⟩
    · simp [results, Tryz.results174]
    · refine ⟨rvn, ln, rfl, ⟨H_h6.out, f7.mono (fun _ _ h => h.elim), fun k hk => .inr ?_⟩, H_hnorm.out, by rw [H_hval.out, H_p3.out]⟩
      have h1 := H_p6.out k (H_hown.out k hk)
      have h2 := H_f2.out.size
      omega

theorem ZI.word {w : World} {b x : Nat} {v : Value} (h : ZI w b v (x : Int)) (h0 : 0 < x) (hx : x < 18446744073709551616) : IntIs w b 0 false v [x] := by
 obtain ⟨neg, l, hi, e⟩ := h
 have hv : val l = x := by rw [← ival_abs neg l, e]; simp
 have hneg : neg = false := by
  cases neg
  · rfl
  · simp only [ival, if_true] at e; omega
 have hl : l.length ≤ 1 := hi.len e (k := 1) (by simp [wpow]; omega)
 have : l = [x] := by
  match l, hl, hv with
  | [], _, hv => simp [val] at hv; omega
  | [y], _, hv => simp [val] at hv; rw [hv]
 rw [← this, ← hneg]
 exact hi

theorem ZI.nil {w : World} {b : Nat} (h : ZI w b (.slice none 0 0) 0) : IntIs w b 0 false (.slice none 0 0) [] := by
 obtain ⟨neg, l, hi, e⟩ := h
 obtain ⟨a, c, hf⟩ := hi.nat.form
 simp only [Value.slice.injEq] at hf
 have hl : l = [] := List.eq_nil_of_length_eq_zero hf.2.1.symm
 subst hl
 have := hi.zero rfl
 subst this
 exact hi

theorem Int_exp_ten (bz bx bY : Nat) (vx vy : Value) (n : Nat) (w : World) (hG : Glob w) (hn0 : 128 ≤ n) (hn : n < 256) (_hne : bx ≠ bz)
 (hz : IntIs w bz 0 false (.slice none 0 0) []) (hx : IntIs w bx 0 false vx [10]) (hy : IntIs w bY 0 false vy [n]) :
 Calls Tryz.prog 157 #[.pointer (some ⟨bz, 0, none⟩), .pointer (some ⟨bx, 0, none⟩), .pointer (some ⟨bY, 0, none⟩), .pointer none, .bool false] w (IntRet w bz 0 (.slice none 0 0) ((10 ^ n : Nat) : Int)) := by
 have he := expNN_ten vx vy n w hG hn0 hn hx.nat hy.nat
 have cx0 := hx.str.c0; have cx1 := hx.str.c1; have cy0 := hy.str.c0; have cy1 := hy.str.c1; have cz0 := hz.str.c0; have cz1 := hz.str.c1; have fz0 := hz.str.f0; have fz1 := hz.str.f1
 obtain ⟨ax, ccx, hvx⟩ := hx.nat.form
 obtain ⟨ay, ccy, hvy⟩ := hy.nat.form
 simp only [List.length_cons, List.length_nil, Nat.zero_add] at hvx hvy
 subst hvx hvy
 have hp := show 0 < 10 ^ n from Nat.pow_pos (by omega)
 generalize 10 ^ n = p at *
 have H_hG := hid hG; have H_hz := hid hz; have H_hx := hid hx; have H_hy := hid hy; have H_he := hid he; have H_hn0 := hid hn0; have H_hn := hid hn; have H_hp := hid hp; clear hG hz hx hy he hn0 hn hp
 go_enter Tryz.func157, Tryz.ntmps157
 go_wp2_with (fail)
 refine H_he.out.mono ?_
 rintro e w1 ⟨rv, l, rfl, hop, hnorm, hval⟩
 have kz := H_hz.out.str.keep hop.keep (fun h => by simp [Value.ownBlock] at h)
 have kx := H_hx.out.str.keep hop.keep (fun h => by simp [Value.ownBlock] at h)
 have kz0 := kz.c0; have kz1 := kz.c1; have kf0 := kz.f0; have kf1 := kz.f1
 have kx0 := kx.c0; have kx1 := kx.c1
 obtain ⟨ra, rc, hrv⟩ := hop.nat.form
 have hl0 : 0 < l.length := by
  rcases Nat.eq_zero_or_pos l.length with h | h
  · rw [List.eq_nil_of_length_eq_zero h] at hval
    have := H_hp.out
    rw [← hval] at this
    exact absurd this (by decide)
  · exact h
 generalize hll : l.length = nl at *
 subst hrv
 have t1 : decide (0 < nl) = true := by simp; omega
 have H_hop := hid hop; have H_hnorm := hid hnorm; have H_hval := hid hval; have H_hll := hid hll; have H_kz := hid kz; have H_kx := hid kx; clear hop hnorm hval hll kz kx
 clear cx0 cx1 cy0 cy1 cz0 cz1 fz0 fz1
 go_wp2_with (fail)
 go_ret
 have hle : l ≠ [] := fun e => by have := H_hll.out; rw [e] at this; simp at this; omega
 obtain ⟨neg, v, l', h1, h2, h3, h4⟩ := IntIs.made H_hz.out.str H_hz.out.nat H_hop.out H_hnorm.out false (fun _ => rfl) (p : Int) (by simp [ival, H_hval.out]) rfl
 exact ⟨rfl, neg, v, l', h1, h2, h3, h4⟩

theorem Int_Exp_ten (bz bx bY : Nat) (vx vy : Value) (n : Nat) (w : World) (hG : Glob w) (hn0 : 128 ≤ n) (hn : n < 256) (hne : bx ≠ bz)
 (hz : ZI w bz (.slice none 0 0) 0) (hx : ZI w bx vx (10 : Nat)) (hy : ZI w bY vy (n : Nat)) :
 Calls Tryz.prog 142 #[.pointer (some ⟨bz, 0, none⟩), .pointer (some ⟨bx, 0, none⟩), .pointer (some ⟨bY, 0, none⟩), .pointer none] w (fun e w' => e = .returned (.pointer (some ⟨bz, 0, none⟩)) ∧ ZSet w bz (.slice none 0 0) ((10 ^ n : Nat) : Int) w') := by
 have hc := Int_exp_ten bz bx bY vx vy n w hG hn0 hn hne hz.nil (hx.word (by omega) (by omega)) (hy.word (by omega) (by omega))
 clear hz hx hy hG hne hn0 hn
 generalize 10 ^ n = p at *
 have H_hc := hid hc; clear hc
 go_enter Tryz.func142, Tryz.ntmps142
 go_wp2_with (fail)
 refine H_hc.out.mono ?_
 intro e w1 hr
 obtain ⟨rfl, hs⟩ := hr.zset
 clear hr
 have H_hs := hid hs; clear hs
 go_wp2_with (fail)
 go_ret
 exact ⟨rfl, H_hs.out⟩

theorem ten_wpow39b {k : Nat} (h : k ≤ 255) : ((10 ^ k : Nat) : Int).natAbs < wpow 39 := by
 rw [Int.natAbs_natCast]
 have h1 : 10 ^ k ≤ 10 ^ 255 := Nat.pow_le_pow_right (by omega) h
 exact Nat.lt_of_le_of_lt h1 (by unfold wpow; decide)

theorem pow10_big (n : Nat) (w : World) (hG : Glob w) (hn0 : 128 ≤ n) (hn : n < 256) : Calls Tryz.prog 111 #[.int .i64 n] w (ZNew w ((10 ^ n : Nat) : Int)) := by
 obtain ⟨c, hc⟩ : ∃ c, c = w.heap.size := ⟨_, rfl⟩
 have hnew : ∀ W, W = w.alloc (.cells #[.bool false, .slice none 0 0] 110 (0, 0)) → ZI W c (.slice none 0 0) 0 ∧ Fresh w W ∧ W.heap.size = c + 1 := by
  rintro W rfl
  have h1 := hG.size
  rw [hc]
  exact ⟨ZI.new (heap_alloc_new w _) (by omega), (Keep.refl _ _).alloc _, by simp⟩
 have hten := fun W (h : Fresh w W) => tenInt_any W (Nat.le_trans hG.size h.size)
 have hni := fun W (h : Fresh w W) => NewInt_pos n W (by omega) (by omega) (Nat.le_trans hG.size h.size)
 have hexp := fun bx bY vx vy W (hF : Fresh w W) (hne : bx ≠ c) => Int_Exp_ten c bx bY vx vy n W (hG.fresh hF) hn0 hn hne
 have t1 : decide ((n : Int) < 128) = false := by simp; omega
 have t2 : ¬ (n : Int) < 128 := by omega
 generalize 10 ^ n = p at *
 have H_hc := hid hc; have H_hnew := hid hnew; have H_hten := hid hten; have H_hni := hid hni; have H_hexp := hid hexp; have H_hG := hid hG; have H_hn0 := hid hn0; have H_hn := hid hn; clear hc hnew hten hni hexp hG hn0 hn
 go_enter Tryz.func111, Tryz.ntmps111
 go_wp2_with (fail)
 generalize hw1 : w.alloc _ = w1
 obtain ⟨z1, f1, s1⟩ := H_hnew.out w1 hw1.symm
 rw [← H_hc.out]
 have H_z1 := hid z1; have H_f1 := hid f1; have H_hw1 := hid hw1; have H_s1 := hid s1; clear z1 f1 hw1 s1
 refine (H_hten.out w1 H_f1.out).mono ?_
 rintro e w2 ⟨bt, vt, rfl, zt, ft, gt, ot⟩
 have f2 := ftr H_f1.out ft
 have zc2 := H_z1.out.fresh ft
 have H_zt := hid zt; have H_ft := hid ft; have H_gt := hid gt; have H_ot := hid ot; have H_f2 := hid f2; have H_zc2 := hid zc2; clear zt ft gt ot f2 zc2
 go_wp2_with (fail)
 refine (H_hni.out w2 H_f2.out).mono ?_
 rintro e w3 ⟨bn, vn, rfl, zn, fn, gn, on⟩
 have f3 := ftr H_f2.out fn
 have hm := H_hexp.out bt bn vt vn w3 f3 (by have := H_gt.out; have := H_s1.out; omega) (H_zc2.out.fresh fn) (H_zt.out.fresh fn) zn
 have H_zn := hid zn; have H_fn := hid fn; have H_gn := hid gn; have H_on := hid on; have H_f3 := hid f3; have H_hm := hid hm; clear zn fn gn on f3 hm
 go_wp2_with (fail)
 refine H_hm.out.mono ?_
 rintro e w4 ⟨rfl, hset⟩
 obtain ⟨v4, z4, f4, o4⟩ := hset.fresh H_f3.out (Nat.le_of_eq H_hc.out.symm)
 clear hset
 have H_z4 := hid z4; have H_f4 := hid f4; have H_o4 := hid o4; clear z4 f4 o4
 go_wp2_with (fail)
 go_ret
 exact ⟨c, v4, rfl, H_z4.out, H_f4.out, Nat.le_of_eq H_hc.out.symm, H_o4.out⟩

theorem pow10_all (n : Nat) (w : World) (hG : Glob w) (hn : n ≤ 255) : Calls Tryz.prog 111 #[.int .i64 n] w (ZNew w ((10 ^ n : Nat) : Int)) := by
 rcases Nat.lt_or_ge n 128 with h | h
 · exact pow10_any n w hG (by omega)
 · exact pow10_big n w hG h (by omega)

end Go.Proofs.YtllencgncinphaaGreatDoor
