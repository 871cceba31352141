/- The contracts of the reference: natShort, Trim. -/
import Derived.Test.YtecadiflbfpofaaGreatDoorJ5
namespace Go.Proofs.YtecadiflbfpofaaGreatDoor
open Go.RowKit

/-- one step of a short division -/
theorem short_step {b Q r S x : Nat} (h : S = b * Q + r) :
    x + 1000000000 * S = b * (((r * 1000000000 + x) / b) + 1000000000 * Q) + (r * 1000000000 + x) % b := by
  have h1 := Nat.div_add_mod (r * 1000000000 + x) b
  generalize (r * 1000000000 + x) / b = d at *
  generalize (r * 1000000000 + x) % b = m at *
  subst h
  grind

theorem short_lim {b r x : Nat} (hb : 0 < b) (hr : r < b) (hx : x < 1000000000) : (r * 1000000000 + x) / b < 1000000000 := by
  rw [Nat.div_lt_iff_lt_mul hb]
  have : (r + 1) * 1000000000 ≤ b * 1000000000 := Nat.mul_le_mul_right _ hr
  omega

theorem short_room {b r x : Nat} (hb : b ≤ 1000000000) (hr : r < b) (hx : x < 1000000000) : r * 1000000000 + x < 1000000000000000000 := by
  have : r * 1000000000 ≤ 999999999 * 1000000000 := Nat.mul_le_mul_right _ (by omega)
  omega

theorem rep_set_cons (q x : Nat) (Q : List Nat) : (List.replicate (q + 1) 0 ++ Q).set q x = List.replicate q 0 ++ x :: Q := by
  rw [List.set_append_left _ _ (by simp), rep_set, List.append_assoc]; rfl

theorem drop_cons_getD {l : List Nat} {k : Nat} (h : k < l.length) : l.drop k = l.getD k 0 :: l.drop (k + 1) := by
  rw [List.drop_eq_getElem_cons h]; simp [List.getD, h]

set_option maxRecDepth 20000 in
set_option maxHeartbeats 1000000 in
theorem natShort_any (v : Value) (l : List Nat) (b : Nat) (w : World) (h : SNat w v l) (hlen : l.length ≤ 1000000) (hb0 : 0 < b) (hb : b ≤ 1000000000) :
    Calls Tryz.prog 49 #[v, .int .u32 b] w (fun e w' => ∃ q m, e = .returned (.tuple #[q, .int .u32 (sval l % b : Nat)]) ∧ SNat w' q m ∧ Norm m ∧ sval m = sval l / b ∧ Fresh w w') := by
  obtain ⟨a, c, rfl⟩ := h.form
  obtain ⟨n, hn⟩ : ∃ n, n = l.length := ⟨_, rfl⟩
  rw [← hn] at h hlen ⊢
  obtain ⟨o, ho, mk⟩ := make_u32 n w (by omega)
  have t0 : ((b : Int) == 0) = false := by rw [beq_eq_false_iff_ne]; omega
  have H_h := Lib.hid h; clear h
  have H_hn := Lib.hid hn; clear hn
  go_enter Tryz.func49, Tryz.ntmps49
  go_wp2_with (fail)
  go_loopw [7, 8] (fun rv i wr => ∃ (k r : Nat) (Q : List Nat), k ≤ n ∧ i = .int .i64 ((k : Int) - 1) ∧ rv = .int .u64 r ∧ r < b ∧ Hid (Q.length = n - k) ∧ Hid (Lim Q) ∧ Hid (sval (l.drop k) = b * sval Q + r) ∧ Hid (Blk .u32 wr w.heap.size (List.replicate k 0 ++ Q)) ∧ Hid (Fresh w wr)) (fun _ i _ => (intOf i + 1).toNat)
  case atStart =>
    refine ⟨n, 0, [], Nat.le_refl _, rfl, rfl, hb0, Lib.hid (by simp), Lim.nil, Lib.hid (by rw [List.drop_of_length_le (by have := H_hn.out; omega)]; simp [sval]), Lib.hid (by rw [List.append_nil]; exact ho.out), (Keep.refl _ _).alloc o⟩
  case round =>
    obtain ⟨k, r, Q, hk, rfl, rfl, hr, hQl, hQlim, hQv, hblk, hfr⟩ := hrel
    by_cases hk0 : k = 0
    · subst hk0
      have e0 : List.replicate 0 0 ++ Q = Q := by simp
      have hbk := hblk.out
      rw [e0] at hbk
      have hs := SNat.of_blk hbk hQlim.out (by have := hQl.out; omega)
      rw [show Q.length = n by have := hQl.out; omega] at hs
      have hcall := natTrim_any _ _ _ hs
      have hv : sval l = b * sval Q + r := by have := hQv.out; simpa using this
      have H_hcall := Lib.hid hcall; clear hcall
      have H_hv := Lib.hid hv; clear hv
      clear hbk hs e0
      go_wp2_with (fail)
      refine H_hcall.out.mono ?_
      rintro e w2 ⟨v, m, rfl, h1, h2, h3, h4⟩
      have H_h1 := Lib.hid h1; clear h1
      have H_h2 := Lib.hid h2; clear h2
      have H_h3 := Lib.hid h3; clear h3
      have H_h4 := Lib.hid h4; clear h4
      go_wp2_with (fail)
      go_ret2
      have h5 := H_hv.out
      have h6 : sval l / b = sval Q ∧ sval l % b = r := by
        rw [h5]
        exact ⟨by rw [Nat.mul_add_div hb0, Nat.div_eq_of_lt hr, Nat.add_zero], by rw [Nat.mul_add_mod, Nat.mod_eq_of_lt hr]⟩
      exact ⟨v, m, by rw [h6.2]; rfl, H_h1.out, H_h2.out, by rw [H_h3.out, h6.1], hfr.out.trans H_h4.out (fun _ _ h => h) (fun _ _ h => h)⟩
    · obtain ⟨j, rfl⟩ : ∃ j, k = j + 1 := ⟨k - 1, by omega⟩
      obtain ⟨gx, rfl, hcx, hgx, hcells⟩ := (H_h.out.fresh hfr.out).cells H_hn.out (by omega)
      have hxj := hcells j (by omega)
      have hxlim := H_h.out.lim.getD j
      obtain ⟨x, hxx⟩ : ∃ x, x = l.getD j 0 := ⟨_, rfl⟩
      rw [← hxx] at hxj hxlim
      have b1 := short_lim hb0 hr hxlim
      have b2 := short_room hb hr hxlim
      have hL : (List.replicate (j + 1) 0 ++ Q).length = n := by have := hQl.out; simp; omega
      have hcell := hblk.out.cell (o := j) (by rw [hL]; omega)
      have hfroz := hblk.out.frozen j
      generalize (List.replicate (j + 1) 0 ++ Q).getD j 0 = z9 at hcell
      have hset := hblk.out.set j ((r * 1000000000 + x) / b)
      rw [rep_set_cons] at hset
      have hstep := short_step (b := b) (x := x) hQv.out
      have hv' : sval (l.drop j) = x + 1000000000 * sval (l.drop (j + 1)) := by rw [drop_cons_getD (by have := H_hn.out; omega), ← hxx]; rfl
      rw [← hv'] at hstep
      have hm : (r * 1000000000 + x) % b < b := Nat.mod_lt _ hb0
      have hcast : (r : Int) * 1000000000 + (x : Int) = ((r * 1000000000 + x : Nat) : Int) := by omega
      have hq2 : Int.tdiv ((r : Int) * 1000000000 + (x : Int)) (b : Int) = (((r * 1000000000 + x) / b : Nat) : Int) := by rw [hcast, Int.tdiv_eq_ediv_of_nonneg (by omega)]; rfl
      have hr2 : Int.tmod ((r : Int) * 1000000000 + (x : Int)) (b : Int) = (((r * 1000000000 + x) % b : Nat) : Int) := by rw [hcast, Int.tmod_eq_emod_of_nonneg (by omega)]; rfl
      generalize (r * 1000000000 + x) / b = q1 at *
      generalize (r * 1000000000 + x) % b = r1 at *
      have H_hcells := Lib.hid hcells; clear hcells
      have H_hxx := Lib.hid hxx; clear hxx
      have H_hL := Lib.hid hL; clear hL
      have H_hv' := Lib.hid hv'; clear hv'
      have H_hset := Lib.hid hset; clear hset
      have H_hstep := Lib.hid hstep; clear hstep
      clear hcast
      go_wp2_with (fail)
      go_roundw
      case rel =>
        refine ⟨j, r1, q1 :: Q, by omega, rfl, rfl, hm, Lib.hid (by have := hQl.out; simp; omega), ?_, H_hstep, H_hset, Lib.hid (hfr.out.setCell (fun h => absurd h (Nat.lt_irrefl _)) _)⟩
        intro z hz
        rcases List.mem_cons.1 hz with h1 | h1
        · omega
        · exact hQlim.out z h1
      case measure => simp [intOf]

end Go.Proofs.YtecadiflbfpofaaGreatDoor

/- The plain laws of sums, differences and quotients of numbers of limbs. -/
namespace Go.Proofs.YtecadiflbfpofaaGreatDoor
open Go.RowKit

/-- a number without limbs of 0 at its end is one by its value -/
theorem norm_of_ge {l : List Nat} (hl : Lim l) (h : ∀ k, l.length = k + 1 → spow k ≤ sval l) : Norm l := by
  intro k hk h0
  have h1 := sval_take_succ (l := l) (k := k) (by omega)
  rw [← hk, List.take_length, h0] at h1
  have h2 := sval_lt (hl.take k)
  rw [List.length_take, Nat.min_eq_left (by omega)] at h2
  have := h k hk
  omega

theorem sval_take_succ' (l : List Nat) (k : Nat) : sval (l.take (k + 1)) = sval (l.take k) + spow k * l.getD k 0 := by
  by_cases h : k < l.length
  · exact sval_take_succ h
  · rw [List.take_of_length_le (by omega), List.take_of_length_le (by omega)]
    simp [List.getD, List.getElem?_eq_none (Nat.le_of_not_lt h)]

/-- one step of a sum -/
theorem add_step {O S c X Y x y t : Nat} (h : O + S * c = X + Y) (ht : t = c + x + y) :
    (O + S * (t % 1000000000)) + 1000000000 * S * (t / 1000000000) = (X + S * x) + (Y + S * y) := by
  have h1 := Nat.div_add_mod t 1000000000
  generalize t / 1000000000 = d at *
  generalize t % 1000000000 = m at *
  have : S * (1000000000 * d + m) = S * (c + x + y) := by rw [h1, ht]
  grind

/-- one step of a difference: nothing is borrowed -/
theorem sub_step0 {O S b X Y x y : Nat} (h : X + S * b = O + Y) (hy : b + y ≤ x) : (X + S * x) + 1000000000 * S * 0 = (O + S * (x - (b + y))) + (Y + S * y) := by
  have : S * x = S * (x - (b + y)) + S * (b + y) := by rw [← Nat.mul_add]; congr 1; omega
  rw [this, Nat.mul_add]
  omega

/-- one step of a difference: one is borrowed -/
theorem sub_step1 {O S b X Y x y : Nat} (h : X + S * b = O + Y) (hy : b + y ≤ x + 1000000000) : (X + S * x) + 1000000000 * S * 1 = (O + S * (x + 1000000000 - (b + y))) + (Y + S * y) := by
  have h1 : S * (x + 1000000000) = S * (x + 1000000000 - (b + y)) + S * (b + y) := by rw [← Nat.mul_add]; congr 1; omega
  have h2 : 1000000000 * S * 1 = S * 1000000000 := by rw [Nat.mul_one, Nat.mul_comm]
  rw [h2]
  rw [Nat.mul_add, Nat.mul_add] at h1
  omega

/-- a guess by the highest limbs is not less than the digit -/
theorem guess_ge {r y k top yt : Nat} (hr : r < (top + 1) * spow k) (hy : yt * spow k ≤ y) (ht : 0 < yt) (hlim : r < 1000000000 * y) :
    r / y ≤ min (top / yt) 999999999 := by
  have hy0 : 0 < y := Nat.lt_of_lt_of_le (Nat.mul_pos ht (spow_pos k)) hy
  have h1 : r / y < 1000000000 := by rw [Nat.div_lt_iff_lt_mul hy0]; exact hlim
  have h2 : r / y ≤ top / yt := by
    rw [Nat.le_div_iff_mul_le ht]
    have h3 : r / y * y ≤ r := Nat.div_mul_le_self r y
    have h4 : r / y * (yt * spow k) ≤ r / y * y := Nat.mul_le_mul_left _ hy
    have h5 : r / y * yt * spow k < (top + 1) * spow k := by rw [Nat.mul_assoc]; omega
    have h6 := Nat.lt_of_mul_lt_mul_right h5
    omega
  omega

/-- one digit of a long division -/
theorem long_step {S y Q r x d r' : Nat} (h : S = y * Q + r) (hd : d = (x + 1000000000 * r) / y) (hr' : r' = (x + 1000000000 * r) - y * d) (hy : 0 < y) :
    x + 1000000000 * S = y * (d + 1000000000 * Q) + r' ∧ r' < y := by
  have h1 := Nat.div_add_mod (x + 1000000000 * r) y
  have h2 := Nat.mod_lt (x + 1000000000 * r) hy
  rw [← hd] at h1
  generalize hR : x + 1000000000 * r = R at *
  have e : r' = R % y := by omega
  constructor
  · subst h
    have : y * (d + 1000000000 * Q) = y * d + 1000000000 * (y * Q) := by rw [Nat.mul_add, Nat.mul_left_comm]
    omega
  · omega

/-- what the scaling leaves -/
theorem scaled_div {a b t q r : Nat} (h : a * t = b * t * q + r) (hr : r < b * t) (ht : 0 < t) : a = b * q + r / t ∧ r / t < b := by
  have hd : t ∣ r := by
    have h1 : t ∣ a * t := ⟨a, Nat.mul_comm _ _⟩
    have h2 : t ∣ b * t * q := ⟨b * q, by rw [Nat.mul_comm b t, Nat.mul_assoc]⟩
    rw [h] at h1
    exact (Nat.dvd_add_right h2).1 h1
  obtain ⟨c, rfl⟩ := hd
  have hc : t * c / t = c := Nat.mul_div_cancel_left c ht
  rw [hc]
  constructor
  · have : t * a = t * (b * q + c) := by rw [Nat.mul_comm t a, h, Nat.mul_add]; congr 1; rw [Nat.mul_comm b t, Nat.mul_assoc]
    exact Nat.eq_of_mul_eq_mul_left ht this
  · rw [Nat.mul_comm b t] at hr
    exact Nat.lt_of_mul_lt_mul_left hr

end Go.Proofs.YtecadiflbfpofaaGreatDoor

/- The contracts of the reference's natural numbers: NatSub. -/
namespace Go.Proofs.YtecadiflbfpofaaGreatDoor
open Go.RowKit

set_option maxRecDepth 20000 in
set_option maxHeartbeats 2000000 in
theorem NatSub_any (xv yv : Value) (xs ys : List Nat) (w : World) (hx : SNat w xv xs) (hy : SNat w yv ys) (hm : ys.length ≤ xs.length) (hle : sval ys ≤ sval xs) (hlen : xs.length ≤ 100000) :
    Calls Tryz.prog 53 #[xv, yv] w (SRet w (sval xs - sval ys)) := by
  obtain ⟨i0, hi, hz0, hz1, hz2⟩ := info_parts info_u32
  obtain ⟨ax, cx, rfl⟩ := hx.form
  obtain ⟨ay, cy, rfl⟩ := hy.form
  obtain ⟨n, hn⟩ : ∃ n, n = xs.length := ⟨_, rfl⟩
  obtain ⟨m, hmm⟩ : ∃ m, m = ys.length := ⟨_, rfl⟩
  rw [← hn] at hlen hm hx ⊢
  rw [← hmm] at hm hy ⊢
  have H_hx := Lib.hid hx; clear hx
  have H_hy := Lib.hid hy; clear hy
  have H_hn := Lib.hid hn; clear hn
  have H_hmm := Lib.hid hmm; clear hmm
  have H_hle := Lib.hid hle; clear hle
  go_enter Tryz.func53, Tryz.ntmps53
  go_wp2_with (fail)
  go_loopw [5, 6, 12] (fun o b i wr => ∃ (k br : Nat) (L : List Nat), k ≤ n ∧ i = .int .i64 k ∧ b = .int .u32 br ∧ br ≤ 1 ∧ wr.ownsRow w.heap.size 74 1 o L.length (L.map (wd .u32)) ∧ Hid (Lim L) ∧ Hid (L.length = k) ∧ Hid (sval (xs.take k) + spow k * br = sval L + sval (ys.take k)) ∧ Hid (Fresh w wr)) (fun _ _ i _ => n - (intOf i).toNat)
  case atStart => exact ⟨0, 0, [], by omega, rfl, rfl, by omega, World.ownsRow_nil _ _ _ _, Lim.nil, Lib.hid rfl, Lib.hid (by simp [sval]), Keep.refl _ _⟩
  case round =>
    obtain ⟨k, br, L, hk, rfl, rfl, hbr, hown, hlim, hLl, hval, hfr⟩ := hrel
    have H_hown := Lib.hid hown
    clear hown
    by_cases hlt : k < n
    · obtain ⟨gx, rfl, hcx, hgx, hcells⟩ := (H_hx.out.fresh hfr.out).cells H_hn.out (by omega)
      have hxk := hcells k hlt
      have hxlim := H_hx.out.lim.getD k
      have hylim := H_hy.out.lim.getD k
      have hstep0 := fun (q : Nat) (hb : br + ys.getD k 0 ≤ xs.getD k 0) (e : q = xs.getD k 0 - (br + ys.getD k 0)) => sub_step0 (y := ys.getD k 0) (x := xs.getD k 0) hval.out hb
      have hstep1 := fun (q : Nat) (hb : br + ys.getD k 0 ≤ xs.getD k 0 + 1000000000) (e : q = xs.getD k 0 + 1000000000 - (br + ys.getD k 0)) => sub_step1 (y := ys.getD k 0) (x := xs.getD k 0) hval.out hb
      rw [← sval_take_succ' xs k, ← sval_take_succ' ys k, ← spow_succ] at hstep0 hstep1
      have hLk := hLl.out
      obtain ⟨x, hxx⟩ : ∃ x, x = xs.getD k 0 := ⟨_, rfl⟩
      obtain ⟨y, hyy⟩ : ∃ y, y = ys.getD k 0 := ⟨_, rfl⟩
      rw [← hxx] at hxk hxlim hstep0 hstep1
      rw [← hyy] at hylim hstep0 hstep1
      have hlt' : (k : Int) < (n : Int) := by omega
      have t1 : decide ((k : Int) < (n : Int)) = true := by simp; omega
      have hsz := hfr.out.size
      obtain ⟨d, hd⟩ : ∃ d, d = br + y := ⟨_, rfl⟩
      rw [← hd] at hstep0 hstep1
      have H_hcells := Lib.hid hcells; clear hcells
      have H_hxx := Lib.hid hxx; clear hxx
      by_cases hkm : k < m
      · obtain ⟨gy, rfl, hcy, hgy, hcells⟩ := (H_hy.out.fresh hfr.out).cells H_hmm.out (by omega)
        have hyk := hcells k hkm
        rw [← hyy] at hyk
        have hkm' : (k : Int) < (m : Int) := by omega
        have t2 : decide ((k : Int) < (m : Int)) = true := by simp; omega
        have hdI : (br : Int) + (y : Int) = (d : Int) := by omega
        have hd9 : d ≤ 1000000000 := by omega
        clear hd
        have H_hcells := Lib.hid hcells; clear hcells
        have H_hyy := Lib.hid hyy; clear hyy
        by_cases hxd : x < d
        · obtain ⟨q, hq⟩ : ∃ q, q = x + 1000000000 - d := ⟨_, rfl⟩
          have hstep := hstep1 q (by omega) hq
          rw [← hq] at hstep
          clear hstep0 hstep1
          have t3 : decide ((x : Int) < (d : Int)) = true := by simp; omega
          have hqI : (x : Int) + 1000000000 - (d : Int) = (q : Int) := by omega
          have hq9 : q < 1000000000 := by omega
          have hown2 := H_hown.out
          rw [hLk] at hown2
          have H_hstep := Lib.hid hstep; clear hstep
          clear hq
          go_wp2_with (at_builtin; refine wpList_append_own _ rfl _ _ 27 rfl w.heap.size 74 i0 (.int .u32 0) 1 4 Tryz.underlying27 hi hz0 hz1 hz2 rfl (by decide) _ _ _ rfl (hown2.alloc _) ⟨wr.heap.size, 0, none⟩ 1 1 [Value.int .u32 (q : Int)] rfl rfl ?c1 ?c2 ?c3 ?c4 ?c5 ?_)
          case c1 =>
            intro j u hj
            match j, hj with
            | 0, hj => simp at hj; subst hj; simp [Addr.add]
          case c2 => intro u hu; simp at hu; subst hu; rfl
          case c3 => unfold maxLen; omega
          case c4 => omega
          case c5 => simp; omega
          · intro v' w1 hown' hgrow _
            have hf1 : Fresh w w1 := Fresh.owns (hfr.out.alloc _) (H_hown.out.alloc _) (Nat.le_refl _) hgrow
            have hL : (L ++ [q]).length = L.length + 1 := by simp
            have hown1 : w1.ownsRow w.heap.size 74 1 v' (L ++ [q]).length ((L ++ [q]).map (wd .u32)) := by
              rw [hL, hLk, List.map_append]; exact hown'
            have H_hown1 := Lib.hid hown1; clear hown1
            have H_hf1 := Lib.hid hf1; clear hf1
            clear hown' hgrow hown2
            go_wp2_with (fail)
            go_roundw
            case rel => exact ⟨k + 1, 1, L ++ [q], by omega, by simp, rfl, by omega, H_hown1.out, Lib.hid (hlim.out.append (Lim.one hq9)), Lib.hid (by rw [hL, hLk]), Lib.hid (by have h9 := H_hstep.out; rw [sval_append, hLk]; simpa [sval] using h9), H_hf1⟩
            case measure => simp [intOf]; omega
        · obtain ⟨q, hq⟩ : ∃ q, q = x - d := ⟨_, rfl⟩
          have hstep := hstep0 q (by omega) hq
          rw [← hq] at hstep
          clear hstep0 hstep1
          have t3 : decide ((x : Int) < (d : Int)) = false := by simp; omega
          have hqI : (x : Int) - (d : Int) = (q : Int) := by omega
          have hq9 : q < 1000000000 := by omega
          have hown2 := H_hown.out
          rw [hLk] at hown2
          have H_hstep := Lib.hid hstep; clear hstep
          clear hq
          go_wp2_with (at_builtin; refine wpList_append_own _ rfl _ _ 27 rfl w.heap.size 74 i0 (.int .u32 0) 1 4 Tryz.underlying27 hi hz0 hz1 hz2 rfl (by decide) _ _ _ rfl (hown2.alloc _) ⟨wr.heap.size, 0, none⟩ 1 1 [Value.int .u32 (q : Int)] rfl rfl ?c1 ?c2 ?c3 ?c4 ?c5 ?_)
          case c1 =>
            intro j u hj
            match j, hj with
            | 0, hj => simp at hj; subst hj; simp [Addr.add]
          case c2 => intro u hu; simp at hu; subst hu; rfl
          case c3 => unfold maxLen; omega
          case c4 => omega
          case c5 => simp; omega
          · intro v' w1 hown' hgrow _
            have hf1 : Fresh w w1 := Fresh.owns (hfr.out.alloc _) (H_hown.out.alloc _) (Nat.le_refl _) hgrow
            have hL : (L ++ [q]).length = L.length + 1 := by simp
            have hown1 : w1.ownsRow w.heap.size 74 1 v' (L ++ [q]).length ((L ++ [q]).map (wd .u32)) := by
              rw [hL, hLk, List.map_append]; exact hown'
            have H_hown1 := Lib.hid hown1; clear hown1
            have H_hf1 := Lib.hid hf1; clear hf1
            clear hown' hgrow hown2
            go_wp2_with (fail)
            go_roundw
            case rel => exact ⟨k + 1, 0, L ++ [q], by omega, by simp, rfl, by omega, H_hown1.out, Lib.hid (hlim.out.append (Lim.one hq9)), Lib.hid (by rw [hL, hLk]), Lib.hid (by have h9 := H_hstep.out; rw [sval_append, hLk]; simpa [sval] using h9), H_hf1⟩
            case measure => simp [intOf]; omega
      · have hy0 : y = 0 := by
          have hml := H_hmm.out
          rw [hyy]; simp [List.getD, List.getElem?_eq_none (show ys.length ≤ k by omega)]
        have t2 : decide ((k : Int) < (m : Int)) = false := by simp; omega
        have hdb : br = d := by omega
        subst hdb
        clear hd
        have hyy' := hyy
        clear hyy hy0 hylim
        have H_hyy := Lib.hid hyy'
        clear hyy'
        by_cases hxd : x < br
        · obtain ⟨q, hq⟩ : ∃ q, q = x + 1000000000 - br := ⟨_, rfl⟩
          have hstep := hstep1 q (by omega) hq
          rw [← hq] at hstep
          clear hstep0 hstep1
          have t3 : decide ((x : Int) < (br : Int)) = true := by simp; omega
          have hqI : (x : Int) + 1000000000 - (br : Int) = (q : Int) := by omega
          have hq9 : q < 1000000000 := by omega
          have hown2 := H_hown.out
          rw [hLk] at hown2
          have H_hstep := Lib.hid hstep; clear hstep
          clear hq
          go_wp2_with (at_builtin; refine wpList_append_own _ rfl _ _ 27 rfl w.heap.size 74 i0 (.int .u32 0) 1 4 Tryz.underlying27 hi hz0 hz1 hz2 rfl (by decide) _ _ _ rfl (hown2.alloc _) ⟨wr.heap.size, 0, none⟩ 1 1 [Value.int .u32 (q : Int)] rfl rfl ?c1 ?c2 ?c3 ?c4 ?c5 ?_)
          case c1 =>
            intro j u hj
            match j, hj with
            | 0, hj => simp at hj; subst hj; simp [Addr.add]
          case c2 => intro u hu; simp at hu; subst hu; rfl
          case c3 => unfold maxLen; omega
          case c4 => omega
          case c5 => simp; omega
          · intro v' w1 hown' hgrow _
            have hf1 : Fresh w w1 := Fresh.owns (hfr.out.alloc _) (H_hown.out.alloc _) (Nat.le_refl _) hgrow
            have hL : (L ++ [q]).length = L.length + 1 := by simp
            have hown1 : w1.ownsRow w.heap.size 74 1 v' (L ++ [q]).length ((L ++ [q]).map (wd .u32)) := by
              rw [hL, hLk, List.map_append]; exact hown'
            have H_hown1 := Lib.hid hown1; clear hown1
            have H_hf1 := Lib.hid hf1; clear hf1
            clear hown' hgrow hown2
            go_wp2_with (fail)
            go_roundw
            case rel => exact ⟨k + 1, 1, L ++ [q], by omega, by simp, rfl, by omega, H_hown1.out, Lib.hid (hlim.out.append (Lim.one hq9)), Lib.hid (by rw [hL, hLk]), Lib.hid (by have h9 := H_hstep.out; rw [sval_append, hLk]; simpa [sval] using h9), H_hf1⟩
            case measure => simp [intOf]; omega
        · obtain ⟨q, hq⟩ : ∃ q, q = x - br := ⟨_, rfl⟩
          have hstep := hstep0 q (by omega) hq
          rw [← hq] at hstep
          clear hstep0 hstep1
          have t3 : decide ((x : Int) < (br : Int)) = false := by simp; omega
          have hqI : (x : Int) - (br : Int) = (q : Int) := by omega
          have hq9 : q < 1000000000 := by omega
          have hown2 := H_hown.out
          rw [hLk] at hown2
          have H_hstep := Lib.hid hstep; clear hstep
          clear hq
          go_wp2_with (at_builtin; refine wpList_append_own _ rfl _ _ 27 rfl w.heap.size 74 i0 (.int .u32 0) 1 4 Tryz.underlying27 hi hz0 hz1 hz2 rfl (by decide) _ _ _ rfl (hown2.alloc _) ⟨wr.heap.size, 0, none⟩ 1 1 [Value.int .u32 (q : Int)] rfl rfl ?c1 ?c2 ?c3 ?c4 ?c5 ?_)
          case c1 =>
            intro j u hj
            match j, hj with
            | 0, hj => simp at hj; subst hj; simp [Addr.add]
          case c2 => intro u hu; simp at hu; subst hu; rfl
          case c3 => unfold maxLen; omega
          case c4 => omega
          case c5 => simp; omega
          · intro v' w1 hown' hgrow _
            have hf1 : Fresh w w1 := Fresh.owns (hfr.out.alloc _) (H_hown.out.alloc _) (Nat.le_refl _) hgrow
            have hL : (L ++ [q]).length = L.length + 1 := by simp
            have hown1 : w1.ownsRow w.heap.size 74 1 v' (L ++ [q]).length ((L ++ [q]).map (wd .u32)) := by
              rw [hL, hLk, List.map_append]; exact hown'
            have H_hown1 := Lib.hid hown1; clear hown1
            have H_hf1 := Lib.hid hf1; clear hf1
            clear hown' hgrow hown2
            go_wp2_with (fail)
            go_roundw
            case rel => exact ⟨k + 1, 0, L ++ [q], by omega, by simp, rfl, by omega, H_hown1.out, Lib.hid (hlim.out.append (Lim.one hq9)), Lib.hid (by rw [hL, hLk]), Lib.hid (by have h9 := H_hstep.out; rw [sval_append, hLk]; simpa [sval] using h9), H_hf1⟩
            case measure => simp [intOf]; omega
    · obtain rfl : k = n := by omega
      have t1 : decide ((k : Int) < (k : Int)) = false := by simp
      have hs := SNat.of_owns H_hown.out hlim.out (by have := hLl.out; omega)
      obtain ⟨ao, co, rfl⟩ := hs.form
      have hcall := natTrim_any _ _ _ hs
      have H_hcall := Lib.hid hcall; clear hcall
      clear hs
      go_wp2_with (fail)
      refine H_hcall.out.mono ?_
      rintro e w2 ⟨v, l, rfl, h1, h2, h3, h4⟩
      have H_h1 := Lib.hid h1; clear h1
      have H_h2 := Lib.hid h2; clear h2
      have H_h3 := Lib.hid h3; clear h3
      have H_h4 := Lib.hid h4; clear h4
      go_wp2_with (fail)
      go_ret
      refine ⟨_, l, rfl, H_h1.out, H_h2.out, ?_, fresh_trans hfr.out H_h4.out⟩
      have hv := hval.out
      have hlt2 := sval_lt hlim.out
      rw [hLl.out] at hlt2
      rw [List.take_of_length_le (by have := H_hn.out; omega), List.take_of_length_le (by have := H_hmm.out; omega)] at hv
      have hl := H_hle.out
      have hb0 : br = 0 := by
        rcases Nat.eq_zero_or_pos br with h | h
        · exact h
        · obtain rfl : br = 1 := by omega
          omega
      subst hb0
      rw [H_h3.out]
      omega

end Go.Proofs.YtecadiflbfpofaaGreatDoor

/- The contracts of the reference's natural numbers: natGuess. -/
namespace Go.Proofs.YtecadiflbfpofaaGreatDoor
open Go.RowKit

theorem sval_top {l : List Nat} {k : Nat} (hl : Lim l) (h : l.length = k + 1) : l.getD k 0 * spow k ≤ sval l ∧ sval l < (l.getD k 0 + 1) * spow k := by
  have e := sval_take_succ (l := l) (k := k) (by omega)
  rw [← h, List.take_length] at e
  have h2 := sval_lt (hl.take k)
  rw [List.length_take, Nat.min_eq_left (by omega)] at h2
  rw [Nat.mul_comm (spow k)] at e
  rw [Nat.add_mul]
  omega

theorem sval_top2 {l : List Nat} {k : Nat} (hl : Lim l) (h : l.length = k + 1 + 1) : sval l < (l.getD k 0 + l.getD (k + 1) 0 * 1000000000 + 1) * spow k := by
  have e := sval_take_succ (l := l) (k := k + 1) (by omega)
  rw [← h, List.take_length] at e
  have e2 := sval_take_succ (l := l) (k := k) (by omega)
  have h2 := sval_lt (hl.take k)
  rw [List.length_take, Nat.min_eq_left (by omega)] at h2
  rw [e2, spow_succ] at e
  rw [e]
  generalize sval (l.take k) = a at *
  generalize l.getD k 0 = b at *
  generalize l.getD (k + 1) 0 = c at *
  have : (b + c * 1000000000 + 1) * spow k = spow k * b + 1000000000 * spow k * c + spow k := by
    rw [Nat.add_mul, Nat.add_mul, Nat.one_mul, Nat.mul_comm b, Nat.mul_comm c, Nat.mul_assoc, Nat.mul_assoc, Nat.mul_comm c]
  omega

set_option maxRecDepth 20000 in
set_option maxHeartbeats 2000000 in
theorem natGuess_any (rv yv : Value) (rs ys : List Nat) (w : World) (hr : SNat w rv rs) (hy : SNat w yv ys) (hny : Norm ys) (hnr : Norm rs) (hy0 : 0 < ys.length) (hlen : ys.length ≤ 100000) (hlt : sval rs < 1000000000 * sval ys) :
    Calls Tryz.prog 52 #[rv, yv] w (fun e w' => ∃ d : Nat, e = .returned (.int .u64 d) ∧ sval rs / sval ys ≤ d ∧ d ≤ 999999999 ∧ Fresh w w') := by
  obtain ⟨ar, cr, rfl⟩ := hr.form
  obtain ⟨ay, cy, rfl⟩ := hy.form
  obtain ⟨k, hk⟩ : ∃ k, ys.length = k + 1 := ⟨ys.length - 1, by omega⟩
  have hrl : rs.length ≤ k + 2 := hnr.s_len_le (by
    have h1 := sval_lt hy.lim
    rw [hk] at h1
    rw [spow_succ]; omega)
  have hyt := sval_top hy.lim hk
  have hyt0 : 0 < ys.getD k 0 := by have := hny k hk; omega
  have hytl := hy.lim.getD k
  obtain ⟨yt, hyte⟩ : ∃ yt, yt = ys.getD k 0 := ⟨_, rfl⟩
  rw [← hyte] at hyt hyt0 hytl
  obtain ⟨n, hn⟩ : ∃ n, n = ys.length := ⟨_, rfl⟩
  obtain ⟨m, hm⟩ : ∃ m, m = rs.length := ⟨_, rfl⟩
  rw [← hn] at hk hlen hy0 hy ⊢
  rw [← hm] at hrl hr ⊢
  subst hk
  obtain ⟨gy, rfl, hcy, hgy, hcells⟩ := hy.cells hn (by omega)
  have hyk := hcells k (by omega)
  rw [← hyte] at hyk
  clear hcells
  have hk1 : (((k + 1 : Nat) : Int)) - 1 = (k : Int) := by omega
  have hk2 : ((k : Int) + 1) - 1 = (k : Int) := by omega
  have t0 : ((yt : Int) == 0) = false := by rw [beq_eq_false_iff_ne]; omega
  have hytN : ¬ yt = 0 := by omega
  rcases Nat.lt_or_ge m (k + 1) with hmk | hmk
  · have t1 : decide ((m : Int) < (k : Int) + 1) = true := by simp; omega
    have hz : sval rs / sval ys ≤ 0 := by
      have h1 := sval_lt hr.lim
      rw [← hm] at h1
      have h2 := spow_mono (m := m) (n := k) (by omega)
      have h3 : 1 * spow k ≤ yt * spow k := Nat.mul_le_mul_right _ hyt0
      rw [Nat.div_eq_of_lt (by omega)]; omega
    clear hyt hyte hlt
    have H_hr := Lib.hid hr; clear hr
    have H_hy := Lib.hid hy; clear hy
    have H_hny := Lib.hid hny; clear hny
    have H_hnr := Lib.hid hnr; clear hnr
    have H_hz := Lib.hid hz; clear hz
    have H_hn := Lib.hid hn; clear hn
    have H_hm := Lib.hid hm; clear hm
    go_enter Tryz.func52, Tryz.ntmps52
    go_wp2
    go_ret
    exact ⟨0, rfl, H_hz.out, by omega, Keep.refl _ _⟩
  · have t1 : decide ((m : Int) < (k : Int) + 1) = false := by simp; omega
    obtain ⟨gr, rfl, hcr, hgr, hrc⟩ := hr.cells hm (by omega)
    have hrk := hrc k (by omega)
    have hrlim := hr.lim.getD k
    rcases Nat.eq_or_lt_of_le hmk with hmk2 | hmk2
    · have t2 : decide ((k : Int) + 1 < (m : Int)) = false := by simp; omega
      obtain ⟨top, htop⟩ : ∃ top, top = rs.getD k 0 := ⟨_, rfl⟩
      have hrt := (sval_top hr.lim (show rs.length = k + 1 by omega)).2
      rw [← htop] at hrk hrlim hrt
      have hg := guess_ge hrt hyt.1 hyt0 hlt
      have hdiv : Int.tdiv (top : Int) (yt : Int) = ((top / yt : Nat) : Int) := by rw [Int.tdiv_eq_ediv_of_nonneg (by omega)]; rfl
      have hqle : top / yt ≤ top := Nat.div_le_self _ _
      generalize top / yt = q at *
      clear hyt hyte hlt hrt htop hrc
      subst hmk2
      have H_hr := Lib.hid hr; clear hr
      have H_hy := Lib.hid hy; clear hy
      have H_hny := Lib.hid hny; clear hny
      have H_hnr := Lib.hid hnr; clear hnr
      have H_hg := Lib.hid hg; clear hg
      have H_hn := Lib.hid hn; clear hn
      have H_hm := Lib.hid hm; clear hm
      go_enter Tryz.func52, Tryz.ntmps52
      go_wp2
      all_goals go_ret
      all_goals first
        | exact ⟨q, rfl, Nat.le_trans H_hg.out (Nat.min_le_left _ _), by omega, Keep.refl _ _⟩
        | exact ⟨999999999, rfl, Nat.le_trans H_hg.out (Nat.min_le_right _ _), by omega, Keep.refl _ _⟩
    · obtain rfl : m = k + 1 + 1 := by omega
      have t2 : decide ((k : Int) + 1 < (k : Int) + 1 + 1) = true := by simp; omega
      have hrk1 := hrc (k + 1) (by omega)
      have hrlim1 := hr.lim.getD (k + 1)
      have hrt := sval_top2 hr.lim hm.symm
      obtain ⟨a, ha⟩ : ∃ a, a = rs.getD k 0 := ⟨_, rfl⟩
      obtain ⟨b, hb⟩ : ∃ b, b = rs.getD (k + 1) 0 := ⟨_, rfl⟩
      rw [← ha] at hrk hrlim hrt
      rw [← hb] at hrk1 hrlim1 hrt
      obtain ⟨top, htop⟩ : ∃ top, top = a + b * 1000000000 := ⟨_, rfl⟩
      rw [← htop] at hrt
      have htI : (a : Int) + (b : Int) * 1000000000 = (top : Int) := by omega
      have htl : top < 1000000000000000000 := by omega
      have hg := guess_ge hrt hyt.1 hyt0 hlt
      have hdiv : Int.tdiv (top : Int) (yt : Int) = ((top / yt : Nat) : Int) := by rw [Int.tdiv_eq_ediv_of_nonneg (by omega)]; rfl
      have hqle : top / yt ≤ top := Nat.div_le_self _ _
      generalize top / yt = q at *
      clear hyt hyte hlt hrt hrc ha hb htop
      have H_hr := Lib.hid hr; clear hr
      have H_hy := Lib.hid hy; clear hy
      have H_hny := Lib.hid hny; clear hny
      have H_hnr := Lib.hid hnr; clear hnr
      have H_hg := Lib.hid hg; clear hg
      have H_hn := Lib.hid hn; clear hn
      have H_hm := Lib.hid hm; clear hm
      go_enter Tryz.func52, Tryz.ntmps52
      go_wp2
      all_goals go_ret
      all_goals first
        | exact ⟨q, rfl, Nat.le_trans H_hg.out (Nat.min_le_left _ _), by omega, Keep.refl _ _⟩
        | exact ⟨999999999, rfl, Nat.le_trans H_hg.out (Nat.min_le_right _ _), by omega, Keep.refl _ _⟩

end Go.Proofs.YtecadiflbfpofaaGreatDoor
