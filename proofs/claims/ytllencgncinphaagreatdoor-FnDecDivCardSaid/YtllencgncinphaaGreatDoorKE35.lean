/- The contract of the thin package: whole: digits as an integer of math/big. -/
import Derived.Laws.DeepStrings4
import Derived.Deep.Cut
import Derived.Deep.CutRange
import Derived.Test.YtllencgncinphaaGreatDoorKE10
import Derived.Test.YtllencgncinphaaGreatDoorKE11
import Derived.Test.YtllencgncinphaaGreatDoorKE12
import Derived.Test.YtllencgncinphaaGreatDoorKE32
namespace Go.Proofs.YtllencgncinphaaGreatDoor
open Go.RowKit
open Go.Lib (hid)
set_option maxRecDepth 20000
set_option maxHeartbeats 4000000

theorem info_u64 : (Tryz.prog.info? 99).map (fun i => (i.zero, i.size, i.bytes)) = some (some (.int .u64 0), 1, 8) := by kernel_rfl
theorem info_word : (Tryz.prog.info? 123).map (fun i => (i.zero, i.size, i.bytes)) = some (some (.int .u64 0), 1, 8) := by kernel_rfl

theorem odd_no {r q q' : Nat} (h : r = 2 * q + 1) (h' : r + 1 = 2 * q' + 1) : False := by omega

theorem and_half {x : Nat} (h : x < 18446744073709551616) : bits BinOp.and IntKind.u64 (x : Int) 4294967295 = ((x % 4294967296 : Nat) : Int) := by
 have := bits_and_u64_nat x 4294967295 h (by omega)
 rw [show ((4294967295 : Nat) : Int) = 4294967295 from rfl] at this
 rw [this, show 4294967295 = 2 ^ 32 - 1 from rfl, Nat.and_two_pow_sub_one_eq_mod]

theorem whole_pos (z : Int) (w : World) (hz : (wdig z).length ≤ 300) (hNG : NG ≤ w.heap.size) (hz0 : z ≠ 0) :
 Calls Tryz.prog 91 #[.string (bstr (wdig z))] w (fun e w' => ∃ b v, e = .returned (.tuple #[.pointer (some ⟨b, 0, none⟩), .bool true]) ∧ ZI w' b v z ∧ w.heap.size ≤ b ∧ (∀ k, v.ownBlock = some k → w.heap.size ≤ k) ∧ Fresh w w') := by
 obtain ⟨i0, hi, hi0, hi1, hi2⟩ := info_parts info_u64
 obtain ⟨j0, hj, hj0, hj1, hj2⟩ := info_parts info_word
 obtain ⟨D, hDD⟩ : ∃ D, D = hdig z.natAbs := ⟨_, rfl⟩
 have hD : IsD D := by rw [hDD]; exact hdig_isD _
 obtain ⟨neg, hneg⟩ : ∃ b, b = decide (z < 0) := ⟨_, rfl⟩
 obtain ⟨t, ht⟩ : ∃ t, t = bstr D := ⟨_, rfl⟩
 obtain ⟨s, hs⟩ : ∃ s, s = bstr (wdig z) := ⟨_, rfl⟩
 obtain ⟨N, hN⟩ : ∃ N, N = D.length := ⟨_, rfl⟩
 obtain ⟨N0, hN0⟩ : ∃ N, N = (wdig z).length := ⟨_, rfl⟩
 obtain ⟨c0, hc0⟩ : ∃ c, c = (wdig z).getD 0 0 := ⟨_, rfl⟩
 obtain ⟨d0, hd0⟩ : ∃ c, c = D.getD 0 0 := ⟨_, rfl⟩
 have hNp : 0 < N := by rw [hN, hDD]; exact hdig_pos_len _
 have hN0p : 0 < N0 := by rw [hN0]; exact wdig_pos_len _
 have hN03 : N0 ≤ 300 := by omega
 have hszs : s.size = N0 := by rw [hs, bstr_size, hN0]
 have hszt : t.size = N := by rw [ht, bstr_size, hN]
 have hgs : ∀ h : 0 < s.size, (s[0]'h).toNat = c0 := by subst hs; rw [hc0]; exact fun h => bstr_at (wdig_byte z) 0 h
 have hgt : ∀ i, ∀ h : i < t.size, (t[i]'h).toNat = D.getD i 0 := by subst ht; exact fun i h => bstr_at hD.byte i h
 have hg0 : ∀ h : 0 < t.size, (t[0]'h).toNat = d0 := by rw [hd0]; exact hgt 0
 have hsign : ((c0 : Int) == 45) = neg := by
  rcases Int.lt_or_le z 0 with h | h
  · rw [hneg, decide_eq_true h, hc0, wdig_neg h]; rfl
  · have := hD.getD (k := 0) (by omega)
    rw [hneg, decide_eq_false (by omega), hc0, wdig_nonneg h, ← hDD, beq_eq_false_iff_ne]; omega
 have hex : neg = true → s.extract 1 N0 = t ∧ 1 ≤ N0 := fun h => by
  have hz0 : z < 0 := by rw [hneg] at h; simpa using h
  refine ⟨?_, hN0p⟩
  rw [hs, ht, bstr_extract, hN0, wdig_neg hz0, hDD]; congr 1; simp
 have hst : neg = false → s = t := fun h => by
  have hz0 : 0 ≤ z := by rw [hneg] at h; simpa using h
  rw [hs, ht, wdig_nonneg hz0, hDD]
 have hN4 : N ≤ 300 := by
  rw [hN, hDD]; unfold wdig at hz; rw [List.length_append] at hz; omega
 have hlead : ¬ d0 = 48 ∧ ((d0 : Int) == 48) = false := by
  have := hdig_head (show 0 < z.natAbs by omega)
  rw [← hDD, ← hd0] at this
  exact ⟨this, by rw [beq_eq_false_iff_ne]; omega⟩
 obtain ⟨y1, y2⟩ := hlead
 clear hz0
 have hval : dval D.reverse = z.natAbs := by rw [hDD, hdig_val]
 rw [← hs]
 have H_hs := hid hs; have H_ht := hid ht; have H_hN := hid hN; have H_hN0 := hid hN0; have H_hc0 := hid hc0; have H_hd0 := hid hd0; have H_hD := hid hD; have H_hDD := hid hDD; have H_hneg := hid hneg; have H_hgt := hid hgt; have H_hz := hid hz; have H_hex := hid hex; have H_hst := hid hst; have H_hval := hid hval; have H_hNG := hid hNG; have H_hg0 := hid hg0; clear hs ht hN hN0 hc0 hd0 hD hDD hneg hgt hz hex hst hval hNG hg0
 go_enter Tryz.func91, Tryz.ntmps91
 go_upto_if 21 with (fail)
 go_cut [0, 4] from 13 (fun s0 s4 wx => s0 = .string t ∧ s4 = .bool neg ∧ w = wx)
 case first =>
  cases neg
  · have hst' := H_hst.out rfl
    have H_hst' := hid hst'; clear hst'
    go_wp2_with (fail)
    go_meet
    case rel => exact ⟨by rw [H_hst'.out], rfl, rfl⟩
  · obtain ⟨hx, h1⟩ := H_hex.out rfl
    go_wp2_with (fail)
    go_meet
    case rel => exact ⟨rfl, rfl, rfl⟩
 case rest =>
  obtain ⟨rfl, rfl, rfl⟩ := hcut
  clear hsign hgs hszs hN0p hN03
  have x1 : ((N : Int) == 0) = false := by rw [beq_eq_false_iff_ne]; omega
  have x2 : decide ((400 : Int) < (N : Int)) = false := by simp; omega
  have x3 : ¬ N = 0 := by omega
  have x4 : ¬ 400 < N := by omega
  have hg0 := H_hg0.out
  clear H_hst H_hex H_hg0
  all_goals
   go_upto_if 44 with (fail)
   clear x1 x2 x3 x4 hg0 y1 y2
   go_wp2_with (fail)
   go_loopw [5, 6] (fun lv iv wr => ∃ (i : Nat) (L : List Nat), iv = .int .i64 i ∧ i ≤ N ∧ NumRow .u64 wr w.heap.size 99 lv L ∧ Hid (Half L) ∧ Hid (hv L = dval (D.take i).reverse) ∧ Hid (L.length ≤ i) ∧ Hid (Fresh w wr)) (fun _ iv _ => N - (intOf iv).toNat)
   case atStart => exact ⟨0, [], rfl, by omega, NumRow.nil _ _ _ _, hid Half.nil, hid (by simp [hv, dval]), hid (by simp), Keep.refl _ _⟩
   case round =>
    obtain ⟨i, L, rfl, hiN, hown, hhalf, hvL, hLi, hfr⟩ := hrel
    have H_hown := hid hown
    clear hown
    obtain ⟨ao, co, rfl⟩ := H_hown.out.form
    obtain ⟨nl, hnl⟩ : ∃ n, n = L.length := ⟨_, rfl⟩
    rw [← hnl] at H_hown ⊢
    have hnl3 : nl ≤ 300 := by have := hLi.out; omega
    have H_hnl := hid hnl; clear hnl
    by_cases hlt : i < N
    · have t1 : decide ((i : Int) < (N : Int)) = true := by simp; omega
      have hstep : ∀ k x d, k < N → i ≤ k → x = dval ((D.take k).drop i).reverse → 48 + d = D.getD k 0 → 10 * x + d = dval ((D.take (k + 1)).drop i).reverse := fun k x d h1 h2 h3 h4 => by
       rw [natof_in (by have := H_hN.out; omega) h2 (by omega), ← h3]; omega
      have hsm : ∀ k x, k ≤ i + 9 → x = dval ((D.take k).drop i).reverse → x < 10 ^ (k - i) ∧ x < 1000000000 := fun k x h1 h2 => by
       have h4 := dval_lt (((H_hD.out.take k).drop i).reverse)
       rw [← h2] at h4
       have h5 : ((D.take k).drop i).reverse.length ≤ k - i := by simp; omega
       have h6 : 10 ^ ((D.take k).drop i).reverse.length ≤ 10 ^ (k - i) := Nat.pow_le_pow_right (by omega) h5
       have h7 : 10 ^ (k - i) ≤ 10 ^ 9 := Nat.pow_le_pow_right (by omega) (by omega)
       omega
      have hdig : ∀ k, k < N → ∃ d, d ≤ 9 ∧ 48 + d = D.getD k 0 := fun k h => by
       have := H_hD.out.getD (k := k) (by have := H_hN.out; omega)
       exact ⟨D.getD k 0 - 48, by omega, by omega⟩
      have hnew : ∀ k x, i ≤ k → k ≤ N → x = dval ((D.take k).drop i).reverse → x + 10 ^ (k - i) * hv L = dval (D.take k).reverse := fun k x h1 h2 h3 => by
       have e1 : D.take k = D.take i ++ (D.take k).drop i := by
        conv => lhs; rw [← List.take_append_drop i (D.take k)]
        rw [List.take_take, Nat.min_eq_left h1]
       rw [e1, List.reverse_append, dval_append, List.length_reverse, List.length_drop, List.length_take, Nat.min_eq_left (by have := H_hN.out; omega), ← hvL.out, ← h3]
      have H_hstep := hid hstep; have H_hsm := hid hsm; have H_hdig := hid hdig; have H_hnew := hid hnew; clear hstep hsm hdig hnew
      go_wp2_with (fail)
      go_loopw [6, 7, 8] (fun iv nv sv w2 => ∃ k x sc : Nat, iv = .int .i64 k ∧ nv = .int .u64 x ∧ sv = .int .u64 sc ∧ i ≤ k ∧ k ≤ i + 9 ∧ k ≤ N ∧ Hid (sc = 10 ^ (k - i)) ∧ Hid (x = dval ((D.take k).drop i).reverse) ∧ wr = w2) (fun iv _ _ _ => N - (intOf iv).toNat)
      case atStart => exact ⟨i, 0, 1, rfl, rfl, rfl, by omega, by omega, by omega, hid (by rw [Nat.sub_self]), hid (by rw [List.drop_of_length_le (by rw [List.length_take]; omega)]; rfl), rfl⟩
      case round =>
       obtain ⟨k, x, sc, rfl, rfl, rfl, hik, hk9, hkN, hsc, hx, hw2⟩ := hrel
       subst hw2
       by_cases hgo : k < N ∧ k < i + 9
       · obtain ⟨hg1, hg2⟩ := hgo
         have hscb : sc ≤ 100000000 := by
          rw [hsc.out]
          exact Nat.le_trans (Nat.pow_le_pow_right (by omega) (show k - i ≤ 8 by omega)) (by omega)
         have hxb : x < 100000000 := by
          have h1 := (H_hsm.out k x hk9 hx.out).1
          rw [← hsc.out] at h1; omega
         obtain ⟨d, hd9, hd⟩ := H_hdig.out k (by omega)
         obtain ⟨c, hc⟩ : ∃ c, c = D.getD k 0 := ⟨_, rfl⟩
         have hgi : ∀ h : k < t.size, (t[k]'h).toNat = c := fun h => by rw [H_hgt.out k h, hc]
         have hcI : (c : Int) - 48 = (d : Int) := by omega
         have hc1 : (48 : Int) ≤ (c : Int) := by omega
         have hc2 : (c : Int) ≤ 57 := by omega
         have t3 : decide ((c : Int) < 48) = false := by simp; omega
         have t4 : decide ((57 : Int) < (c : Int)) = false := by simp; omega
         have t5 : decide ((k : Int) < (N : Int)) = true := by simp; omega
         have t6 : decide ((sc : Int) < 1000000000) = true := by simp; omega
         have hxb2 : (x : Int) ≤ 99999999 := by omega
         have hsb2 : (sc : Int) ≤ 100000000 := by omega
         have hxn := H_hstep.out k x d hg1 hik hx.out hd
         have hmeas : N - (intOf (.int .i64 ((k : Int) + 1))).toNat < N - (intOf (.int .i64 (k : Int))).toNat := by simp [intOf]; omega
         have hrel2 : ∃ k' x' sc' : Nat, Value.int .i64 ((k : Int) + 1) = .int .i64 k' ∧ Value.int .u64 ((x : Int) * 10 + ((c : Int) - 48)) = .int .u64 x' ∧ Value.int .u64 ((sc : Int) * 10) = .int .u64 sc' ∧ i ≤ k' ∧ k' ≤ i + 9 ∧ k' ≤ N ∧ Hid (sc' = 10 ^ (k' - i)) ∧ Hid (x' = dval ((D.take k').drop i).reverse) ∧ wr = wr :=
          ⟨k + 1, 10 * x + d, sc * 10, by simp, by rw [show (x : Int) * 10 + ((c : Int) - 48) = ((10 * x + d : Nat) : Int) by omega], by rw [show (sc : Int) * 10 = ((sc * 10 : Nat) : Int) by omega], by omega, by omega, by omega, hid (by rw [hsc.out, show k + 1 - i = (k - i) + 1 by omega, Nat.pow_succ]), hid hxn, rfl⟩
         have H_hmeas := hid hmeas; have H_hrel2 := hid hrel2; have H_hxn := hid hxn; have H_hcI := hid hcI; have H_hd := hid hd; have H_hc := hid hc; clear hmeas hrel2 hxn hcI hd hc
         go_wp2_with (fail)
         go_roundw
         case rel =>
          obtain ⟨k', x', sc', r1, r2, r3, r4, r5, r6, r7, r8, r9⟩ := H_hrel2.out
          exact ⟨k', x', sc', r1, r2, r3, r4, r5, r6, r7, r8, trivial⟩
         case measure => exact H_hmeas.out
       · have htst : (k = N ∧ decide ((k : Int) < (N : Int)) = false ∧ ¬ k < N) ∨ (k < N ∧ decide ((k : Int) < (N : Int)) = true ∧ decide ((sc : Int) < 1000000000) = false ∧ ¬ sc < 1000000000) := by
          by_cases h1 : k < N
          · have h2 : k - i = 9 := by omega
            have h3 := hsc.out
            rw [h2] at h3
            exact .inr ⟨h1, by simp; omega, by simp; omega, by omega⟩
          · exact .inl ⟨by omega, by simp; omega, h1⟩
         have hik2 : i < k := by omega
         have hscb : sc ≤ 1000000000 := by
          rw [hsc.out]
          exact Nat.le_trans (Nat.pow_le_pow_right (by omega) (show k - i ≤ 9 by omega)) (by omega)
         have hxb : x < 1000000000 := (H_hsm.out k x hk9 hx.out).2
         have hnw := H_hnew.out k x hik hkN hx.out
         rw [← hsc.out] at hnw
         have hmeas : N - (intOf (.int .i64 (k : Int))).toNat < N - (intOf (.int .i64 (i : Int))).toNat := by simp [intOf]; omega
         clear hgo
         have H_hnw := hid hnw; have H_hmeas := hid hmeas; clear hnw hmeas
         rcases htst with ⟨v1, v2, v3⟩ | ⟨v1, v2, v3, v4⟩
         all_goals
          go_wp2_with (fail)
          clear v1 v2 v3
          try clear v4
          go_loopw [7, 81] (fun nv kv w3 => ∃ (r nn : Nat) (M : List Nat), kv = .int .i64 r ∧ nv = .int .u64 nn ∧ r ≤ nl ∧ nn < 1000000000 ∧ Hid (NumRow .u64 w3 w.heap.size 99 (.slice ao nl co) M) ∧ Hid (Half M) ∧ Hid (M.length = nl) ∧ Hid (M.drop r = L.drop r) ∧ Hid (hv (M.take r) + hpw r * nn = x + sc * hv (L.take r)) ∧ Hid (Fresh w w3)) (fun _ kv _ => nl - (intOf kv).toNat)
          case atStart => exact ⟨0, x, L, rfl, rfl, by omega, hxb, H_hown, hhalf, hid H_hnl.out.symm, hid rfl, hid (by simp [hv, hpw_zero]), hfr⟩
          case round =>
           obtain ⟨r, nn, M, rfl, rfl, hrn, hnnb, hM, hMh, hMl, hMd, hMv, hfr3⟩ := hrel
           by_cases hrl : r < nl
           · obtain ⟨g, rfl, hgw, hglt⟩ := hM.out.someAt (by have := hMl.out; omega)
             obtain ⟨y, hy⟩ : ∃ y, y = L.getD r 0 := ⟨_, rfl⟩
             have hyb : y < 4294967296 := by rw [hy]; exact hhalf.out.getD r
             obtain ⟨p, hp⟩ : ∃ p, p = y * sc := ⟨_, rfl⟩
             obtain ⟨tt, htt⟩ : ∃ t, t = nn + p := ⟨_, rfl⟩
             obtain ⟨ws1, ws2, ws3⟩ := whole_step (t := tt) (by have := hMl.out; omega) (hMl.out.trans H_hnl.out) hMd.out hMv.out (by rw [htt, hp, hy])
             obtain ⟨wc1, wc2, wc3⟩ := whole_carry hnnb hyb hscb
             rw [← hp] at wc1 wc2 wc3
             rw [← htt] at wc1 wc2
             have hcell := hM.out.cell (j := r) (by have := hMl.out; omega)
             rw [ws3, ← hy] at hcell
             have hfz := hM.out.frz r
             have hset := hM.out.set (j := r) (by have := hMl.out; omega) (tt % 4294967296)
             have hpI : (y : Int) * (sc : Int) = (p : Int) := by rw [hp]; push_cast; rfl
             have htI : (nn : Int) + (p : Int) = (tt : Int) := by omega
             have hand := and_half wc1
             have b1 : (p : Int) < 18446744073709551616 := by omega
             have b2 : (tt : Int) < 18446744073709551616 := by omega
             have u1 : decide ((r : Int) < (nl : Int)) = true := by simp; omega
             have hmod : (tt : Int) % 4294967296 = ((tt % 4294967296 : Nat) : Int) := by omega
             have hshr : (tt : Int) / 4294967296 = ((tt / 4294967296 : Nat) : Int) := by omega
             have hfrs : Fresh w (wr.setCell ⟨g, r, none⟩ (wd .u64 (tt % 4294967296))) := hfr3.out.setCell (p := ⟨g, r, none⟩) (fun h => by change g < w.heap.size at h; omega) _
             have H_hset := hid hset; have H_ws1 := hid ws1; have H_ws2 := hid ws2; have H_hp := hid hp; have H_htt := hid htt; have H_hy := hid hy; have H_hfrs := hid hfrs; have H_hshr := hid hshr; have H_hmod := hid hmod; have H_wc2 := hid wc2; clear hset ws1 ws2 hp htt hy hfrs hshr hmod wc2
             clear ws3 hMd hMv wc3
             go_wp2_with (fail)
             go_roundw
             case rel => exact ⟨r + 1, tt / 4294967296, M.set r (tt % 4294967296), by simp, by rw [H_hshr.out], by omega, H_wc2.out, hid (by rw [H_hmod.out]; exact H_hset.out), hid (hMh.out.set r (by omega)), hid (by rw [List.length_set]; exact hMl.out), H_ws2, H_ws1, hid (by rw [H_hmod.out]; exact H_hfrs.out)⟩
             case measure => simp [intOf]; omega
           · obtain rfl : r = nl := by omega
             have u1 : decide ((r : Int) < (r : Int)) = false := by simp
             have hMv2 := hMv.out
             rw [List.take_of_length_le (by have := hMl.out; omega), List.take_of_length_le (by have := H_hnl.out; omega), H_hnw.out] at hMv2
             by_cases hnz : 0 < nn
             · have u2 : decide ((0 : Int) < (nn : Int)) = true := by simp; omega
               have u3 : decide (0 < nn) = true := by simp; omega
               have hownM := hM.out
               have hMlen := hMl.out
               have hsz3 := hfr3.out.size
               have H_hMv2 := hid hMv2; clear hMv2
               go_wp2_with (at_builtin; refine wpList_append_num _ rfl _ _ 122 rfl .u64 w.heap.size 99 i0 8 Tryz.underlying122 hi hi0 hi1 hi2 _ M rfl (hownM.alloc _) ⟨wr.heap.size, 0, none⟩ 1 1 [nn] rfl rfl (by omega) ?c1 ?c2 ?c3 ?c4 ?_)
               case c1 =>
                intro j u hj
                match j, hj with
                | 0, hj => simp at hj; subst hj; simp [Addr.add, wd]
               case c2 => unfold maxLen; omega
               case c3 => omega
               case c4 => simp; omega
               intro v' w4 hown' hgrow _
               have hf4 : Fresh w w4 := Fresh.num (hfr3.out.alloc _) (hownM.alloc _) (Nat.le_refl _) hgrow
               have H_hown' := hid hown'; have H_hf4 := hid hf4; clear hown' hf4
               clear hgrow hownM
               go_wp2_with (fail)
               go_roundw
               case rel => exact ⟨k, M ++ [nn], rfl, hkN, H_hown'.out, hid (hMh.out.append (Half.one (by omega))), hid (by rw [hv_append, hMlen, ← H_hMv2.out]; simp [hv]), hid (by simp; have := hLi.out; have := H_hnl.out; omega), H_hf4⟩
               case measure => exact H_hmeas.out
             · obtain rfl : nn = 0 := by omega
               have hMlen := hMl.out
               have H_hMv2 := hid hMv2; clear hMv2
               go_wp2_with (fail)
               go_roundw
               case rel => exact ⟨k, M, rfl, hkN, hM.out, hMh, hid (by have := H_hMv2.out; simpa using this), hid (by have := hLi.out; have := H_hnl.out; omega), hfr3⟩
               case measure => exact H_hmeas.out
    · obtain rfl : i = N := by omega
      have t1 : decide ((i : Int) < (i : Int)) = false := by simp
      have hLv : hv L = z.natAbs := by rw [hvL.out, List.take_of_length_le (by have := H_hN.out; omega), H_hval.out]
      go_wp2_with (fail)
      clear t1
      go_loopw [10, 108] (fun wv kv w3 => ∃ (r : Nat) (W : List Nat), kv = .int .i64 r ∧ r ≤ nl ∧ NumRow .u64 w3 w.heap.size 123 wv W ∧ Hid (NumRow .u64 w3 w.heap.size 99 (.slice ao nl co) L) ∧ Hid (W.length = (r + 1) / 2) ∧ Hid (val W = hv (L.take r)) ∧ Hid (∀ q, r = 2 * q + 1 → W.getD q 0 < 4294967296) ∧ Hid (∀ a ∈ W, a < 18446744073709551616) ∧ Hid (∀ g, wv.ownBlock = some g → (Value.slice ao nl co).ownBlock ≠ some g) ∧ Hid (Fresh w w3)) (fun _ kv _ => nl - (intOf kv).toNat)
      case atStart => exact ⟨0, [], rfl, by omega, NumRow.nil _ _ _ _, H_hown, hid (by simp), hid (by simp [hv, val]), hid (fun q h => by omega), hid (by simp), hid (fun g h => by simp [Value.ownBlock] at h), hfr⟩
      case round =>
       obtain ⟨r, W, rfl, hrn, hW, hL, hWl, hWv, hWh, hWb, hsep, hfr3⟩ := hrel
       have H_hW := hid hW
       clear hW
       obtain ⟨aw, cw, rfl⟩ := H_hW.out.form
       obtain ⟨nw, hnw⟩ : ∃ n, n = W.length := ⟨_, rfl⟩
       rw [← hnw] at H_hW hsep ⊢
       by_cases hrl : r < nl
       · obtain ⟨g, rfl, hgw, hglt⟩ := hL.out.someAt (by have := H_hnl.out; omega)
         obtain ⟨y, hy⟩ : ∃ y, y = L.getD r 0 := ⟨_, rfl⟩
         have hyb : y < 4294967296 := by rw [hy]; exact hhalf.out.getD r
         have hcell := hL.out.cell (j := r) (by have := H_hnl.out; omega)
         rw [← hy] at hcell
         have u1 : decide ((r : Int) < (nl : Int)) = true := by simp; omega
         by_cases hpar : r % 2 = 0
         · have u2 : (Int.tmod (r : Int) 2 == 0) = true := by rw [beq_iff_eq, Int.tmod_eq_emod_of_nonneg (by omega)]; omega
           obtain ⟨we1, we2, we3⟩ := words_even (W := W) (x := y) (by have := H_hnl.out; omega) hWl.out hpar hWv.out hy
           have hown := H_hW.out
           have hszr := hfr3.out.size
           have hnw3 : nw ≤ 300 := by have := hWl.out; omega
           have H_we1 := hid we1; have H_we2 := hid we2; have H_we3 := hid we3; have H_hnw := hid hnw; have H_hy := hid hy; clear we1 we2 we3 hnw hy
           go_wp2_with (at_builtin; refine wpList_append_num _ rfl _ _ 107 rfl .u64 w.heap.size 123 j0 8 Tryz.underlying107 hj hj0 hj1 hj2 _ W rfl (hown.alloc _) ⟨wr.heap.size, 0, none⟩ 1 1 [y] rfl rfl (by omega) ?c1 ?c2 ?c3 ?c4 ?_)
           case c1 =>
            intro j u hj
            match j, hj with
            | 0, hj => simp at hj; subst hj; simp [Addr.add, wd]
           case c2 => unfold maxLen; have := H_hnw.out; omega
           case c3 => have := H_hnw.out; omega
           case c4 => simp; omega
           intro v' w4 hown' hgrow hvown
           have hf4 : Fresh w w4 := Fresh.num (hfr3.out.alloc _) (hown.alloc _) (Nat.le_refl _) hgrow
           have hL4 : NumRow .u64 w4 w.heap.size 99 (.slice (some ⟨g, 0, none⟩) nl co) L := (hL.out.alloc _).of_block (fun g' hg' => hgrow.block g' (by simp [Value.ownBlock] at hg'; simp; omega) (fun e => hsep.out g' e.symm hg'))
           have hsep4 : ∀ g', v'.ownBlock = some g' → (Value.slice (some ⟨g, 0, none⟩) nl co).ownBlock ≠ some g' := fun g' hg' e => by
            rcases hvown g' hg' with h | h
            · exact hsep.out g' h e
            · have e' : g = g' := by simpa [Value.ownBlock] using e
              have h2 : ∀ o, (wr.alloc o).heap.size = wr.heap.size + 1 := fun o => by simp
              first | omega | (simp at h; omega)
           have H_hown' := hid hown'; have H_hf4 := hid hf4; have H_hL4 := hid hL4; have H_hsep4 := hid hsep4; clear hown' hf4 hL4 hsep4
           clear hgrow hown hvown
           go_wp2_with (fail)
           go_roundw
           case rel => exact ⟨r + 1, W ++ [y], by simp, by omega, H_hown'.out, H_hL4, H_we2, H_we1, hid (fun q hq => by rw [show q = (r + 1) / 2 by omega, H_we3.out]; exact hyb), hid (fun a ha => by
            rcases List.mem_append.1 ha with h | h
            · exact hWb.out a h
            · simp at h; omega), H_hsep4, H_hf4⟩
           case measure => simp [intOf]; omega
         · obtain ⟨q, hq⟩ : ∃ q, r = 2 * q + 1 := ⟨r / 2, by omega⟩
           have u2 : (Int.tmod (r : Int) 2 == 0) = false := by rw [beq_eq_false_iff_ne, Int.tmod_eq_emod_of_nonneg (by omega)]; omega
           have u3 : Int.tdiv (r : Int) 2 = (q : Int) := by rw [Int.tdiv_eq_ediv_of_nonneg (by omega)]; omega
           obtain ⟨x0, hx0⟩ : ∃ x, x = W.getD q 0 := ⟨_, rfl⟩
           have hx0b : x0 < 4294967296 := by rw [hx0]; exact hWh.out q hq
           obtain ⟨wo1, wo2⟩ := words_odd (W := W) (x := y) (by have := H_hnl.out; omega) hWl.out hq hWv.out hy hx0
           have hqn : q < nw := by have := hWl.out; omega
           have hqW : q < W.length := by omega
           obtain ⟨gw, rfl, hgww, hgwlt⟩ := H_hW.out.someAt (by omega)
           have hcw := H_hW.out.cell (j := q) hqW
           rw [← hx0] at hcw
           have hfw := H_hW.out.frz q
           obtain ⟨vv, hvv⟩ : ∃ v, v = x0 + y * 4294967296 := ⟨_, rfl⟩
           have hset := H_hW.out.set (j := q) hqW vv
           have hor := (or_half hx0b hyb).1
           have hyI : ((y * 4294967296 : Nat) : Int) = (y : Int) * 4294967296 := Int.natCast_mul y 4294967296
           rw [hyI, ← hvv] at hor
           rw [← hvv] at wo1 wo2
           have hvb : vv < 18446744073709551616 := by omega
           have hwr : IntKind.u64.wrap ((y : Int) * 4294967296) = (y : Int) * 4294967296 := by rw [IntKind.wrap_u64]; omega
           have hne : gw ≠ g := fun e => hsep.out gw rfl (by rw [e]; rfl)
           have hLs : ∀ u, NumRow .u64 (wr.setCell ⟨gw, q, none⟩ u) w.heap.size 99 (.slice (some ⟨g, 0, none⟩) nl co) L := fun u => hL.out.of_block (fun g' hg' => by cases hg'; exact Go.RowKit.Below.heap_setCell _ _ _ _ (fun e => hne e.symm))
           have hfs : ∀ u, Fresh w (wr.setCell ⟨gw, q, none⟩ u) := fun u => hfr3.out.setCell (p := ⟨gw, q, none⟩) (fun h => by change gw < w.heap.size at h; omega) u
           have u4 : (q : Int) < (nw : Int) := by omega
           have wq1 : IntKind.i64.wrap (q : Int) = (q : Int) := by rw [IntKind.wrap_i64]; omega
           have wq2 : wrap64 (q : Int) = (q : Int) := by unfold wrap64; omega
           have wy2 : wrap64 (y : Int) = (y : Int) := by unfold wrap64; omega
           clear wy2
           have H_wo1 := hid wo1; have H_wo2 := hid wo2; have H_hset := hid hset; have H_hnw := hid hnw; have H_hq := hid hq; have H_hx0 := hid hx0; have H_hLs := hid hLs; have H_hfs := hid hfs; have H_hyI := hid hyI; have H_hsep := hid hsep; have H_hvv := hid hvv; have H_hy := hid hy; have H_hvb := hid hvb; clear wo1 wo2 hset hnw hq hx0 hLs hfs hyI hsep hvv hy hvb
           go_wp2_with (fail)
           go_region
           go_wp2_with (fail)
           go_roundw
           case rel => exact ⟨r + 1, W.set q vv, by simp, by omega, H_hset.out.drew, hid (H_hLs.out _).drew, H_wo2, H_wo1, hid (fun q' hq' => (odd_no H_hq.out hq').elim), hid (fun a ha => by
            rcases List.mem_or_eq_of_mem_set ha with h | h
            · exact hWb.out a h
            · have := H_hvb.out; omega), H_hsep, hid (H_hfs.out _).drew⟩
           case measure => simp [intOf]; omega
       · obtain rfl : r = nl := by omega
         have u1 : decide ((r : Int) < (r : Int)) = false := by simp
         have hWv2 := hWv.out
         rw [List.take_of_length_le (by have := H_hnl.out; omega), hLv] at hWv2
         have hwn := H_hW.out.natAt hWb.out
         have hWlen := H_hW.out.lt
         have hfa : ∀ o, Fresh w (wr.alloc o) := fun o => hfr3.out.alloc o
         obtain ⟨b, hb⟩ : ∃ b, b = wr.heap.size := ⟨_, rfl⟩
         have hbw : w.heap.size ≤ b := by have := hfr3.out.size; omega
         have hsb : ∀ W1, W1 = wr.alloc (.cells #[.bool false, .slice none 0 0] 110 (0, 0)) → Calls Tryz.prog 131 #[.pointer (some ⟨b, 0, none⟩), .slice aw nw cw] W1 (fun e w' => e = .returned (.pointer (some ⟨b, 0, none⟩)) ∧ ∃ v, ZI w' b v (z.natAbs : Int) ∧ Fresh w w' ∧ (∀ k, v.ownBlock = some k → w.heap.size ≤ k)) := by
          rintro W1 rfl
          have h1 := SetBits_any b false (.slice none 0 0) [] (.slice aw nw cw) W (wr.alloc (.cells #[.bool false, .slice none 0 0] 110 (0, 0))) (by have := hWl.out; omega) (by rw [hb]; exact IntIs.new (heap_alloc_new wr _) (by have := H_hNG.out; omega)) (hwn.keep ((Keep.refl (fun _ => False) wr).alloc _) (fun _ _ h => h)) (fun k hk => by have := (hWlen k hk).2; omega)
          refine h1.mono ?_
          rintro e w' ⟨he, v, hv, hk, hown⟩
          rw [hWv2] at hv
          exact ⟨he, v, hv, (hfa _).trans hk (fun _ _ h => h) (fun k hk' e => by omega), fun k hk' => (hWlen k (hown k hk')).1⟩
         clear hwn hfa
         have H_hsb := hid hsb; have H_hb := hid hb; have H_hbw := hid hbw; have H_hWlen := hid hWlen; have H_hnw := hid hnw; clear hsb hb hbw hWlen hnw
         go_wp2_with (fail)
         generalize hw5 : wr.alloc _ = w1
         rw [← H_hb.out]
         refine (H_hsb.out w1 (by rw [← hw5])).mono ?_
         rintro e w5 ⟨rfl, v, hv5, hf5, ho5⟩
         have H_hv5 := hid hv5; have H_hf5 := hid hf5; have H_ho5 := hid ho5; have H_hw5 := hid hw5; clear hv5 hf5 ho5 hw5
         by_cases hz0 : z < 0
         · first
            | (exfalso; have h9 := H_hneg.out; rw [decide_eq_true hz0] at h9; cases h9; done)
            | (have hnb : neg = true := by rw [H_hneg.out, decide_eq_true hz0]
               have hng := Neg_self b v _ w5 H_hv5.out
               have hzz : -((z.natAbs : Nat) : Int) = z := by omega
               rw [hzz] at hng
               subst hnb
               have H_hng := hid hng; clear hng
               go_wp2_with (fail)
               refine H_hng.out.mono ?_
               rintro e w6 ⟨rfl, hv6, hk6⟩
               have H_hv6 := hid hv6; have H_hk6 := hid hk6; clear hv6 hk6
               go_wp2_with (fail)
               go_ret2
               exact ⟨b, v, rfl, H_hv6.out, H_hbw.out, H_ho5.out, H_hf5.out.trans H_hk6.out (fun _ _ h => h) (fun k hk e => by have := H_hbw.out; omega)⟩)
         · have hzz : ((z.natAbs : Nat) : Int) = z := by omega
           have hv6 := H_hv5.out
           rw [hzz] at hv6
           have hnb := H_hneg.out
           rw [decide_eq_false hz0] at hnb
           try subst hnb
           have H_hv6 := hid hv6; clear hv6
           go_wp2_with (fail)
           go_ret2
           exact ⟨b, v, rfl, H_hv6.out, H_hbw.out, H_ho5.out, H_hf5.out⟩

theorem whole_zero (z : Int) (w : World) (hz : (wdig z).length ≤ 300) (hNG : NG ≤ w.heap.size) (hz0 : z = 0) :
 Calls Tryz.prog 91 #[.string (bstr (wdig z))] w (fun e w' => ∃ b v, e = .returned (.tuple #[.pointer (some ⟨b, 0, none⟩), .bool true]) ∧ ZI w' b v z ∧ w.heap.size ≤ b ∧ (∀ k, v.ownBlock = some k → w.heap.size ≤ k) ∧ Fresh w w') := by
 obtain ⟨i0, hi, hi0, hi1, hi2⟩ := info_parts info_u64
 obtain ⟨j0, hj, hj0, hj1, hj2⟩ := info_parts info_word
 obtain ⟨D, hDD⟩ : ∃ D, D = hdig z.natAbs := ⟨_, rfl⟩
 have hD : IsD D := by rw [hDD]; exact hdig_isD _
 obtain ⟨neg, hneg⟩ : ∃ b, b = decide (z < 0) := ⟨_, rfl⟩
 obtain ⟨t, ht⟩ : ∃ t, t = bstr D := ⟨_, rfl⟩
 obtain ⟨s, hs⟩ : ∃ s, s = bstr (wdig z) := ⟨_, rfl⟩
 obtain ⟨N, hN⟩ : ∃ N, N = D.length := ⟨_, rfl⟩
 obtain ⟨N0, hN0⟩ : ∃ N, N = (wdig z).length := ⟨_, rfl⟩
 obtain ⟨c0, hc0⟩ : ∃ c, c = (wdig z).getD 0 0 := ⟨_, rfl⟩
 obtain ⟨d0, hd0⟩ : ∃ c, c = D.getD 0 0 := ⟨_, rfl⟩
 have hNp : 0 < N := by rw [hN, hDD]; exact hdig_pos_len _
 have hN0p : 0 < N0 := by rw [hN0]; exact wdig_pos_len _
 have hN03 : N0 ≤ 300 := by omega
 have hszs : s.size = N0 := by rw [hs, bstr_size, hN0]
 have hszt : t.size = N := by rw [ht, bstr_size, hN]
 have hgs : ∀ h : 0 < s.size, (s[0]'h).toNat = c0 := by subst hs; rw [hc0]; exact fun h => bstr_at (wdig_byte z) 0 h
 have hgt : ∀ i, ∀ h : i < t.size, (t[i]'h).toNat = D.getD i 0 := by subst ht; exact fun i h => bstr_at hD.byte i h
 have hg0 : ∀ h : 0 < t.size, (t[0]'h).toNat = d0 := by rw [hd0]; exact hgt 0
 have hsign : ((c0 : Int) == 45) = neg := by
  rcases Int.lt_or_le z 0 with h | h
  · rw [hneg, decide_eq_true h, hc0, wdig_neg h]; rfl
  · have := hD.getD (k := 0) (by omega)
    rw [hneg, decide_eq_false (by omega), hc0, wdig_nonneg h, ← hDD, beq_eq_false_iff_ne]; omega
 have hex : neg = true → s.extract 1 N0 = t ∧ 1 ≤ N0 := fun h => by
  have hz0 : z < 0 := by rw [hneg] at h; simpa using h
  refine ⟨?_, hN0p⟩
  rw [hs, ht, bstr_extract, hN0, wdig_neg hz0, hDD]; congr 1; simp
 have hst : neg = false → s = t := fun h => by
  have hz0 : 0 ≤ z := by rw [hneg] at h; simpa using h
  rw [hs, ht, wdig_nonneg hz0, hDD]
 have hN4 : N ≤ 300 := by
  rw [hN, hDD]; unfold wdig at hz; rw [List.length_append] at hz; omega
 have hlead : d0 = 48 ∧ N = 1 ∧ neg = false := by
  subst hz0
  exact ⟨by rw [hd0, hDD]; rfl, by rw [hN, hDD]; rfl, by rw [hneg]; rfl⟩
 obtain ⟨y1, hN1, y4⟩ := hlead
 have y2 : decide ((1 : Int) < (N : Int)) = false := by rw [hN1]; rfl
 have y3 : ¬ 1 < N := by omega
 clear hz0 hN1
 have H_y4 := hid y4
 clear y4
 have hval : dval D.reverse = z.natAbs := by rw [hDD, hdig_val]
 rw [← hs]
 have H_hs := hid hs; have H_ht := hid ht; have H_hN := hid hN; have H_hN0 := hid hN0; have H_hc0 := hid hc0; have H_hd0 := hid hd0; have H_hD := hid hD; have H_hDD := hid hDD; have H_hneg := hid hneg; have H_hgt := hid hgt; have H_hz := hid hz; have H_hex := hid hex; have H_hst := hid hst; have H_hval := hid hval; have H_hNG := hid hNG; have H_hg0 := hid hg0; clear hs ht hN hN0 hc0 hd0 hD hDD hneg hgt hz hex hst hval hNG hg0
 go_enter Tryz.func91, Tryz.ntmps91
 go_upto_if 21 with (fail)
 go_cut [0, 4] from 13 (fun s0 s4 wx => s0 = .string t ∧ s4 = .bool neg ∧ w = wx)
 case first =>
  cases neg
  · have hst' := H_hst.out rfl
    have H_hst' := hid hst'; clear hst'
    go_wp2_with (fail)
    go_meet
    case rel => exact ⟨by rw [H_hst'.out], rfl, rfl⟩
  · obtain ⟨hx, h1⟩ := H_hex.out rfl
    go_wp2_with (fail)
    go_meet
    case rel => exact ⟨rfl, rfl, rfl⟩
 case rest =>
  obtain ⟨rfl, rfl, rfl⟩ := hcut
  clear hsign hgs hszs hN0p hN03
  have x1 : ((N : Int) == 0) = false := by rw [beq_eq_false_iff_ne]; omega
  have x2 : decide ((400 : Int) < (N : Int)) = false := by simp; omega
  have x3 : ¬ N = 0 := by omega
  have x4 : ¬ 400 < N := by omega
  have hg0 := H_hg0.out
  clear H_hst H_hex H_hg0
  obtain rfl := H_y4.out
  all_goals
   go_upto_if 44 with (fail)
   clear x1 x2 x3 x4 hg0 y1 y2
   go_wp2_with (fail)
   go_loopw [5, 6] (fun lv iv wr => ∃ (i : Nat) (L : List Nat), iv = .int .i64 i ∧ i ≤ N ∧ NumRow .u64 wr w.heap.size 99 lv L ∧ Hid (Half L) ∧ Hid (hv L = dval (D.take i).reverse) ∧ Hid (L.length ≤ i) ∧ Hid (Fresh w wr)) (fun _ iv _ => N - (intOf iv).toNat)
   case atStart => exact ⟨0, [], rfl, by omega, NumRow.nil _ _ _ _, hid Half.nil, hid (by simp [hv, dval]), hid (by simp), Keep.refl _ _⟩
   case round =>
    obtain ⟨i, L, rfl, hiN, hown, hhalf, hvL, hLi, hfr⟩ := hrel
    have H_hown := hid hown
    clear hown
    obtain ⟨ao, co, rfl⟩ := H_hown.out.form
    obtain ⟨nl, hnl⟩ : ∃ n, n = L.length := ⟨_, rfl⟩
    rw [← hnl] at H_hown ⊢
    have hnl3 : nl ≤ 300 := by have := hLi.out; omega
    have H_hnl := hid hnl; clear hnl
    by_cases hlt : i < N
    · have t1 : decide ((i : Int) < (N : Int)) = true := by simp; omega
      have hstep : ∀ k x d, k < N → i ≤ k → x = dval ((D.take k).drop i).reverse → 48 + d = D.getD k 0 → 10 * x + d = dval ((D.take (k + 1)).drop i).reverse := fun k x d h1 h2 h3 h4 => by
       rw [natof_in (by have := H_hN.out; omega) h2 (by omega), ← h3]; omega
      have hsm : ∀ k x, k ≤ i + 9 → x = dval ((D.take k).drop i).reverse → x < 10 ^ (k - i) ∧ x < 1000000000 := fun k x h1 h2 => by
       have h4 := dval_lt (((H_hD.out.take k).drop i).reverse)
       rw [← h2] at h4
       have h5 : ((D.take k).drop i).reverse.length ≤ k - i := by simp; omega
       have h6 : 10 ^ ((D.take k).drop i).reverse.length ≤ 10 ^ (k - i) := Nat.pow_le_pow_right (by omega) h5
       have h7 : 10 ^ (k - i) ≤ 10 ^ 9 := Nat.pow_le_pow_right (by omega) (by omega)
       omega
      have hdig : ∀ k, k < N → ∃ d, d ≤ 9 ∧ 48 + d = D.getD k 0 := fun k h => by
       have := H_hD.out.getD (k := k) (by have := H_hN.out; omega)
       exact ⟨D.getD k 0 - 48, by omega, by omega⟩
      have hnew : ∀ k x, i ≤ k → k ≤ N → x = dval ((D.take k).drop i).reverse → x + 10 ^ (k - i) * hv L = dval (D.take k).reverse := fun k x h1 h2 h3 => by
       have e1 : D.take k = D.take i ++ (D.take k).drop i := by
        conv => lhs; rw [← List.take_append_drop i (D.take k)]
        rw [List.take_take, Nat.min_eq_left h1]
       rw [e1, List.reverse_append, dval_append, List.length_reverse, List.length_drop, List.length_take, Nat.min_eq_left (by have := H_hN.out; omega), ← hvL.out, ← h3]
      have H_hstep := hid hstep; have H_hsm := hid hsm; have H_hdig := hid hdig; have H_hnew := hid hnew; clear hstep hsm hdig hnew
      go_wp2_with (fail)
      go_loopw [6, 7, 8] (fun iv nv sv w2 => ∃ k x sc : Nat, iv = .int .i64 k ∧ nv = .int .u64 x ∧ sv = .int .u64 sc ∧ i ≤ k ∧ k ≤ i + 9 ∧ k ≤ N ∧ Hid (sc = 10 ^ (k - i)) ∧ Hid (x = dval ((D.take k).drop i).reverse) ∧ wr = w2) (fun iv _ _ _ => N - (intOf iv).toNat)
      case atStart => exact ⟨i, 0, 1, rfl, rfl, rfl, by omega, by omega, by omega, hid (by rw [Nat.sub_self]), hid (by rw [List.drop_of_length_le (by rw [List.length_take]; omega)]; rfl), rfl⟩
      case round =>
       obtain ⟨k, x, sc, rfl, rfl, rfl, hik, hk9, hkN, hsc, hx, hw2⟩ := hrel
       subst hw2
       by_cases hgo : k < N ∧ k < i + 9
       · obtain ⟨hg1, hg2⟩ := hgo
         have hscb : sc ≤ 100000000 := by
          rw [hsc.out]
          exact Nat.le_trans (Nat.pow_le_pow_right (by omega) (show k - i ≤ 8 by omega)) (by omega)
         have hxb : x < 100000000 := by
          have h1 := (H_hsm.out k x hk9 hx.out).1
          rw [← hsc.out] at h1; omega
         obtain ⟨d, hd9, hd⟩ := H_hdig.out k (by omega)
         obtain ⟨c, hc⟩ : ∃ c, c = D.getD k 0 := ⟨_, rfl⟩
         have hgi : ∀ h : k < t.size, (t[k]'h).toNat = c := fun h => by rw [H_hgt.out k h, hc]
         have hcI : (c : Int) - 48 = (d : Int) := by omega
         have hc1 : (48 : Int) ≤ (c : Int) := by omega
         have hc2 : (c : Int) ≤ 57 := by omega
         have t3 : decide ((c : Int) < 48) = false := by simp; omega
         have t4 : decide ((57 : Int) < (c : Int)) = false := by simp; omega
         have t5 : decide ((k : Int) < (N : Int)) = true := by simp; omega
         have t6 : decide ((sc : Int) < 1000000000) = true := by simp; omega
         have hxb2 : (x : Int) ≤ 99999999 := by omega
         have hsb2 : (sc : Int) ≤ 100000000 := by omega
         have hxn := H_hstep.out k x d hg1 hik hx.out hd
         have hmeas : N - (intOf (.int .i64 ((k : Int) + 1))).toNat < N - (intOf (.int .i64 (k : Int))).toNat := by simp [intOf]; omega
         have hrel2 : ∃ k' x' sc' : Nat, Value.int .i64 ((k : Int) + 1) = .int .i64 k' ∧ Value.int .u64 ((x : Int) * 10 + ((c : Int) - 48)) = .int .u64 x' ∧ Value.int .u64 ((sc : Int) * 10) = .int .u64 sc' ∧ i ≤ k' ∧ k' ≤ i + 9 ∧ k' ≤ N ∧ Hid (sc' = 10 ^ (k' - i)) ∧ Hid (x' = dval ((D.take k').drop i).reverse) ∧ wr = wr :=
          ⟨k + 1, 10 * x + d, sc * 10, by simp, by rw [show (x : Int) * 10 + ((c : Int) - 48) = ((10 * x + d : Nat) : Int) by omega], by rw [show (sc : Int) * 10 = ((sc * 10 : Nat) : Int) by omega], by omega, by omega, by omega, hid (by rw [hsc.out, show k + 1 - i = (k - i) + 1 by omega, Nat.pow_succ]), hid hxn, rfl⟩
         have H_hmeas := hid hmeas; have H_hrel2 := hid hrel2; have H_hxn := hid hxn; have H_hcI := hid hcI; have H_hd := hid hd; have H_hc := hid hc; clear hmeas hrel2 hxn hcI hd hc
         go_wp2_with (fail)
         go_roundw
         case rel =>
          obtain ⟨k', x', sc', r1, r2, r3, r4, r5, r6, r7, r8, r9⟩ := H_hrel2.out
          exact ⟨k', x', sc', r1, r2, r3, r4, r5, r6, r7, r8, trivial⟩
         case measure => exact H_hmeas.out
       · have htst : (k = N ∧ decide ((k : Int) < (N : Int)) = false ∧ ¬ k < N) ∨ (k < N ∧ decide ((k : Int) < (N : Int)) = true ∧ decide ((sc : Int) < 1000000000) = false ∧ ¬ sc < 1000000000) := by
          by_cases h1 : k < N
          · have h2 : k - i = 9 := by omega
            have h3 := hsc.out
            rw [h2] at h3
            exact .inr ⟨h1, by simp; omega, by simp; omega, by omega⟩
          · exact .inl ⟨by omega, by simp; omega, h1⟩
         have hik2 : i < k := by omega
         have hscb : sc ≤ 1000000000 := by
          rw [hsc.out]
          exact Nat.le_trans (Nat.pow_le_pow_right (by omega) (show k - i ≤ 9 by omega)) (by omega)
         have hxb : x < 1000000000 := (H_hsm.out k x hk9 hx.out).2
         have hnw := H_hnew.out k x hik hkN hx.out
         rw [← hsc.out] at hnw
         have hmeas : N - (intOf (.int .i64 (k : Int))).toNat < N - (intOf (.int .i64 (i : Int))).toNat := by simp [intOf]; omega
         clear hgo
         have H_hnw := hid hnw; have H_hmeas := hid hmeas; clear hnw hmeas
         rcases htst with ⟨v1, v2, v3⟩ | ⟨v1, v2, v3, v4⟩
         all_goals
          go_wp2_with (fail)
          clear v1 v2 v3
          try clear v4
          go_loopw [7, 81] (fun nv kv w3 => ∃ (r nn : Nat) (M : List Nat), kv = .int .i64 r ∧ nv = .int .u64 nn ∧ r ≤ nl ∧ nn < 1000000000 ∧ Hid (NumRow .u64 w3 w.heap.size 99 (.slice ao nl co) M) ∧ Hid (Half M) ∧ Hid (M.length = nl) ∧ Hid (M.drop r = L.drop r) ∧ Hid (hv (M.take r) + hpw r * nn = x + sc * hv (L.take r)) ∧ Hid (Fresh w w3)) (fun _ kv _ => nl - (intOf kv).toNat)
          case atStart => exact ⟨0, x, L, rfl, rfl, by omega, hxb, H_hown, hhalf, hid H_hnl.out.symm, hid rfl, hid (by simp [hv, hpw_zero]), hfr⟩
          case round =>
           obtain ⟨r, nn, M, rfl, rfl, hrn, hnnb, hM, hMh, hMl, hMd, hMv, hfr3⟩ := hrel
           by_cases hrl : r < nl
           · obtain ⟨g, rfl, hgw, hglt⟩ := hM.out.someAt (by have := hMl.out; omega)
             obtain ⟨y, hy⟩ : ∃ y, y = L.getD r 0 := ⟨_, rfl⟩
             have hyb : y < 4294967296 := by rw [hy]; exact hhalf.out.getD r
             obtain ⟨p, hp⟩ : ∃ p, p = y * sc := ⟨_, rfl⟩
             obtain ⟨tt, htt⟩ : ∃ t, t = nn + p := ⟨_, rfl⟩
             obtain ⟨ws1, ws2, ws3⟩ := whole_step (t := tt) (by have := hMl.out; omega) (hMl.out.trans H_hnl.out) hMd.out hMv.out (by rw [htt, hp, hy])
             obtain ⟨wc1, wc2, wc3⟩ := whole_carry hnnb hyb hscb
             rw [← hp] at wc1 wc2 wc3
             rw [← htt] at wc1 wc2
             have hcell := hM.out.cell (j := r) (by have := hMl.out; omega)
             rw [ws3, ← hy] at hcell
             have hfz := hM.out.frz r
             have hset := hM.out.set (j := r) (by have := hMl.out; omega) (tt % 4294967296)
             have hpI : (y : Int) * (sc : Int) = (p : Int) := by rw [hp]; push_cast; rfl
             have htI : (nn : Int) + (p : Int) = (tt : Int) := by omega
             have hand := and_half wc1
             have b1 : (p : Int) < 18446744073709551616 := by omega
             have b2 : (tt : Int) < 18446744073709551616 := by omega
             have u1 : decide ((r : Int) < (nl : Int)) = true := by simp; omega
             have hmod : (tt : Int) % 4294967296 = ((tt % 4294967296 : Nat) : Int) := by omega
             have hshr : (tt : Int) / 4294967296 = ((tt / 4294967296 : Nat) : Int) := by omega
             have hfrs : Fresh w (wr.setCell ⟨g, r, none⟩ (wd .u64 (tt % 4294967296))) := hfr3.out.setCell (p := ⟨g, r, none⟩) (fun h => by change g < w.heap.size at h; omega) _
             have H_hset := hid hset; have H_ws1 := hid ws1; have H_ws2 := hid ws2; have H_hp := hid hp; have H_htt := hid htt; have H_hy := hid hy; have H_hfrs := hid hfrs; have H_hshr := hid hshr; have H_hmod := hid hmod; have H_wc2 := hid wc2; clear hset ws1 ws2 hp htt hy hfrs hshr hmod wc2
             clear ws3 hMd hMv wc3
             go_wp2_with (fail)
             go_roundw
             case rel => exact ⟨r + 1, tt / 4294967296, M.set r (tt % 4294967296), by simp, by rw [H_hshr.out], by omega, H_wc2.out, hid (by rw [H_hmod.out]; exact H_hset.out), hid (hMh.out.set r (by omega)), hid (by rw [List.length_set]; exact hMl.out), H_ws2, H_ws1, hid (by rw [H_hmod.out]; exact H_hfrs.out)⟩
             case measure => simp [intOf]; omega
           · obtain rfl : r = nl := by omega
             have u1 : decide ((r : Int) < (r : Int)) = false := by simp
             have hMv2 := hMv.out
             rw [List.take_of_length_le (by have := hMl.out; omega), List.take_of_length_le (by have := H_hnl.out; omega), H_hnw.out] at hMv2
             by_cases hnz : 0 < nn
             · have u2 : decide ((0 : Int) < (nn : Int)) = true := by simp; omega
               have u3 : decide (0 < nn) = true := by simp; omega
               have hownM := hM.out
               have hMlen := hMl.out
               have hsz3 := hfr3.out.size
               have H_hMv2 := hid hMv2; clear hMv2
               go_wp2_with (at_builtin; refine wpList_append_num _ rfl _ _ 122 rfl .u64 w.heap.size 99 i0 8 Tryz.underlying122 hi hi0 hi1 hi2 _ M rfl (hownM.alloc _) ⟨wr.heap.size, 0, none⟩ 1 1 [nn] rfl rfl (by omega) ?c1 ?c2 ?c3 ?c4 ?_)
               case c1 =>
                intro j u hj
                match j, hj with
                | 0, hj => simp at hj; subst hj; simp [Addr.add, wd]
               case c2 => unfold maxLen; omega
               case c3 => omega
               case c4 => simp; omega
               intro v' w4 hown' hgrow _
               have hf4 : Fresh w w4 := Fresh.num (hfr3.out.alloc _) (hownM.alloc _) (Nat.le_refl _) hgrow
               have H_hown' := hid hown'; have H_hf4 := hid hf4; clear hown' hf4
               clear hgrow hownM
               go_wp2_with (fail)
               go_roundw
               case rel => exact ⟨k, M ++ [nn], rfl, hkN, H_hown'.out, hid (hMh.out.append (Half.one (by omega))), hid (by rw [hv_append, hMlen, ← H_hMv2.out]; simp [hv]), hid (by simp; have := hLi.out; have := H_hnl.out; omega), H_hf4⟩
               case measure => exact H_hmeas.out
             · obtain rfl : nn = 0 := by omega
               have hMlen := hMl.out
               have H_hMv2 := hid hMv2; clear hMv2
               go_wp2_with (fail)
               go_roundw
               case rel => exact ⟨k, M, rfl, hkN, hM.out, hMh, hid (by have := H_hMv2.out; simpa using this), hid (by have := hLi.out; have := H_hnl.out; omega), hfr3⟩
               case measure => exact H_hmeas.out
    · obtain rfl : i = N := by omega
      have t1 : decide ((i : Int) < (i : Int)) = false := by simp
      have hLv : hv L = z.natAbs := by rw [hvL.out, List.take_of_length_le (by have := H_hN.out; omega), H_hval.out]
      go_wp2_with (fail)
      clear t1
      go_loopw [10, 108] (fun wv kv w3 => ∃ (r : Nat) (W : List Nat), kv = .int .i64 r ∧ r ≤ nl ∧ NumRow .u64 w3 w.heap.size 123 wv W ∧ Hid (NumRow .u64 w3 w.heap.size 99 (.slice ao nl co) L) ∧ Hid (W.length = (r + 1) / 2) ∧ Hid (val W = hv (L.take r)) ∧ Hid (∀ q, r = 2 * q + 1 → W.getD q 0 < 4294967296) ∧ Hid (∀ a ∈ W, a < 18446744073709551616) ∧ Hid (∀ g, wv.ownBlock = some g → (Value.slice ao nl co).ownBlock ≠ some g) ∧ Hid (Fresh w w3)) (fun _ kv _ => nl - (intOf kv).toNat)
      case atStart => exact ⟨0, [], rfl, by omega, NumRow.nil _ _ _ _, H_hown, hid (by simp), hid (by simp [hv, val]), hid (fun q h => by omega), hid (by simp), hid (fun g h => by simp [Value.ownBlock] at h), hfr⟩
      case round =>
       obtain ⟨r, W, rfl, hrn, hW, hL, hWl, hWv, hWh, hWb, hsep, hfr3⟩ := hrel
       have H_hW := hid hW
       clear hW
       obtain ⟨aw, cw, rfl⟩ := H_hW.out.form
       obtain ⟨nw, hnw⟩ : ∃ n, n = W.length := ⟨_, rfl⟩
       rw [← hnw] at H_hW hsep ⊢
       by_cases hrl : r < nl
       · obtain ⟨g, rfl, hgw, hglt⟩ := hL.out.someAt (by have := H_hnl.out; omega)
         obtain ⟨y, hy⟩ : ∃ y, y = L.getD r 0 := ⟨_, rfl⟩
         have hyb : y < 4294967296 := by rw [hy]; exact hhalf.out.getD r
         have hcell := hL.out.cell (j := r) (by have := H_hnl.out; omega)
         rw [← hy] at hcell
         have u1 : decide ((r : Int) < (nl : Int)) = true := by simp; omega
         by_cases hpar : r % 2 = 0
         · have u2 : (Int.tmod (r : Int) 2 == 0) = true := by rw [beq_iff_eq, Int.tmod_eq_emod_of_nonneg (by omega)]; omega
           obtain ⟨we1, we2, we3⟩ := words_even (W := W) (x := y) (by have := H_hnl.out; omega) hWl.out hpar hWv.out hy
           have hown := H_hW.out
           have hszr := hfr3.out.size
           have hnw3 : nw ≤ 300 := by have := hWl.out; omega
           have H_we1 := hid we1; have H_we2 := hid we2; have H_we3 := hid we3; have H_hnw := hid hnw; have H_hy := hid hy; clear we1 we2 we3 hnw hy
           go_wp2_with (at_builtin; refine wpList_append_num _ rfl _ _ 107 rfl .u64 w.heap.size 123 j0 8 Tryz.underlying107 hj hj0 hj1 hj2 _ W rfl (hown.alloc _) ⟨wr.heap.size, 0, none⟩ 1 1 [y] rfl rfl (by omega) ?c1 ?c2 ?c3 ?c4 ?_)
           case c1 =>
            intro j u hj
            match j, hj with
            | 0, hj => simp at hj; subst hj; simp [Addr.add, wd]
           case c2 => unfold maxLen; have := H_hnw.out; omega
           case c3 => have := H_hnw.out; omega
           case c4 => simp; omega
           intro v' w4 hown' hgrow hvown
           have hf4 : Fresh w w4 := Fresh.num (hfr3.out.alloc _) (hown.alloc _) (Nat.le_refl _) hgrow
           have hL4 : NumRow .u64 w4 w.heap.size 99 (.slice (some ⟨g, 0, none⟩) nl co) L := (hL.out.alloc _).of_block (fun g' hg' => hgrow.block g' (by simp [Value.ownBlock] at hg'; simp; omega) (fun e => hsep.out g' e.symm hg'))
           have hsep4 : ∀ g', v'.ownBlock = some g' → (Value.slice (some ⟨g, 0, none⟩) nl co).ownBlock ≠ some g' := fun g' hg' e => by
            rcases hvown g' hg' with h | h
            · exact hsep.out g' h e
            · have e' : g = g' := by simpa [Value.ownBlock] using e
              have h2 : ∀ o, (wr.alloc o).heap.size = wr.heap.size + 1 := fun o => by simp
              first | omega | (simp at h; omega)
           have H_hown' := hid hown'; have H_hf4 := hid hf4; have H_hL4 := hid hL4; have H_hsep4 := hid hsep4; clear hown' hf4 hL4 hsep4
           clear hgrow hown hvown
           go_wp2_with (fail)
           go_roundw
           case rel => exact ⟨r + 1, W ++ [y], by simp, by omega, H_hown'.out, H_hL4, H_we2, H_we1, hid (fun q hq => by rw [show q = (r + 1) / 2 by omega, H_we3.out]; exact hyb), hid (fun a ha => by
            rcases List.mem_append.1 ha with h | h
            · exact hWb.out a h
            · simp at h; omega), H_hsep4, H_hf4⟩
           case measure => simp [intOf]; omega
         · obtain ⟨q, hq⟩ : ∃ q, r = 2 * q + 1 := ⟨r / 2, by omega⟩
           have u2 : (Int.tmod (r : Int) 2 == 0) = false := by rw [beq_eq_false_iff_ne, Int.tmod_eq_emod_of_nonneg (by omega)]; omega
           have u3 : Int.tdiv (r : Int) 2 = (q : Int) := by rw [Int.tdiv_eq_ediv_of_nonneg (by omega)]; omega
           obtain ⟨x0, hx0⟩ : ∃ x, x = W.getD q 0 := ⟨_, rfl⟩
           have hx0b : x0 < 4294967296 := by rw [hx0]; exact hWh.out q hq
           obtain ⟨wo1, wo2⟩ := words_odd (W := W) (x := y) (by have := H_hnl.out; omega) hWl.out hq hWv.out hy hx0
           have hqn : q < nw := by have := hWl.out; omega
           have hqW : q < W.length := by omega
           obtain ⟨gw, rfl, hgww, hgwlt⟩ := H_hW.out.someAt (by omega)
           have hcw := H_hW.out.cell (j := q) hqW
           rw [← hx0] at hcw
           have hfw := H_hW.out.frz q
           obtain ⟨vv, hvv⟩ : ∃ v, v = x0 + y * 4294967296 := ⟨_, rfl⟩
           have hset := H_hW.out.set (j := q) hqW vv
           have hor := (or_half hx0b hyb).1
           have hyI : ((y * 4294967296 : Nat) : Int) = (y : Int) * 4294967296 := Int.natCast_mul y 4294967296
           rw [hyI, ← hvv] at hor
           rw [← hvv] at wo1 wo2
           have hvb : vv < 18446744073709551616 := by omega
           have hwr : IntKind.u64.wrap ((y : Int) * 4294967296) = (y : Int) * 4294967296 := by rw [IntKind.wrap_u64]; omega
           have hne : gw ≠ g := fun e => hsep.out gw rfl (by rw [e]; rfl)
           have hLs : ∀ u, NumRow .u64 (wr.setCell ⟨gw, q, none⟩ u) w.heap.size 99 (.slice (some ⟨g, 0, none⟩) nl co) L := fun u => hL.out.of_block (fun g' hg' => by cases hg'; exact Go.RowKit.Below.heap_setCell _ _ _ _ (fun e => hne e.symm))
           have hfs : ∀ u, Fresh w (wr.setCell ⟨gw, q, none⟩ u) := fun u => hfr3.out.setCell (p := ⟨gw, q, none⟩) (fun h => by change gw < w.heap.size at h; omega) u
           have u4 : (q : Int) < (nw : Int) := by omega
           have wq1 : IntKind.i64.wrap (q : Int) = (q : Int) := by rw [IntKind.wrap_i64]; omega
           have wq2 : wrap64 (q : Int) = (q : Int) := by unfold wrap64; omega
           have wy2 : wrap64 (y : Int) = (y : Int) := by unfold wrap64; omega
           clear wy2
           have H_wo1 := hid wo1; have H_wo2 := hid wo2; have H_hset := hid hset; have H_hnw := hid hnw; have H_hq := hid hq; have H_hx0 := hid hx0; have H_hLs := hid hLs; have H_hfs := hid hfs; have H_hyI := hid hyI; have H_hsep := hid hsep; have H_hvv := hid hvv; have H_hy := hid hy; have H_hvb := hid hvb; clear wo1 wo2 hset hnw hq hx0 hLs hfs hyI hsep hvv hy hvb
           go_wp2_with (fail)
           go_region
           go_wp2_with (fail)
           go_roundw
           case rel => exact ⟨r + 1, W.set q vv, by simp, by omega, H_hset.out.drew, hid (H_hLs.out _).drew, H_wo2, H_wo1, hid (fun q' hq' => (odd_no H_hq.out hq').elim), hid (fun a ha => by
            rcases List.mem_or_eq_of_mem_set ha with h | h
            · exact hWb.out a h
            · have := H_hvb.out; omega), H_hsep, hid (H_hfs.out _).drew⟩
           case measure => simp [intOf]; omega
       · obtain rfl : r = nl := by omega
         have u1 : decide ((r : Int) < (r : Int)) = false := by simp
         have hWv2 := hWv.out
         rw [List.take_of_length_le (by have := H_hnl.out; omega), hLv] at hWv2
         have hwn := H_hW.out.natAt hWb.out
         have hWlen := H_hW.out.lt
         have hfa : ∀ o, Fresh w (wr.alloc o) := fun o => hfr3.out.alloc o
         obtain ⟨b, hb⟩ : ∃ b, b = wr.heap.size := ⟨_, rfl⟩
         have hbw : w.heap.size ≤ b := by have := hfr3.out.size; omega
         have hsb : ∀ W1, W1 = wr.alloc (.cells #[.bool false, .slice none 0 0] 110 (0, 0)) → Calls Tryz.prog 131 #[.pointer (some ⟨b, 0, none⟩), .slice aw nw cw] W1 (fun e w' => e = .returned (.pointer (some ⟨b, 0, none⟩)) ∧ ∃ v, ZI w' b v (z.natAbs : Int) ∧ Fresh w w' ∧ (∀ k, v.ownBlock = some k → w.heap.size ≤ k)) := by
          rintro W1 rfl
          have h1 := SetBits_any b false (.slice none 0 0) [] (.slice aw nw cw) W (wr.alloc (.cells #[.bool false, .slice none 0 0] 110 (0, 0))) (by have := hWl.out; omega) (by rw [hb]; exact IntIs.new (heap_alloc_new wr _) (by have := H_hNG.out; omega)) (hwn.keep ((Keep.refl (fun _ => False) wr).alloc _) (fun _ _ h => h)) (fun k hk => by have := (hWlen k hk).2; omega)
          refine h1.mono ?_
          rintro e w' ⟨he, v, hv, hk, hown⟩
          rw [hWv2] at hv
          exact ⟨he, v, hv, (hfa _).trans hk (fun _ _ h => h) (fun k hk' e => by omega), fun k hk' => (hWlen k (hown k hk')).1⟩
         clear hwn hfa
         have H_hsb := hid hsb; have H_hb := hid hb; have H_hbw := hid hbw; have H_hWlen := hid hWlen; have H_hnw := hid hnw; clear hsb hb hbw hWlen hnw
         go_wp2_with (fail)
         generalize hw5 : wr.alloc _ = w1
         rw [← H_hb.out]
         refine (H_hsb.out w1 (by rw [← hw5])).mono ?_
         rintro e w5 ⟨rfl, v, hv5, hf5, ho5⟩
         have H_hv5 := hid hv5; have H_hf5 := hid hf5; have H_ho5 := hid ho5; have H_hw5 := hid hw5; clear hv5 hf5 ho5 hw5
         by_cases hz0 : z < 0
         · first
            | (exfalso; have h9 := H_hneg.out; rw [decide_eq_true hz0] at h9; cases h9; done)
            | (have hnb : neg = true := by rw [H_hneg.out, decide_eq_true hz0]
               have hng := Neg_self b v _ w5 H_hv5.out
               have hzz : -((z.natAbs : Nat) : Int) = z := by omega
               rw [hzz] at hng
               subst hnb
               have H_hng := hid hng; clear hng
               go_wp2_with (fail)
               refine H_hng.out.mono ?_
               rintro e w6 ⟨rfl, hv6, hk6⟩
               have H_hv6 := hid hv6; have H_hk6 := hid hk6; clear hv6 hk6
               go_wp2_with (fail)
               go_ret2
               exact ⟨b, v, rfl, H_hv6.out, H_hbw.out, H_ho5.out, H_hf5.out.trans H_hk6.out (fun _ _ h => h) (fun k hk e => by have := H_hbw.out; omega)⟩)
         · have hzz : ((z.natAbs : Nat) : Int) = z := by omega
           have hv6 := H_hv5.out
           rw [hzz] at hv6
           have hnb := H_hneg.out
           rw [decide_eq_false hz0] at hnb
           try subst hnb
           have H_hv6 := hid hv6; clear hv6
           go_wp2_with (fail)
           go_ret2
           exact ⟨b, v, rfl, H_hv6.out, H_hbw.out, H_ho5.out, H_hf5.out⟩

theorem whole_any (z : Int) (w : World) (hz : (wdig z).length ≤ 300) (hNG : NG ≤ w.heap.size) :
 Calls Tryz.prog 91 #[.string (bstr (wdig z))] w (fun e w' => ∃ b v, e = .returned (.tuple #[.pointer (some ⟨b, 0, none⟩), .bool true]) ∧ ZI w' b v z ∧ w.heap.size ≤ b ∧ (∀ k, v.ownBlock = some k → w.heap.size ≤ k) ∧ Fresh w w') := by
 by_cases h : z = 0
 · exact whole_zero z w hz hNG h
 · exact whole_pos z w hz hNG h

end Go.Proofs.YtllencgncinphaaGreatDoor
