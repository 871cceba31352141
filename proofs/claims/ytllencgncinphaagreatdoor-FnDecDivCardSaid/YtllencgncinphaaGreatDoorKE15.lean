/- The contracts of the reference's whole numbers: Whole.Add. -/
import Derived.Test.YtllencgncinphaaGreatDoorKE8
import Derived.Test.YtllencgncinphaaGreatDoorKE12
import Derived.Test.YtllencgncinphaaGreatDoorKE14
namespace Go.Proofs.YtllencgncinphaaGreatDoor
open Go.RowKit
open Go.Lib (hid)
set_option maxRecDepth 20000
set_option maxHeartbeats 4000000

theorem sint_canon (n : Bool) {l : List Nat} (hn : Norm l) : sint (n && decide (0 < l.length)) l = sint n l := by
 by_cases h0 : 0 < l.length
 · simp [h0]
 · obtain rfl : l = [] := List.eq_nil_of_length_eq_zero (by omega)
   simp [sint, sval]

theorem FracMul_any (xa xb : Value) (za zb : Int) (da db : Nat) (w : World) (ha : SFr w xa za da) (hb : SFr w xb zb db) (h1 : za.natAbs < spow 1000) (h2 : zb.natAbs < spow 1000) (h3 : da < spow 1000) (h4 : db < spow 1000) :
 Calls Tryz.prog 24 #[xa, xb] w (FRet w (za * zb) (da * db)) := by
 obtain ⟨na, va, la, dva, dla, rfl, ha, hna, hca, rfl, hda, hdna, rfl⟩ := ha
 obtain ⟨nb, vb, lb, dvb, dlb, rfl, hb, hnb, hcb, rfl, hdb, hdnb, rfl⟩ := hb
 rw [sint_natAbs] at h1 h2
 have l1 := hna.s_len_le h1
 have l2 := hnb.s_len_le h2
 have l3 := hdna.s_len_le h3
 have l4 := hdnb.s_len_le h4
 obtain ⟨aa, ca, rfl⟩ := ha.form
 obtain ⟨ab, cb, rfl⟩ := hb.form
 obtain ⟨ada, cda, rfl⟩ := hda.form
 obtain ⟨adb, cdb, rfl⟩ := hdb.form
 obtain ⟨g, hg⟩ : ∃ g, g = w.heap.size := ⟨_, rfl⟩
 have bx := boxes3 w #[.bool na, .slice aa la.length ca, .slice ada dla.length cda] #[.bool nb, .slice ab lb.length cb, .slice adb dlb.length cdb] #[.bool false, .slice none 0 0, .slice none 0 0] 30 30 30 g hg
 have hmul1 : ∀ w1, Fresh w w1 → ∀ W, Fresh w1 W → Calls Tryz.prog 63 #[swh na (.slice aa la.length ca), swh nb (.slice ab lb.length cb)] W (WRet W (sint na la * sint nb lb)) := fun w1 hf W hW => WholeMul_any _ _ _ _ la lb W ((ha.fresh hf).fresh hW) ((hb.fresh hf).fresh hW) (by omega)
 have hden : ∀ w1, Fresh w w1 → ∀ W, Fresh w1 W → Calls Tryz.prog 49 #[.slice ada dla.length cda, .slice adb dlb.length cdb] W (SRet W (sval dla * sval dlb)) := fun w1 hf W hW => NatMul_any _ _ dla dlb W ((hda.fresh hf).fresh hW) ((hdb.fresh hf).fresh hW) (by omega)
 have H_ha := hid ha; have H_hb := hid hb; have H_hda := hid hda; have H_hdb := hid hdb; have H_bx := hid bx; have H_hna := hid hna; have H_hca := hid hca; have H_hnb := hid hnb; have H_hcb := hid hcb; have H_hdna := hid hdna; have H_hdnb := hid hdnb; have H_h1 := hid h1; have H_h2 := hid h2; have H_h3 := hid h3; have H_h4 := hid h4; have H_hmul1 := hid hmul1; have H_hden := hid hden; clear ha hb hda hdb bx hna hca hnb hcb hdna hdnb h1 h2 h3 h4 hmul1 hden
 go_enter Tryz.func24, Tryz.ntmps24
 go_wp2_with (fail)
 generalize hw1 : ((w.alloc _).alloc _).alloc _ = w1
 rw [← hg]
 obtain ⟨b1, b2, b3, hf, hgs⟩ := H_bx.out w1 hw1
 have k0 := rwc b1 0
 have k1 := rwc b1 1
 have k2 := rwc b1 2
 have k3 := rwc b2 0
 have k4 := rwc b2 1
 have k5 := rwc b2 2
 simp at k0 k1 k2 k3 k4 k5
 have hmul1 := H_hmul1.out w1 hf
 have hden := H_hden.out w1 hf
 clear H_hmul1 H_hden
 have H_b1 := hid b1; have H_b2 := hid b2; have H_b3 := hid b3; have H_hf := hid hf; have H_hw1 := hid hw1; have H_hg := hid hg; have H_hgs := hid hgs; have H_hmul1 := hid hmul1; have H_hden := hid hden; clear b1 b2 b3 hf hw1 hg hgs hmul1 hden
 go_region_held3 (fun (w' : World) => w'.cell? ⟨g, 0, none⟩ = some (.bool na) ∧ w'.cell? ⟨g, 1, none⟩ = some (.slice aa la.length ca) ∧ w'.cell? ⟨g, 2, none⟩ = some (.slice ada dla.length cda) ∧ w'.cell? ⟨g + 1, 0, none⟩ = some (.bool nb) ∧ w'.cell? ⟨g + 1, 1, none⟩ = some (.slice ab lb.length cb) ∧ w'.cell? ⟨g + 1, 2, none⟩ = some (.slice adb dlb.length cdb)) (first | exact ⟨k0, k1, k2, k3, k4, k5⟩ | exact ⟨m0, m1, m2, m3, m4, m5⟩ | exact ⟨nc0, nc1, nc2, nc3, nc4, nc5⟩ | exact ⟨far3 (by omega) nc0, far3 (by omega) nc1, far3 (by omega) nc2, far3 (by omega) nc3, far3 (by omega) nc4, far3 (by omega) nc5⟩) (first
  | (go_at_call 63; (with_reducible refine (H_hmul1.out _ ?c1).mono ?_); (case c1 => first | exact Keep.refl _ _ | exact (Keep.refl _ _).drew | exact (Keep.refl _ _).drewN _); rintro e w3 ⟨x3, rfl, ⟨n3, v3, l3, rfl, t1, t2, t3, t4⟩, r2⟩; obtain ⟨a3, c3, rfl⟩ := t1.form; have hf3 : Fresh w1 w3 := (by first | exact r2 | exact r2.of_drew | exact r2.of_drewN); have m0 := cfr k0 hf3; have m1 := cfr k1 hf3; have m2 := cfr k2 hf3; have m3 := cfr k3 hf3; have m4 := cfr k4 hf3; have m5 := cfr k5 hf3; have H_t1 := hid t1; have H_t2 := hid t2; have H_t3 := hid t3; have H_t4 := hid t4; have H_hf3 := hid hf3; clear t1 t2 t3 t4 r2 hf3)
  | (go_at_call 49; (with_reducible refine (H_hden.out _ (H_hf3.out)).mono ?_); rintro e w6 ⟨v6, l6, rfl, u1, u2, u3, u4⟩; obtain ⟨a6, c6, rfl⟩ := u1.form; have nc0 := cfr m0 u4; have nc1 := cfr m1 u4; have nc2 := cfr m2 u4; have nc3 := cfr m3 u4; have nc4 := cfr m4 u4; have nc5 := cfr m5 u4; have b4 := rfr H_b3.out (ftr (H_hf3.out) u4); have p0 := rwc b4 0; have p1 := rwc b4 1; have p2 := rwc b4 2; have z0 : w6.frozen? ⟨g + 1 + 1, 0, none⟩ = false := frozen_of_row _ _ _ _ _ b4; have z1 : w6.frozen? ⟨g + 1 + 1, 1, none⟩ = false := frozen_of_row _ _ _ _ _ b4; have z2 : w6.frozen? ⟨g + 1 + 1, 2, none⟩ = false := frozen_of_row _ _ _ _ _ b4; simp at p0 p1 p2; have H_b4 := hid b4; clear b4; have H_u1 := hid u1; have H_u2 := hid u2; have H_u3 := hid u3; have H_u4 := hid u4; clear u1 u2 u3 u4))
 go_wp2
 refine bodyPost_ret (results_cell_row rfl _ _ (g + 1 + 1) 30 #[.bool n3, .slice a3 l3.length c3, .slice a6 l6.length c6] (0, 0) _ rfl (rst (rst (rst H_b4.out))) Tryz.underlying30 rfl (by kernel_rfl)) rfl ?_
 have f1 := (H_t1.out.fresh H_u4.out).off p0 (fun n e => by simp at e)
 have f2 := H_u1.out.off p0 (fun n e => by simp at e)
 exact ⟨_, rfl, ⟨n3, _, l3, _, l6, rfl, (((H_t1.out.fresh H_u4.out).setOff f1).setOff f1).setOff f1, H_t2.out, H_t3.out, H_t4.out.trans (by simp [sint]), ((H_u1.out.setOff f2).setOff f2).setOff f2, H_u2.out, H_u3.out⟩, (ftr H_hf.out (ftr (H_hf3.out) H_u4.out)).set3 (by have := H_hg.out; omega)⟩

def SRetO (w : World) (v0 : Value) (n : Nat) (e : Ending) (w' : World) : Prop := ∃ v l, e = .returned v ∧ SNat w' v l ∧ Norm l ∧ sval l = n ∧ Fresh w w' ∧ (∀ k, v.ownBlock = some k → v0.ownBlock = some k)

def SNew (w : World) (n : Nat) (e : Ending) (w' : World) : Prop := ∃ v l, e = .returned v ∧ SNat w' v l ∧ Norm l ∧ sval l = n ∧ Fresh w w' ∧ (∀ k, v.ownBlock = some k → w.heap.size ≤ k)

theorem natTrim_own (v : Value) (l : List Nat) (w : World) (h : SNat w v l) : Calls Tryz.prog 101 #[v] w (SRetO w v (sval l)) := by
 by_cases h0 : l.length = 0
 · obtain rfl : l = [] := List.eq_nil_of_length_eq_zero h0
   obtain ⟨a, c, rfl⟩ := h.form
   have H_h := hid h
   clear h h0
   go_enter Tryz.func101, Tryz.ntmps101
   go_wp2
   refine wp_loop_rounds 1 ?_
   rw [rounds_succ]
   go_wp2
   go_ret
   exact ⟨_, [], rfl, H_h.out, Norm.nil, rfl, Keep.refl _ _, fun _ h => h⟩
 · obtain ⟨g, cap, rfl, h1, h2, h3, h4⟩ := h.open_pos (by omega)
   have hlen := h.len
   generalize hn : l.length = n at *
   have H_h := hid h; have H_h4 := hid h4; clear h h4
   go_enter Tryz.func101, Tryz.ntmps101
   go_wp2
   go_loop [0] (fun v => ∃ k : Nat, k ≤ n ∧ v = .slice (some ⟨g, 0, none⟩) k cap ∧ Hid (normL.normK l n = normL.normK l k)) (fun v => match v with | .slice _ m _ => m | _ => 0)
   case atStart => exact ⟨n, Nat.le_refl _, rfl, rfl⟩
   case round =>
    obtain ⟨k, hk, rfl, he⟩ := hrel
    cases k with
    | zero =>
      go_wp2
      go_ret
      have hc := SNat.cut (w := w) (l := l) (by rw [hn]; exact H_h.out) (n := 0) (by omega)
      have hv : sval (normL l) = sval l := normL_sval l
      have hz : normL l = l.take 0 := by unfold normL; rw [hn, he.out]; rfl
      exact ⟨_, l.take 0, rfl, hc, by rw [← hz]; exact normL_norm l, by rw [← hz]; exact hv, Keep.refl _ _, fun _ h => h⟩
    | succ k =>
      have hc := H_h4.out k (by omega)
      generalize hx : l.getD k 0 = x at *
      have H_hx := hid hx
      clear hx
      have e1 : ((k : Int) + 1 - 1) = (k : Int) := by omega
      have e2 : ((k : Int) + 1 - 1).toNat = k := by omega
      by_cases hx0 : x = 0
      · have ht : ((x : Int) == 0) = true := by subst hx0; rfl
        have H_hx0 := hid hx0
        clear hx0
        go_wp2
        go_round
        case rel =>
         refine ⟨k, by omega, by simp, ?_⟩
         have := he.out
         simp only [normL.normK] at this
         rw [if_pos (by rw [H_hx.out]; exact H_hx0.out)] at this
         exact this
        case measure => simp
      · have ht : ((x : Int) == 0) = false := by rw [beq_eq_false_iff_ne]; omega
        have H_hx0 := hid hx0
        clear hx0
        go_wp2
        go_ret
        have hc := SNat.cut (w := w) (l := l) (by rw [hn]; exact H_h.out) (n := k + 1) (by omega)
        have hz : normL l = l.take (k + 1) := by
         unfold normL; rw [hn, he.out]; simp only [normL.normK]; rw [if_neg (by rw [H_hx.out]; exact H_hx0.out)]
        exact ⟨_, l.take (k + 1), rfl, hc, by rw [← hz]; exact normL_norm l, by rw [← hz]; exact normL_sval l, Keep.refl _ _, fun _ h => h⟩

theorem NatSub_own (xv yv : Value) (xs ys : List Nat) (w : World) (hx : SNat w xv xs) (hy : SNat w yv ys) (hm : ys.length ≤ xs.length) (hle : sval ys ≤ sval xs) (hlen : xs.length ≤ 100000) :
 Calls Tryz.prog 105 #[xv, yv] w (SNew w (sval xs - sval ys)) := by
 obtain ⟨i0, hi, hz0, hz1, hz2⟩ := info_parts info_u32
 obtain ⟨ax, cx, rfl⟩ := hx.form
 obtain ⟨ay, cy, rfl⟩ := hy.form
 obtain ⟨n, hn⟩ : ∃ n, n = xs.length := ⟨_, rfl⟩
 obtain ⟨m, hmm⟩ : ∃ m, m = ys.length := ⟨_, rfl⟩
 rw [← hn] at hlen hm hx ⊢
 rw [← hmm] at hm hy ⊢
 have H_hx := hid hx; have H_hy := hid hy; have H_hn := hid hn; have H_hmm := hid hmm; have H_hle := hid hle; clear hx hy hn hmm hle
 go_enter Tryz.func105, Tryz.ntmps105
 go_wp2_with (fail)
 go_loopw [5, 6, 12] (fun o b i wr => ∃ (k br : Nat) (L : List Nat), k ≤ n ∧ i = .int .i64 k ∧ b = .int .u32 br ∧ br ≤ 1 ∧ wr.ownsRow w.heap.size 75 1 o L.length (L.map (wd .u32)) ∧ Hid (Lim L) ∧ Hid (L.length = k) ∧ Hid (sval (xs.take k) + spow k * br = sval L + sval (ys.take k)) ∧ Hid (Fresh w wr)) (fun _ _ i _ => n - (intOf i).toNat)
 case atStart => exact ⟨0, 0, [], by omega, rfl, rfl, by omega, World.ownsRow_nil _ _ _ _, Lim.nil, hid rfl, hid (by simp [sval]), Keep.refl _ _⟩
 case round =>
  obtain ⟨k, br, L, hk, rfl, rfl, hbr, hown, hlim, hLl, hval, hfr⟩ := hrel
  have H_hown := hid hown
  clear hown
  by_cases hlt : k < n
  · obtain ⟨gx, rfl, hcx, hgx, hcells⟩ := (H_hx.out.fresh hfr.out).cells H_hn.out (by omega)
    have hxk := hcells k hlt
    have hxlim := H_hx.out.lim.getD k
    have hylim := H_hy.out.lim.getD k
    have hstep0 := fun (q : Nat) (hb : br + ys.getD k 0 ≤ xs.getD k 0) (e : q = xs.getD k 0 - (br + ys.getD k 0)) => sub_step0 (y := ys.getD k 0) (x := xs.getD k 0) hval.out hb
    have hstep1 := fun (q : Nat) (hb : br + ys.getD k 0 ≤ xs.getD k 0 + 1000000000) (e : q = xs.getD k 0 + 1000000000 - (br + ys.getD k 0)) => sub_step1 (y := ys.getD k 0) (x := xs.getD k 0) hval.out hb
    rw [← sval_take_succ' xs k, ← sval_take_succ' ys k, ← spow_succ] at hstep0 hstep1
    have hLk := hLl.out
    obtain ⟨x, hxx⟩ : ∃ x, x = xs.getD k 0 := ⟨_, rfl⟩
    obtain ⟨y, hyy⟩ : ∃ y, y = ys.getD k 0 := ⟨_, rfl⟩
    rw [← hxx] at hxk hxlim hstep0 hstep1
    rw [← hyy] at hylim hstep0 hstep1
    have hlt' : (k : Int) < (n : Int) := by omega
    have t1 : decide ((k : Int) < (n : Int)) = true := by simp; omega
    have hsz := hfr.out.size
    obtain ⟨d, hd⟩ : ∃ d, d = br + y := ⟨_, rfl⟩
    rw [← hd] at hstep0 hstep1
    have H_hcells := hid hcells; have H_hxx := hid hxx; clear hcells hxx
    by_cases hkm : k < m
    · obtain ⟨gy, rfl, hcy, hgy, hcells⟩ := (H_hy.out.fresh hfr.out).cells H_hmm.out (by omega)
      have hyk := hcells k hkm
      rw [← hyy] at hyk
      have hkm' : (k : Int) < (m : Int) := by omega
      have t2 : decide ((k : Int) < (m : Int)) = true := by simp; omega
      have hdI : (br : Int) + (y : Int) = (d : Int) := by omega
      have hd9 : d ≤ 1000000000 := by omega
      clear hd
      have H_hcells := hid hcells; have H_hyy := hid hyy; clear hcells hyy
      by_cases hxd : x < d
      · obtain ⟨q, hq⟩ : ∃ q, q = x + 1000000000 - d := ⟨_, rfl⟩
        have hstep := hstep1 q (by omega) hq
        rw [← hq] at hstep
        clear hstep0 hstep1
        have t3 : decide ((x : Int) < (d : Int)) = true := by simp; omega
        have hqI : (x : Int) + 1000000000 - (d : Int) = (q : Int) := by omega
        have hq9 : q < 1000000000 := by omega
        have hown2 := H_hown.out
        rw [hLk] at hown2
        have H_hstep := hid hstep; clear hstep
        clear hq
        go_wp2_with (at_builtin; refine wpList_append_own _ rfl _ _ 26 rfl w.heap.size 75 i0 (.int .u32 0) 1 4 Tryz.underlying26 hi hz0 hz1 hz2 rfl (by decide) _ _ _ rfl (hown2.alloc _) ⟨wr.heap.size, 0, none⟩ 1 1 [Value.int .u32 (q : Int)] rfl rfl ?c1 ?c2 ?c3 ?c4 ?c5 ?_)
        case c1 =>
         intro j u hj
         match j, hj with
         | 0, hj => simp at hj; subst hj; simp [Addr.add]
        case c2 => intro u hu; simp at hu; subst hu; rfl
        case c3 => unfold maxLen; omega
        case c4 => omega
        case c5 => simp; omega
        · intro v' w1 hown' hgrow _
          have hf1 : Fresh w w1 := Fresh.owns (hfr.out.alloc _) (H_hown.out.alloc _) (Nat.le_refl _) hgrow
          have hL : (L ++ [q]).length = L.length + 1 := by simp
          have hown1 : w1.ownsRow w.heap.size 75 1 v' (L ++ [q]).length ((L ++ [q]).map (wd .u32)) := by
           rw [hL, hLk, List.map_append]; exact hown'
          have H_hown1 := hid hown1; have H_hf1 := hid hf1; clear hown1 hf1
          clear hown' hgrow hown2
          go_wp2_with (fail)
          go_roundw
          case rel => exact ⟨k + 1, 1, L ++ [q], by omega, by simp, rfl, by omega, H_hown1.out, hid (hlim.out.append (Lim.one hq9)), hid (by rw [hL, hLk]), hid (by have h9 := H_hstep.out; rw [sval_append, hLk]; simpa [sval] using h9), H_hf1⟩
          case measure => simp [intOf]; omega
      · obtain ⟨q, hq⟩ : ∃ q, q = x - d := ⟨_, rfl⟩
        have hstep := hstep0 q (by omega) hq
        rw [← hq] at hstep
        clear hstep0 hstep1
        have t3 : decide ((x : Int) < (d : Int)) = false := by simp; omega
        have hqI : (x : Int) - (d : Int) = (q : Int) := by omega
        have hq9 : q < 1000000000 := by omega
        have hown2 := H_hown.out
        rw [hLk] at hown2
        have H_hstep := hid hstep; clear hstep
        clear hq
        go_wp2_with (at_builtin; refine wpList_append_own _ rfl _ _ 26 rfl w.heap.size 75 i0 (.int .u32 0) 1 4 Tryz.underlying26 hi hz0 hz1 hz2 rfl (by decide) _ _ _ rfl (hown2.alloc _) ⟨wr.heap.size, 0, none⟩ 1 1 [Value.int .u32 (q : Int)] rfl rfl ?c1 ?c2 ?c3 ?c4 ?c5 ?_)
        case c1 =>
         intro j u hj
         match j, hj with
         | 0, hj => simp at hj; subst hj; simp [Addr.add]
        case c2 => intro u hu; simp at hu; subst hu; rfl
        case c3 => unfold maxLen; omega
        case c4 => omega
        case c5 => simp; omega
        · intro v' w1 hown' hgrow _
          have hf1 : Fresh w w1 := Fresh.owns (hfr.out.alloc _) (H_hown.out.alloc _) (Nat.le_refl _) hgrow
          have hL : (L ++ [q]).length = L.length + 1 := by simp
          have hown1 : w1.ownsRow w.heap.size 75 1 v' (L ++ [q]).length ((L ++ [q]).map (wd .u32)) := by
           rw [hL, hLk, List.map_append]; exact hown'
          have H_hown1 := hid hown1; have H_hf1 := hid hf1; clear hown1 hf1
          clear hown' hgrow hown2
          go_wp2_with (fail)
          go_roundw
          case rel => exact ⟨k + 1, 0, L ++ [q], by omega, by simp, rfl, by omega, H_hown1.out, hid (hlim.out.append (Lim.one hq9)), hid (by rw [hL, hLk]), hid (by have h9 := H_hstep.out; rw [sval_append, hLk]; simpa [sval] using h9), H_hf1⟩
          case measure => simp [intOf]; omega
    · have hy0 : y = 0 := by
       have hml := H_hmm.out
       rw [hyy]; simp [List.getD, List.getElem?_eq_none (show ys.length ≤ k by omega)]
      have t2 : decide ((k : Int) < (m : Int)) = false := by simp; omega
      have hdb : br = d := by omega
      subst hdb
      clear hd
      have hyy' := hyy
      clear hyy hy0 hylim
      have H_hyy := hid hyy'
      clear hyy'
      by_cases hxd : x < br
      · obtain ⟨q, hq⟩ : ∃ q, q = x + 1000000000 - br := ⟨_, rfl⟩
        have hstep := hstep1 q (by omega) hq
        rw [← hq] at hstep
        clear hstep0 hstep1
        have t3 : decide ((x : Int) < (br : Int)) = true := by simp; omega
        have hqI : (x : Int) + 1000000000 - (br : Int) = (q : Int) := by omega
        have hq9 : q < 1000000000 := by omega
        have hown2 := H_hown.out
        rw [hLk] at hown2
        have H_hstep := hid hstep; clear hstep
        clear hq
        go_wp2_with (at_builtin; refine wpList_append_own _ rfl _ _ 26 rfl w.heap.size 75 i0 (.int .u32 0) 1 4 Tryz.underlying26 hi hz0 hz1 hz2 rfl (by decide) _ _ _ rfl (hown2.alloc _) ⟨wr.heap.size, 0, none⟩ 1 1 [Value.int .u32 (q : Int)] rfl rfl ?c1 ?c2 ?c3 ?c4 ?c5 ?_)
        case c1 =>
         intro j u hj
         match j, hj with
         | 0, hj => simp at hj; subst hj; simp [Addr.add]
        case c2 => intro u hu; simp at hu; subst hu; rfl
        case c3 => unfold maxLen; omega
        case c4 => omega
        case c5 => simp; omega
        · intro v' w1 hown' hgrow _
          have hf1 : Fresh w w1 := Fresh.owns (hfr.out.alloc _) (H_hown.out.alloc _) (Nat.le_refl _) hgrow
          have hL : (L ++ [q]).length = L.length + 1 := by simp
          have hown1 : w1.ownsRow w.heap.size 75 1 v' (L ++ [q]).length ((L ++ [q]).map (wd .u32)) := by
           rw [hL, hLk, List.map_append]; exact hown'
          have H_hown1 := hid hown1; have H_hf1 := hid hf1; clear hown1 hf1
          clear hown' hgrow hown2
          go_wp2_with (fail)
          go_roundw
          case rel => exact ⟨k + 1, 1, L ++ [q], by omega, by simp, rfl, by omega, H_hown1.out, hid (hlim.out.append (Lim.one hq9)), hid (by rw [hL, hLk]), hid (by have h9 := H_hstep.out; rw [sval_append, hLk]; simpa [sval] using h9), H_hf1⟩
          case measure => simp [intOf]; omega
      · obtain ⟨q, hq⟩ : ∃ q, q = x - br := ⟨_, rfl⟩
        have hstep := hstep0 q (by omega) hq
        rw [← hq] at hstep
        clear hstep0 hstep1
        have t3 : decide ((x : Int) < (br : Int)) = false := by simp; omega
        have hqI : (x : Int) - (br : Int) = (q : Int) := by omega
        have hq9 : q < 1000000000 := by omega
        have hown2 := H_hown.out
        rw [hLk] at hown2
        have H_hstep := hid hstep; clear hstep
        clear hq
        go_wp2_with (at_builtin; refine wpList_append_own _ rfl _ _ 26 rfl w.heap.size 75 i0 (.int .u32 0) 1 4 Tryz.underlying26 hi hz0 hz1 hz2 rfl (by decide) _ _ _ rfl (hown2.alloc _) ⟨wr.heap.size, 0, none⟩ 1 1 [Value.int .u32 (q : Int)] rfl rfl ?c1 ?c2 ?c3 ?c4 ?c5 ?_)
        case c1 =>
         intro j u hj
         match j, hj with
         | 0, hj => simp at hj; subst hj; simp [Addr.add]
        case c2 => intro u hu; simp at hu; subst hu; rfl
        case c3 => unfold maxLen; omega
        case c4 => omega
        case c5 => simp; omega
        · intro v' w1 hown' hgrow _
          have hf1 : Fresh w w1 := Fresh.owns (hfr.out.alloc _) (H_hown.out.alloc _) (Nat.le_refl _) hgrow
          have hL : (L ++ [q]).length = L.length + 1 := by simp
          have hown1 : w1.ownsRow w.heap.size 75 1 v' (L ++ [q]).length ((L ++ [q]).map (wd .u32)) := by
           rw [hL, hLk, List.map_append]; exact hown'
          have H_hown1 := hid hown1; have H_hf1 := hid hf1; clear hown1 hf1
          clear hown' hgrow hown2
          go_wp2_with (fail)
          go_roundw
          case rel => exact ⟨k + 1, 0, L ++ [q], by omega, by simp, rfl, by omega, H_hown1.out, hid (hlim.out.append (Lim.one hq9)), hid (by rw [hL, hLk]), hid (by have h9 := H_hstep.out; rw [sval_append, hLk]; simpa [sval] using h9), H_hf1⟩
          case measure => simp [intOf]; omega
  · obtain rfl : k = n := by omega
    have t1 : decide ((k : Int) < (k : Int)) = false := by simp
    have hs := SNat.of_owns H_hown.out hlim.out (by have := hLl.out; omega)
    obtain ⟨ao, co, rfl⟩ := hs.form
    have hcall := natTrim_own _ _ _ hs
    have H_hcall := hid hcall; clear hcall
    clear hs
    go_wp2_with (fail)
    refine H_hcall.out.mono ?_
    rintro e w2 ⟨v, l, rfl, h1, h2, h3, h4, h5⟩
    have H_h1 := hid h1; have H_h2 := hid h2; have H_h3 := hid h3; have H_h4 := hid h4; have H_h5 := hid h5; clear h1 h2 h3 h4 h5
    go_wp2_with (fail)
    go_ret
    refine ⟨_, l, rfl, H_h1.out, H_h2.out, ?_, ftr hfr.out H_h4.out, fun k hk => (H_hown.out.lt k (H_h5.out k hk)).1⟩
    have hv := hval.out
    have hlt2 := sval_lt hlim.out
    rw [hLl.out] at hlt2
    rw [List.take_of_length_le (by have := H_hn.out; omega), List.take_of_length_le (by have := H_hmm.out; omega)] at hv
    have hl := H_hle.out
    have hb0 : br = 0 := by
     rcases Nat.eq_zero_or_pos br with h | h
     · exact h
     · obtain rfl : br = 1 := by omega
       omega
    subst hb0
    rw [H_h3.out]
    omega

end Go.Proofs.YtllencgncinphaaGreatDoor
