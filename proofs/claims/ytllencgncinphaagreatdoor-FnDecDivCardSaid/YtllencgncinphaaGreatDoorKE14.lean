/- The contracts of the reference's natural numbers: NatAdd. -/
import Derived.Laws.AppendOwnNone
import Derived.Test.YtllencgncinphaaGreatDoorKE13
namespace Go.Proofs.YtllencgncinphaaGreatDoor
open Go.RowKit
open Go.Lib (hid)
set_option maxRecDepth 20000
set_option maxHeartbeats 4000000

theorem getD_out {l : List Nat} {k : Nat} (h : l.length ≤ k) : l.getD k 0 = 0 := by simp [List.getD, List.getElem?_eq_none h]

theorem NatAdd_any (xv yv : Value) (xs ys : List Nat) (w : World) (hx : SNat w xv xs) (hy : SNat w yv ys) (hnx : Norm xs) (hny : Norm ys) (hlx : xs.length ≤ 100000) (hly : ys.length ≤ 100000) :
 Calls Tryz.prog 54 #[xv, yv] w (SRet w (sval xs + sval ys)) := by
 obtain ⟨i0, hi, hz0, hz1, hz2⟩ := info_parts info_u32
 obtain ⟨ax, cx, rfl⟩ := hx.form
 obtain ⟨ay, cy, rfl⟩ := hy.form
 obtain ⟨n, hn⟩ : ∃ n, n = xs.length := ⟨_, rfl⟩
 obtain ⟨m, hmm⟩ : ∃ m, m = ys.length := ⟨_, rfl⟩
 obtain ⟨M, hM⟩ : ∃ M, M = max n m := ⟨_, rfl⟩
 have hM1 : n ≤ M := by omega
 have hM2 : m ≤ M := by omega
 have hM3 : M ≤ 100000 := by omega
 rw [← hn] at hlx hx ⊢
 rw [← hmm] at hly hy ⊢
 have hend : ∀ k L, Lim L → L.length = k → sval L = sval xs + sval ys → (M < k → spow (k - 1) ≤ sval xs + sval ys) → M ≤ k → Norm L := fun k L hl hk hv hb hMk => norm_of_ge hl (fun j hj => by
  rw [hv]
  rcases Nat.lt_or_ge M k with h | h
  · have := hb h
    rwa [show k - 1 = j by omega] at this
  · have hkM : k = M := by omega
    rcases Nat.lt_or_ge n m with h2 | h2
    · have := hny.s_ge (k := j) (by omega)
      omega
    · have := hnx.s_ge (k := j) (by omega)
      omega)
 have H_hx := hid hx; have H_hy := hid hy; have H_hn := hid hn; have H_hmm := hid hmm; have H_hM := hid hM; have H_hend := hid hend; have H_hnx := hid hnx; have H_hny := hid hny; clear hx hy hn hmm hM hend hnx hny
 go_enter Tryz.func54, Tryz.ntmps54
 go_wp2_with (fail)
 go_loopw [5, 6, 7] (fun o b i wr => ∃ (k c : Nat) (L : List Nat), k ≤ M + 1 ∧ i = .int .i64 k ∧ b = .int .u32 c ∧ c ≤ 1 ∧ (k = M + 1 → c = 0) ∧ wr.ownsRow w.heap.size 75 1 o L.length (L.map (wd .u32)) ∧ Hid (Lim L) ∧ Hid (L.length = k) ∧ Hid (sval L + spow k * c = sval (xs.take k) + sval (ys.take k)) ∧ Hid (M < k → spow (k - 1) ≤ sval xs + sval ys) ∧ Hid (Fresh w wr)) (fun _ _ i _ => M + 2 - (intOf i).toNat)
 case atStart => exact ⟨0, 0, [], by omega, rfl, rfl, by omega, fun _ => rfl, World.ownsRow_nil _ _ _ _, Lim.nil, hid rfl, hid (by simp [sval]), hid (fun h => by omega), Keep.refl _ _⟩
 case round =>
  obtain ⟨k, c, L, hk, rfl, rfl, hc, hcM, hown, hlim, hLl, hval, hbig, hfr⟩ := hrel
  have H_hown := hid hown
  clear hown
  have hsz := hfr.out.size
  have hLk := hLl.out
  have hxlim := H_hx.out.lim.getD k
  have hylim := H_hy.out.lim.getD k
  obtain ⟨x, hxx⟩ : ∃ x, x = xs.getD k 0 := ⟨_, rfl⟩
  obtain ⟨y, hyy⟩ : ∃ y, y = ys.getD k 0 := ⟨_, rfl⟩
  obtain ⟨d, hd⟩ : ∃ d, d = c + x := ⟨_, rfl⟩
  obtain ⟨t, ht⟩ : ∃ t, t = d + y := ⟨_, rfl⟩
  rw [← hxx] at hxlim
  rw [← hyy] at hylim
  have hstep : sval (L ++ [t % 1000000000]) + spow (k + 1) * (t / 1000000000) = sval (xs.take (k + 1)) + sval (ys.take (k + 1)) := by
   have := add_step (x := x) (y := y) (t := t) hval.out (by omega)
   rw [sval_take_succ' xs k, sval_take_succ' ys k, spow_succ, sval_append, hLk, ← hxx, ← hyy]
   simpa [sval] using this
  have hq9 : t % 1000000000 < 1000000000 := by omega
  have hc9 : t / 1000000000 ≤ 1 := by omega
  have hd9 : d ≤ 1000000000 := by omega
  have ht9 : t ≤ 1999999999 := by omega
  have hdI : (c : Int) + (x : Int) = (d : Int) := by omega
  have htI : (d : Int) + (y : Int) = (t : Int) := by omega
  have hown2 := H_hown.out
  rw [hLk] at hown2
  by_cases hcase : k < n ∧ k < m
  · obtain ⟨hk1, hk2⟩ := hcase
    have hnx2 : M < k + 1 → spow (k + 1 - 1) ≤ sval xs + sval ys := fun h => by
     omega
    obtain ⟨gx, rfl, hcx, hgx, hcellx⟩ := (H_hx.out.fresh hfr.out).cells H_hn.out (by omega)
    have hxk := hcellx k hk1
    rw [← hxx] at hxk
    have t1 : decide ((k : Int) < (n : Int)) = true := by simp; omega
    clear hcellx
    obtain ⟨gy, rfl, hcy, hgy, hcelly⟩ := (H_hy.out.fresh hfr.out).cells H_hmm.out (by omega)
    have hyk := hcelly k hk2
    rw [← hyy] at hyk
    have t2 : decide ((k : Int) < (m : Int)) = true := by simp; omega
    clear hcelly
    have H_ht := hid ht; have H_hd := hid hd; have H_hxx := hid hxx; have H_hyy := hid hyy; have H_hstep := hid hstep; have H_hnx2 := hid hnx2; have H_hq9 := hid hq9; have H_hc9 := hid hc9; clear ht hd hxx hyy hstep hnx2 hq9 hc9
    clear hval hbig
    go_wp2_with (at_builtin; refine wpList_append_own _ rfl _ _ 26 rfl w.heap.size 75 i0 (.int .u32 0) 1 4 Tryz.underlying26 hi hz0 hz1 hz2 rfl (by decide) _ _ _ rfl (hown2.alloc _) ⟨wr.heap.size, 0, none⟩ 1 1 [wd .u32 (t % 1000000000)] rfl rfl ?c1 ?c2 ?c3 ?c4 ?c5 ?_)
    case c1 =>
     intro j u hj
     match j, hj with
     | 0, hj => simp at hj; subst hj; simp [Addr.add, wd]
    case c2 => intro u hu; simp at hu; subst hu; rfl
    case c3 => unfold maxLen; omega
    case c4 => omega
    case c5 => simp; omega
    · intro v' w1 hown' hgrow _
      have hf1 : Fresh w w1 := Fresh.owns (hfr.out.alloc _) (H_hown.out.alloc _) (Nat.le_refl _) hgrow
      have hL : (L ++ [(t % 1000000000)]).length = L.length + 1 := by simp
      have hown1 : w1.ownsRow w.heap.size 75 1 v' (L ++ [(t % 1000000000)]).length ((L ++ [(t % 1000000000)]).map (wd .u32)) := by
       rw [hL, hLk, List.map_append]; exact hown'
      have H_hown1 := hid hown1; have H_hf1 := hid hf1; clear hown1 hf1
      clear hown' hgrow hown2
      go_wp2_with (fail)
      go_roundw
      case rel => exact ⟨k + 1, (t / 1000000000), L ++ [(t % 1000000000)], by omega, by simp, rfl, H_hc9.out, by have := H_hM.out; omega, H_hown1.out, hid (hlim.out.append (Lim.one H_hq9.out)), hid (by rw [hL, hLk]), H_hstep, H_hnx2, H_hf1⟩
      case measure => simp [intOf]; omega
  by_cases hcase : k < n ∧ m ≤ k
  · obtain ⟨hk1, hk2⟩ := hcase
    have hnx2 : M < k + 1 → spow (k + 1 - 1) ≤ sval xs + sval ys := fun h => by
     omega
    obtain ⟨gx, rfl, hcx, hgx, hcellx⟩ := (H_hx.out.fresh hfr.out).cells H_hn.out (by omega)
    have hxk := hcellx k hk1
    rw [← hxx] at hxk
    have t1 : decide ((k : Int) < (n : Int)) = true := by simp; omega
    clear hcellx
    have hy0 : y = 0 := by rw [hyy]; exact getD_out (by have := H_hmm.out; omega)
    have t2 : decide ((k : Int) < (m : Int)) = false := by simp; omega
    have t2n : ¬ k < m := by omega
    subst hy0
    have htd : d = t := by omega
    subst htd
    have H_ht := hid ht; have H_hd := hid hd; have H_hxx := hid hxx; have H_hyy := hid hyy; have H_hstep := hid hstep; have H_hnx2 := hid hnx2; have H_hq9 := hid hq9; have H_hc9 := hid hc9; clear ht hd hxx hyy hstep hnx2 hq9 hc9
    clear hval hbig
    go_wp2_with (at_builtin; refine wpList_append_own _ rfl _ _ 26 rfl w.heap.size 75 i0 (.int .u32 0) 1 4 Tryz.underlying26 hi hz0 hz1 hz2 rfl (by decide) _ _ _ rfl (hown2.alloc _) ⟨wr.heap.size, 0, none⟩ 1 1 [wd .u32 (d % 1000000000)] rfl rfl ?c1 ?c2 ?c3 ?c4 ?c5 ?_)
    case c1 =>
     intro j u hj
     match j, hj with
     | 0, hj => simp at hj; subst hj; simp [Addr.add, wd]
    case c2 => intro u hu; simp at hu; subst hu; rfl
    case c3 => unfold maxLen; omega
    case c4 => omega
    case c5 => simp; omega
    · intro v' w1 hown' hgrow _
      have hf1 : Fresh w w1 := Fresh.owns (hfr.out.alloc _) (H_hown.out.alloc _) (Nat.le_refl _) hgrow
      have hL : (L ++ [(d % 1000000000)]).length = L.length + 1 := by simp
      have hown1 : w1.ownsRow w.heap.size 75 1 v' (L ++ [(d % 1000000000)]).length ((L ++ [(d % 1000000000)]).map (wd .u32)) := by
       rw [hL, hLk, List.map_append]; exact hown'
      have H_hown1 := hid hown1; have H_hf1 := hid hf1; clear hown1 hf1
      clear hown' hgrow hown2
      go_wp2_with (fail)
      go_roundw
      case rel => exact ⟨k + 1, (d / 1000000000), L ++ [(d % 1000000000)], by omega, by simp, rfl, H_hc9.out, by have := H_hM.out; omega, H_hown1.out, hid (hlim.out.append (Lim.one H_hq9.out)), hid (by rw [hL, hLk]), H_hstep, H_hnx2, H_hf1⟩
      case measure => simp [intOf]; omega
  by_cases hcase : n ≤ k ∧ k < m
  · obtain ⟨hk1, hk2⟩ := hcase
    have hnx2 : M < k + 1 → spow (k + 1 - 1) ≤ sval xs + sval ys := fun h => by
     omega
    have hx0 : x = 0 := by rw [hxx]; exact getD_out (by have := H_hn.out; omega)
    have t1 : decide ((k : Int) < (n : Int)) = false := by simp; omega
    have t1n : ¬ k < n := by omega
    obtain ⟨gy, rfl, hcy, hgy, hcelly⟩ := (H_hy.out.fresh hfr.out).cells H_hmm.out (by omega)
    have hyk := hcelly k hk2
    rw [← hyy] at hyk
    have t2 : decide ((k : Int) < (m : Int)) = true := by simp; omega
    clear hcelly
    subst hx0
    have hdc : c = d := by omega
    subst hdc
    have H_ht := hid ht; have H_hd := hid hd; have H_hxx := hid hxx; have H_hyy := hid hyy; have H_hstep := hid hstep; have H_hnx2 := hid hnx2; have H_hq9 := hid hq9; have H_hc9 := hid hc9; clear ht hd hxx hyy hstep hnx2 hq9 hc9
    clear hval hbig
    go_wp2_with (at_builtin; refine wpList_append_own _ rfl _ _ 26 rfl w.heap.size 75 i0 (.int .u32 0) 1 4 Tryz.underlying26 hi hz0 hz1 hz2 rfl (by decide) _ _ _ rfl (hown2.alloc _) ⟨wr.heap.size, 0, none⟩ 1 1 [wd .u32 (t % 1000000000)] rfl rfl ?c1 ?c2 ?c3 ?c4 ?c5 ?_)
    case c1 =>
     intro j u hj
     match j, hj with
     | 0, hj => simp at hj; subst hj; simp [Addr.add, wd]
    case c2 => intro u hu; simp at hu; subst hu; rfl
    case c3 => unfold maxLen; omega
    case c4 => omega
    case c5 => simp; omega
    · intro v' w1 hown' hgrow _
      have hf1 : Fresh w w1 := Fresh.owns (hfr.out.alloc _) (H_hown.out.alloc _) (Nat.le_refl _) hgrow
      have hL : (L ++ [(t % 1000000000)]).length = L.length + 1 := by simp
      have hown1 : w1.ownsRow w.heap.size 75 1 v' (L ++ [(t % 1000000000)]).length ((L ++ [(t % 1000000000)]).map (wd .u32)) := by
       rw [hL, hLk, List.map_append]; exact hown'
      have H_hown1 := hid hown1; have H_hf1 := hid hf1; clear hown1 hf1
      clear hown' hgrow hown2
      go_wp2_with (fail)
      go_roundw
      case rel => exact ⟨k + 1, (t / 1000000000), L ++ [(t % 1000000000)], by omega, by simp, rfl, H_hc9.out, by have := H_hM.out; omega, H_hown1.out, hid (hlim.out.append (Lim.one H_hq9.out)), hid (by rw [hL, hLk]), H_hstep, H_hnx2, H_hf1⟩
      case measure => simp [intOf]; omega
  by_cases hcase : n ≤ k ∧ m ≤ k ∧ c = 1
  · obtain ⟨hk1, hk2, rfl⟩ := hcase
    have hnx2 : M < k + 1 → spow (k + 1 - 1) ≤ sval xs + sval ys := fun h => by
     have h1 := hval.out
     rw [List.take_of_length_le (by have := H_hn.out; omega), List.take_of_length_le (by have := H_hmm.out; omega)] at h1
     rw [Nat.add_sub_cancel]
     omega
    have hx0 : x = 0 := by rw [hxx]; exact getD_out (by have := H_hn.out; omega)
    have t1 : decide ((k : Int) < (n : Int)) = false := by simp; omega
    have t1n : ¬ k < n := by omega
    have hy0 : y = 0 := by rw [hyy]; exact getD_out (by have := H_hmm.out; omega)
    have t2 : decide ((k : Int) < (m : Int)) = false := by simp; omega
    have t2n : ¬ k < m := by omega
    subst hx0
    have hdc : 1 = d := by omega
    subst hdc
    subst hy0
    have htd : 1 = t := by omega
    subst htd
    have H_ht := hid ht; have H_hd := hid hd; have H_hxx := hid hxx; have H_hyy := hid hyy; have H_hstep := hid hstep; have H_hnx2 := hid hnx2; have H_hq9 := hid hq9; have H_hc9 := hid hc9; clear ht hd hxx hyy hstep hnx2 hq9 hc9
    clear hval hbig
    go_wp2_with (at_builtin; refine wpList_append_own _ rfl _ _ 26 rfl w.heap.size 75 i0 (.int .u32 0) 1 4 Tryz.underlying26 hi hz0 hz1 hz2 rfl (by decide) _ _ _ rfl (hown2.alloc _) ⟨wr.heap.size, 0, none⟩ 1 1 [Value.int .u32 1] rfl rfl ?c1 ?c2 ?c3 ?c4 ?c5 ?_)
    case c2 => rfl
    case c3 => unfold maxLen; omega
    case c4 => omega
    case c5 => first | omega | (simp; omega)
    · intro v' w1 hown' hgrow _
      have hf1 : Fresh w w1 := Fresh.owns (hfr.out.alloc _) (H_hown.out.alloc _) (Nat.le_refl _) hgrow
      have hL : (L ++ [1]).length = L.length + 1 := by simp
      have hown1 : w1.ownsRow w.heap.size 75 1 v' (L ++ [1]).length ((L ++ [1]).map (wd .u32)) := by
       rw [hL, hLk, List.map_append]; exact hown'
      have H_hown1 := hid hown1; have H_hf1 := hid hf1; clear hown1 hf1
      clear hown' hgrow hown2
      go_wp2_with (fail)
      go_roundw
      case rel => exact ⟨k + 1, 0, L ++ [1], by omega, by simp, rfl, H_hc9.out, by have := H_hM.out; omega, H_hown1.out, hid (hlim.out.append (Lim.one H_hq9.out)), hid (by rw [hL, hLk]), H_hstep, H_hnx2, H_hf1⟩
      case measure => simp [intOf]; omega
  have hex : n ≤ k ∧ m ≤ k ∧ c = 0 := by omega
  obtain ⟨hk1, hk2, rfl⟩ := hex
  have t1 : decide ((k : Int) < (n : Int)) = false := by simp; omega
  have t1n : ¬ k < n := by omega
  have t2 : decide ((k : Int) < (m : Int)) = false := by simp; omega
  have t2n : ¬ k < m := by omega
  have hv : sval L = sval xs + sval ys := by
   have hv := hval.out
   rw [List.take_of_length_le (by have := H_hn.out; omega), List.take_of_length_le (by have := H_hmm.out; omega)] at hv
   omega
  have hnl : Norm L := H_hend.out k L hlim.out hLk hv hbig.out (by have := H_hM.out; omega)
  have hs := SNat.of_owns H_hown.out hlim.out (by omega)
  clear hown2 hstep hval hbig ht hd hq9 hc9 hxx hyy hxlim hylim
  have H_hnl := hid hnl; have H_hs := hid hs; have H_hv := hid hv; clear hnl hs hv
  go_wp2_with (fail)
  go_ret
  exact ⟨_, L, rfl, H_hs.out, H_hnl.out, H_hv.out, hfr.out⟩

theorem NatSub_any (xv yv : Value) (xs ys : List Nat) (w : World) (hx : SNat w xv xs) (hy : SNat w yv ys) (hm : ys.length ≤ xs.length) (hle : sval ys ≤ sval xs) (hlen : xs.length ≤ 100000) :
 Calls Tryz.prog 105 #[xv, yv] w (SRet w (sval xs - sval ys)) := by
 obtain ⟨i0, hi, hz0, hz1, hz2⟩ := info_parts info_u32
 obtain ⟨ax, cx, rfl⟩ := hx.form
 obtain ⟨ay, cy, rfl⟩ := hy.form
 obtain ⟨n, hn⟩ : ∃ n, n = xs.length := ⟨_, rfl⟩
 obtain ⟨m, hmm⟩ : ∃ m, m = ys.length := ⟨_, rfl⟩
 rw [← hn] at hlen hm hx ⊢
 rw [← hmm] at hm hy ⊢
 have H_hx := hid hx; have H_hy := hid hy; have H_hn := hid hn; have H_hmm := hid hmm; have H_hle := hid hle; clear hx hy hn hmm hle
 go_enter Tryz.func105, Tryz.ntmps105
 go_wp2_with (fail)
 go_loopw [5, 6, 12] (fun o b i wr => ∃ (k br : Nat) (L : List Nat), k ≤ n ∧ i = .int .i64 k ∧ b = .int .u32 br ∧ br ≤ 1 ∧ wr.ownsRow w.heap.size 75 1 o L.length (L.map (wd .u32)) ∧ Hid (Lim L) ∧ Hid (L.length = k) ∧ Hid (sval (xs.take k) + spow k * br = sval L + sval (ys.take k)) ∧ Hid (Fresh w wr)) (fun _ _ i _ => n - (intOf i).toNat)
 case atStart => exact ⟨0, 0, [], by omega, rfl, rfl, by omega, World.ownsRow_nil _ _ _ _, Lim.nil, hid rfl, hid (by simp [sval]), Keep.refl _ _⟩
 case round =>
  obtain ⟨k, br, L, hk, rfl, rfl, hbr, hown, hlim, hLl, hval, hfr⟩ := hrel
  have H_hown := hid hown
  clear hown
  by_cases hlt : k < n
  · obtain ⟨gx, rfl, hcx, hgx, hcells⟩ := (H_hx.out.fresh hfr.out).cells H_hn.out (by omega)
    have hxk := hcells k hlt
    have hxlim := H_hx.out.lim.getD k
    have hylim := H_hy.out.lim.getD k
    have hstep0 := fun (q : Nat) (hb : br + ys.getD k 0 ≤ xs.getD k 0) (e : q = xs.getD k 0 - (br + ys.getD k 0)) => sub_step0 (y := ys.getD k 0) (x := xs.getD k 0) hval.out hb
    have hstep1 := fun (q : Nat) (hb : br + ys.getD k 0 ≤ xs.getD k 0 + 1000000000) (e : q = xs.getD k 0 + 1000000000 - (br + ys.getD k 0)) => sub_step1 (y := ys.getD k 0) (x := xs.getD k 0) hval.out hb
    rw [← sval_take_succ' xs k, ← sval_take_succ' ys k, ← spow_succ] at hstep0 hstep1
    have hLk := hLl.out
    obtain ⟨x, hxx⟩ : ∃ x, x = xs.getD k 0 := ⟨_, rfl⟩
    obtain ⟨y, hyy⟩ : ∃ y, y = ys.getD k 0 := ⟨_, rfl⟩
    rw [← hxx] at hxk hxlim hstep0 hstep1
    rw [← hyy] at hylim hstep0 hstep1
    have hlt' : (k : Int) < (n : Int) := by omega
    have t1 : decide ((k : Int) < (n : Int)) = true := by simp; omega
    have hsz := hfr.out.size
    obtain ⟨d, hd⟩ : ∃ d, d = br + y := ⟨_, rfl⟩
    rw [← hd] at hstep0 hstep1
    have H_hcells := hid hcells; have H_hxx := hid hxx; clear hcells hxx
    by_cases hkm : k < m
    · obtain ⟨gy, rfl, hcy, hgy, hcells⟩ := (H_hy.out.fresh hfr.out).cells H_hmm.out (by omega)
      have hyk := hcells k hkm
      rw [← hyy] at hyk
      have hkm' : (k : Int) < (m : Int) := by omega
      have t2 : decide ((k : Int) < (m : Int)) = true := by simp; omega
      have hdI : (br : Int) + (y : Int) = (d : Int) := by omega
      have hd9 : d ≤ 1000000000 := by omega
      clear hd
      have H_hcells := hid hcells; have H_hyy := hid hyy; clear hcells hyy
      by_cases hxd : x < d
      · obtain ⟨q, hq⟩ : ∃ q, q = x + 1000000000 - d := ⟨_, rfl⟩
        have hstep := hstep1 q (by omega) hq
        rw [← hq] at hstep
        clear hstep0 hstep1
        have t3 : decide ((x : Int) < (d : Int)) = true := by simp; omega
        have hqI : (x : Int) + 1000000000 - (d : Int) = (q : Int) := by omega
        have hq9 : q < 1000000000 := by omega
        have hown2 := H_hown.out
        rw [hLk] at hown2
        have H_hstep := hid hstep; clear hstep
        clear hq
        go_wp2_with (at_builtin; refine wpList_append_own _ rfl _ _ 26 rfl w.heap.size 75 i0 (.int .u32 0) 1 4 Tryz.underlying26 hi hz0 hz1 hz2 rfl (by decide) _ _ _ rfl (hown2.alloc _) ⟨wr.heap.size, 0, none⟩ 1 1 [Value.int .u32 (q : Int)] rfl rfl ?c1 ?c2 ?c3 ?c4 ?c5 ?_)
        case c1 =>
         intro j u hj
         match j, hj with
         | 0, hj => simp at hj; subst hj; simp [Addr.add]
        case c2 => intro u hu; simp at hu; subst hu; rfl
        case c3 => unfold maxLen; omega
        case c4 => omega
        case c5 => simp; omega
        · intro v' w1 hown' hgrow _
          have hf1 : Fresh w w1 := Fresh.owns (hfr.out.alloc _) (H_hown.out.alloc _) (Nat.le_refl _) hgrow
          have hL : (L ++ [q]).length = L.length + 1 := by simp
          have hown1 : w1.ownsRow w.heap.size 75 1 v' (L ++ [q]).length ((L ++ [q]).map (wd .u32)) := by
           rw [hL, hLk, List.map_append]; exact hown'
          have H_hown1 := hid hown1; have H_hf1 := hid hf1; clear hown1 hf1
          clear hown' hgrow hown2
          go_wp2_with (fail)
          go_roundw
          case rel => exact ⟨k + 1, 1, L ++ [q], by omega, by simp, rfl, by omega, H_hown1.out, hid (hlim.out.append (Lim.one hq9)), hid (by rw [hL, hLk]), hid (by have h9 := H_hstep.out; rw [sval_append, hLk]; simpa [sval] using h9), H_hf1⟩
          case measure => simp [intOf]; omega
      · obtain ⟨q, hq⟩ : ∃ q, q = x - d := ⟨_, rfl⟩
        have hstep := hstep0 q (by omega) hq
        rw [← hq] at hstep
        clear hstep0 hstep1
        have t3 : decide ((x : Int) < (d : Int)) = false := by simp; omega
        have hqI : (x : Int) - (d : Int) = (q : Int) := by omega
        have hq9 : q < 1000000000 := by omega
        have hown2 := H_hown.out
        rw [hLk] at hown2
        have H_hstep := hid hstep; clear hstep
        clear hq
        go_wp2_with (at_builtin; refine wpList_append_own _ rfl _ _ 26 rfl w.heap.size 75 i0 (.int .u32 0) 1 4 Tryz.underlying26 hi hz0 hz1 hz2 rfl (by decide) _ _ _ rfl (hown2.alloc _) ⟨wr.heap.size, 0, none⟩ 1 1 [Value.int .u32 (q : Int)] rfl rfl ?c1 ?c2 ?c3 ?c4 ?c5 ?_)
        case c1 =>
         intro j u hj
         match j, hj with
         | 0, hj => simp at hj; subst hj; simp [Addr.add]
        case c2 => intro u hu; simp at hu; subst hu; rfl
        case c3 => unfold maxLen; omega
        case c4 => omega
        case c5 => simp; omega
        · intro v' w1 hown' hgrow _
          have hf1 : Fresh w w1 := Fresh.owns (hfr.out.alloc _) (H_hown.out.alloc _) (Nat.le_refl _) hgrow
          have hL : (L ++ [q]).length = L.length + 1 := by simp
          have hown1 : w1.ownsRow w.heap.size 75 1 v' (L ++ [q]).length ((L ++ [q]).map (wd .u32)) := by
           rw [hL, hLk, List.map_append]; exact hown'
          have H_hown1 := hid hown1; have H_hf1 := hid hf1; clear hown1 hf1
          clear hown' hgrow hown2
          go_wp2_with (fail)
          go_roundw
          case rel => exact ⟨k + 1, 0, L ++ [q], by omega, by simp, rfl, by omega, H_hown1.out, hid (hlim.out.append (Lim.one hq9)), hid (by rw [hL, hLk]), hid (by have h9 := H_hstep.out; rw [sval_append, hLk]; simpa [sval] using h9), H_hf1⟩
          case measure => simp [intOf]; omega
    · have hy0 : y = 0 := by
       have hml := H_hmm.out
       rw [hyy]; simp [List.getD, List.getElem?_eq_none (show ys.length ≤ k by omega)]
      have t2 : decide ((k : Int) < (m : Int)) = false := by simp; omega
      have hdb : br = d := by omega
      subst hdb
      clear hd
      have hyy' := hyy
      clear hyy hy0 hylim
      have H_hyy := hid hyy'
      clear hyy'
      by_cases hxd : x < br
      · obtain ⟨q, hq⟩ : ∃ q, q = x + 1000000000 - br := ⟨_, rfl⟩
        have hstep := hstep1 q (by omega) hq
        rw [← hq] at hstep
        clear hstep0 hstep1
        have t3 : decide ((x : Int) < (br : Int)) = true := by simp; omega
        have hqI : (x : Int) + 1000000000 - (br : Int) = (q : Int) := by omega
        have hq9 : q < 1000000000 := by omega
        have hown2 := H_hown.out
        rw [hLk] at hown2
        have H_hstep := hid hstep; clear hstep
        clear hq
        go_wp2_with (at_builtin; refine wpList_append_own _ rfl _ _ 26 rfl w.heap.size 75 i0 (.int .u32 0) 1 4 Tryz.underlying26 hi hz0 hz1 hz2 rfl (by decide) _ _ _ rfl (hown2.alloc _) ⟨wr.heap.size, 0, none⟩ 1 1 [Value.int .u32 (q : Int)] rfl rfl ?c1 ?c2 ?c3 ?c4 ?c5 ?_)
        case c1 =>
         intro j u hj
         match j, hj with
         | 0, hj => simp at hj; subst hj; simp [Addr.add]
        case c2 => intro u hu; simp at hu; subst hu; rfl
        case c3 => unfold maxLen; omega
        case c4 => omega
        case c5 => simp; omega
        · intro v' w1 hown' hgrow _
          have hf1 : Fresh w w1 := Fresh.owns (hfr.out.alloc _) (H_hown.out.alloc _) (Nat.le_refl _) hgrow
          have hL : (L ++ [q]).length = L.length + 1 := by simp
          have hown1 : w1.ownsRow w.heap.size 75 1 v' (L ++ [q]).length ((L ++ [q]).map (wd .u32)) := by
           rw [hL, hLk, List.map_append]; exact hown'
          have H_hown1 := hid hown1; have H_hf1 := hid hf1; clear hown1 hf1
          clear hown' hgrow hown2
          go_wp2_with (fail)
          go_roundw
          case rel => exact ⟨k + 1, 1, L ++ [q], by omega, by simp, rfl, by omega, H_hown1.out, hid (hlim.out.append (Lim.one hq9)), hid (by rw [hL, hLk]), hid (by have h9 := H_hstep.out; rw [sval_append, hLk]; simpa [sval] using h9), H_hf1⟩
          case measure => simp [intOf]; omega
      · obtain ⟨q, hq⟩ : ∃ q, q = x - br := ⟨_, rfl⟩
        have hstep := hstep0 q (by omega) hq
        rw [← hq] at hstep
        clear hstep0 hstep1
        have t3 : decide ((x : Int) < (br : Int)) = false := by simp; omega
        have hqI : (x : Int) - (br : Int) = (q : Int) := by omega
        have hq9 : q < 1000000000 := by omega
        have hown2 := H_hown.out
        rw [hLk] at hown2
        have H_hstep := hid hstep; clear hstep
        clear hq
        go_wp2_with (at_builtin; refine wpList_append_own _ rfl _ _ 26 rfl w.heap.size 75 i0 (.int .u32 0) 1 4 Tryz.underlying26 hi hz0 hz1 hz2 rfl (by decide) _ _ _ rfl (hown2.alloc _) ⟨wr.heap.size, 0, none⟩ 1 1 [Value.int .u32 (q : Int)] rfl rfl ?c1 ?c2 ?c3 ?c4 ?c5 ?_)
        case c1 =>
         intro j u hj
         match j, hj with
         | 0, hj => simp at hj; subst hj; simp [Addr.add]
        case c2 => intro u hu; simp at hu; subst hu; rfl
        case c3 => unfold maxLen; omega
        case c4 => omega
        case c5 => simp; omega
        · intro v' w1 hown' hgrow _
          have hf1 : Fresh w w1 := Fresh.owns (hfr.out.alloc _) (H_hown.out.alloc _) (Nat.le_refl _) hgrow
          have hL : (L ++ [q]).length = L.length + 1 := by simp
          have hown1 : w1.ownsRow w.heap.size 75 1 v' (L ++ [q]).length ((L ++ [q]).map (wd .u32)) := by
           rw [hL, hLk, List.map_append]; exact hown'
          have H_hown1 := hid hown1; have H_hf1 := hid hf1; clear hown1 hf1
          clear hown' hgrow hown2
          go_wp2_with (fail)
          go_roundw
          case rel => exact ⟨k + 1, 0, L ++ [q], by omega, by simp, rfl, by omega, H_hown1.out, hid (hlim.out.append (Lim.one hq9)), hid (by rw [hL, hLk]), hid (by have h9 := H_hstep.out; rw [sval_append, hLk]; simpa [sval] using h9), H_hf1⟩
          case measure => simp [intOf]; omega
  · obtain rfl : k = n := by omega
    have t1 : decide ((k : Int) < (k : Int)) = false := by simp
    have hs := SNat.of_owns H_hown.out hlim.out (by have := hLl.out; omega)
    obtain ⟨ao, co, rfl⟩ := hs.form
    have hcall := natTrim_any _ _ _ hs
    have H_hcall := hid hcall; clear hcall
    clear hs
    go_wp2_with (fail)
    refine H_hcall.out.mono ?_
    rintro e w2 ⟨v, l, rfl, h1, h2, h3, h4⟩
    have H_h1 := hid h1; have H_h2 := hid h2; have H_h3 := hid h3; have H_h4 := hid h4; clear h1 h2 h3 h4
    go_wp2_with (fail)
    go_ret
    refine ⟨_, l, rfl, H_h1.out, H_h2.out, ?_, ftr hfr.out H_h4.out⟩
    have hv := hval.out
    have hlt2 := sval_lt hlim.out
    rw [hLl.out] at hlt2
    rw [List.take_of_length_le (by have := H_hn.out; omega), List.take_of_length_le (by have := H_hmm.out; omega)] at hv
    have hl := H_hle.out
    have hb0 : br = 0 := by
     rcases Nat.eq_zero_or_pos br with h | h
     · exact h
     · obtain rfl : br = 1 := by omega
       omega
    subst hb0
    rw [H_h3.out]
    omega

theorem sval_top {l : List Nat} {k : Nat} (hl : Lim l) (h : l.length = k + 1) : l.getD k 0 * spow k ≤ sval l ∧ sval l < (l.getD k 0 + 1) * spow k := by
 have e := sval_take_succ (l := l) (k := k) (by omega)
 rw [← h, List.take_length] at e
 have h2 := sval_lt (hl.take k)
 rw [List.length_take, Nat.min_eq_left (by omega)] at h2
 rw [Nat.mul_comm (spow k)] at e
 rw [Nat.add_mul]
 omega

theorem sval_top2 {l : List Nat} {k : Nat} (hl : Lim l) (h : l.length = k + 1 + 1) : sval l < (l.getD k 0 + l.getD (k + 1) 0 * 1000000000 + 1) * spow k := by
 have e := sval_take_succ (l := l) (k := k + 1) (by omega)
 rw [← h, List.take_length] at e
 have e2 := sval_take_succ (l := l) (k := k) (by omega)
 have h2 := sval_lt (hl.take k)
 rw [List.length_take, Nat.min_eq_left (by omega)] at h2
 rw [e2, spow_succ] at e
 rw [e]
 generalize sval (l.take k) = a at *
 generalize l.getD k 0 = b at *
 generalize l.getD (k + 1) 0 = c at *
 have : (b + c * 1000000000 + 1) * spow k = spow k * b + 1000000000 * spow k * c + spow k := by
  rw [Nat.add_mul, Nat.add_mul, Nat.one_mul, Nat.mul_comm b, Nat.mul_comm c, Nat.mul_assoc, Nat.mul_assoc, Nat.mul_comm c]
 omega

theorem natGuess_any (rv yv : Value) (rs ys : List Nat) (w : World) (hr : SNat w rv rs) (hy : SNat w yv ys) (hny : Norm ys) (hnr : Norm rs) (hy0 : 0 < ys.length) (hlen : ys.length ≤ 100000) (hlt : sval rs < 1000000000 * sval ys) :
 Calls Tryz.prog 104 #[rv, yv] w (fun e w' => ∃ d : Nat, e = .returned (.int .u64 d) ∧ sval rs / sval ys ≤ d ∧ d ≤ 999999999 ∧ Fresh w w') := by
 obtain ⟨ar, cr, rfl⟩ := hr.form
 obtain ⟨ay, cy, rfl⟩ := hy.form
 obtain ⟨k, hk⟩ : ∃ k, ys.length = k + 1 := ⟨ys.length - 1, by omega⟩
 have hrl : rs.length ≤ k + 2 := hnr.s_len_le (by
  have h1 := sval_lt hy.lim
  rw [hk] at h1
  rw [spow_succ]; omega)
 have hyt := sval_top hy.lim hk
 have hyt0 : 0 < ys.getD k 0 := by have := hny k hk; omega
 have hytl := hy.lim.getD k
 obtain ⟨yt, hyte⟩ : ∃ yt, yt = ys.getD k 0 := ⟨_, rfl⟩
 rw [← hyte] at hyt hyt0 hytl
 obtain ⟨n, hn⟩ : ∃ n, n = ys.length := ⟨_, rfl⟩
 obtain ⟨m, hm⟩ : ∃ m, m = rs.length := ⟨_, rfl⟩
 rw [← hn] at hk hlen hy0 hy ⊢
 rw [← hm] at hrl hr ⊢
 subst hk
 obtain ⟨gy, rfl, hcy, hgy, hcells⟩ := hy.cells hn (by omega)
 have hyk := hcells k (by omega)
 rw [← hyte] at hyk
 clear hcells
 have hk1 : (((k + 1 : Nat) : Int)) - 1 = (k : Int) := by omega
 have hk2 : ((k : Int) + 1) - 1 = (k : Int) := by omega
 have t0 : ((yt : Int) == 0) = false := by rw [beq_eq_false_iff_ne]; omega
 have hytN : ¬ yt = 0 := by omega
 rcases Nat.lt_or_ge m (k + 1) with hmk | hmk
 · have t1 : decide ((m : Int) < (k : Int) + 1) = true := by simp; omega
   have hz : sval rs / sval ys ≤ 0 := by
    have h1 := sval_lt hr.lim
    rw [← hm] at h1
    have h2 := spow_mono (m := m) (n := k) (by omega)
    have h3 : 1 * spow k ≤ yt * spow k := Nat.mul_le_mul_right _ hyt0
    rw [Nat.div_eq_of_lt (by omega)]; omega
   clear hyt hyte hlt
   have H_hr := hid hr; have H_hy := hid hy; have H_hny := hid hny; have H_hnr := hid hnr; have H_hz := hid hz; have H_hn := hid hn; have H_hm := hid hm; clear hr hy hny hnr hz hn hm
   go_enter Tryz.func104, Tryz.ntmps104
   go_wp2
   go_ret
   exact ⟨0, rfl, H_hz.out, by omega, Keep.refl _ _⟩
 · have t1 : decide ((m : Int) < (k : Int) + 1) = false := by simp; omega
   obtain ⟨gr, rfl, hcr, hgr, hrc⟩ := hr.cells hm (by omega)
   have hrk := hrc k (by omega)
   have hrlim := hr.lim.getD k
   rcases Nat.eq_or_lt_of_le hmk with hmk2 | hmk2
   · have t2 : decide ((k : Int) + 1 < (m : Int)) = false := by simp; omega
     obtain ⟨top, htop⟩ : ∃ top, top = rs.getD k 0 := ⟨_, rfl⟩
     have hrt := (sval_top hr.lim (show rs.length = k + 1 by omega)).2
     rw [← htop] at hrk hrlim hrt
     have hg := guess_ge hrt hyt.1 hyt0 hlt
     have hdiv : Int.tdiv (top : Int) (yt : Int) = ((top / yt : Nat) : Int) := by rw [Int.tdiv_eq_ediv_of_nonneg (by omega)]; rfl
     have hqle : top / yt ≤ top := Nat.div_le_self _ _
     generalize top / yt = q at *
     clear hyt hyte hlt hrt htop hrc
     subst hmk2
     have H_hr := hid hr; have H_hy := hid hy; have H_hny := hid hny; have H_hnr := hid hnr; have H_hg := hid hg; have H_hn := hid hn; have H_hm := hid hm; clear hr hy hny hnr hg hn hm
     go_enter Tryz.func104, Tryz.ntmps104
     go_wp2
     all_goals go_ret
     all_goals first
      | exact ⟨q, rfl, Nat.le_trans H_hg.out (Nat.min_le_left _ _), by omega, Keep.refl _ _⟩
      | exact ⟨999999999, rfl, Nat.le_trans H_hg.out (Nat.min_le_right _ _), by omega, Keep.refl _ _⟩
   · obtain rfl : m = k + 1 + 1 := by omega
     have t2 : decide ((k : Int) + 1 < (k : Int) + 1 + 1) = true := by simp; omega
     have hrk1 := hrc (k + 1) (by omega)
     have hrlim1 := hr.lim.getD (k + 1)
     have hrt := sval_top2 hr.lim hm.symm
     obtain ⟨a, ha⟩ : ∃ a, a = rs.getD k 0 := ⟨_, rfl⟩
     obtain ⟨b, hb⟩ : ∃ b, b = rs.getD (k + 1) 0 := ⟨_, rfl⟩
     rw [← ha] at hrk hrlim hrt
     rw [← hb] at hrk1 hrlim1 hrt
     obtain ⟨top, htop⟩ : ∃ top, top = a + b * 1000000000 := ⟨_, rfl⟩
     rw [← htop] at hrt
     have htI : (a : Int) + (b : Int) * 1000000000 = (top : Int) := by omega
     have htl : top < 1000000000000000000 := by omega
     have hg := guess_ge hrt hyt.1 hyt0 hlt
     have hdiv : Int.tdiv (top : Int) (yt : Int) = ((top / yt : Nat) : Int) := by rw [Int.tdiv_eq_ediv_of_nonneg (by omega)]; rfl
     have hqle : top / yt ≤ top := Nat.div_le_self _ _
     generalize top / yt = q at *
     clear hyt hyte hlt hrt hrc ha hb htop
     have H_hr := hid hr; have H_hy := hid hy; have H_hny := hid hny; have H_hnr := hid hnr; have H_hg := hid hg; have H_hn := hid hn; have H_hm := hid hm; clear hr hy hny hnr hg hn hm
     go_enter Tryz.func104, Tryz.ntmps104
     go_wp2
     all_goals go_ret
     all_goals first
      | exact ⟨q, rfl, Nat.le_trans H_hg.out (Nat.min_le_left _ _), by omega, Keep.refl _ _⟩
      | exact ⟨999999999, rfl, Nat.le_trans H_hg.out (Nat.min_le_right _ _), by omega, Keep.refl _ _⟩

theorem len_le_of {ys ps : List Nat} (hn : Norm ys) (hl : Lim ps) (h : sval ys ≤ sval ps) : ys.length ≤ ps.length :=
 hn.s_len_le (Nat.lt_of_le_of_lt h (sval_lt hl))

def QRet (w : World) (q r : Nat) (e : Ending) (w' : World) : Prop :=
 ∃ qv rv ql rl, e = .returned (.tuple #[qv, rv]) ∧ SNat w' qv ql ∧ Norm ql ∧ sval ql = q ∧ SNat w' rv rl ∧ Norm rl ∧ sval rl = r ∧ Fresh w w'

theorem lit_owns (w : World) (L : List Nat) (T : TypeId) (h : L.length ≤ 1000000) : (w.alloc (.cells (L.map (wd .u32)).toArray T)).ownsRow w.heap.size T 1 (.slice (some ⟨w.heap.size, 0, none⟩) L.length L.length) L.length (L.map (wd .u32)) := by
 refine ⟨by simp, .inr ⟨w.heap.size, L.length, _, rfl, Nat.le_refl _, heap_alloc_new w _, Nat.le_refl _, by unfold maxLen; omega, by simp, ?_⟩⟩
 rw [Nat.mul_one]
 exact List.take_of_length_le (by simp)

theorem NatDiv_less (av bv : Value) (al bl : List Nat) (w : World) (ha : SNat w av al) (hb : SNat w bv bl) (hna : Norm al) (hnb : Norm bl) (hlen : al.length ≤ 1000) (hlt : sval al < sval bl) :
 Calls Tryz.prog 51 #[av, bv] w (QRet w 0 (sval al)) := by
 obtain ⟨i0, hi, hz0, hz1, hz2⟩ := info_parts info_u32
 obtain ⟨ab, cb, rfl⟩ := hb.form
 have hcmp := NatCmp_any av (.slice ab bl.length cb) al bl w ha hb hna hnb
 rw [cmpN_lt hlt] at hcmp
 generalize bl.length = nb at *
 rcases ha.2.2 with ⟨rfl, rfl⟩ | ⟨ga, cap, cur, T, rfl, hga, h1, h2, h3, h4⟩
 · clear ha hb hna hnb hlt
   have H_hcmp := hid hcmp; clear hcmp
   go_enter Tryz.func51, Tryz.ntmps51
   go_wp2_with (fail)
   refine H_hcmp.out.mono ?_
   rintro e w2 ⟨rfl, nq, hnq⟩
   have hf : Fresh w w2 := by rw [hnq]; exact (Keep.refl _ _).drewN nq
   clear hnq
   have H_hf := hid hf
   clear hf
   go_wp2_with (fail)
   go_ret2
   have ho := lit_owns w2 [] 75 (by simp)
   exact ⟨_, _, [], [], rfl, SNat.nil _, Norm.nil, rfl, SNat.of_owns ho Lim.nil (by simp), Norm.nil, rfl, ftr H_hf.out ((Keep.refl _ _).alloc _)⟩
 · have hcl : ∀ W, Fresh w W → ∀ j u, (al.map (wd .u32))[j]? = some u → W.cell? ((⟨ga, 0, none⟩ : Addr).add j) = some u := fun W hW j u hj => by
    have hj' : j < al.length := by
     have := (List.getElem?_eq_some_iff.1 hj).1
     simpa using this
    have h5 := (ha.fresh hW).open_pos (by omega)
    obtain ⟨g', cap', he, _, _, _, hc⟩ := h5
    cases he
    have h6 := hc j hj'
    have h7 : ((⟨ga, 0, none⟩ : Addr).add j) = ⟨ga, j, none⟩ := by simp [Addr.add]; intro h; simp [h]
    rw [h7, h6, ← hj]
    simp [List.getD, hj']
   have hal := ha.lim
   obtain ⟨n, hn⟩ : ∃ n, n = al.length := ⟨_, rfl⟩
   rw [← hn] at hcmp hlen h1 ⊢
   clear ha hb hlt hga h1 h2 h3 h4
   have H_hcmp := hid hcmp; have H_hcl := hid hcl; have H_hna := hid hna; have H_hnb := hid hnb; have H_hal := hid hal; have H_hn := hid hn; clear hcmp hcl hna hnb hal hn
   go_enter Tryz.func51, Tryz.ntmps51
   go_wp2_with (fail)
   refine H_hcmp.out.mono ?_
   rintro e w2 ⟨rfl, nq, hnq⟩
   have hf : Fresh w w2 := by rw [hnq]; exact (Keep.refl _ _).drewN nq
   clear hnq
   have hcl2 := H_hcl.out _ (hf.alloc (.cells #[] 75))
   have ho := lit_owns w2 [] 75 (by simp)
   have H_hf := hid hf
   clear hf
   have H_hcl2 := hid hcl2
   clear hcl2
   go_wp2_with (at_builtin; refine wpList_append_own _ rfl _ _ 26 rfl w2.heap.size 75 i0 (.int .u32 0) 1 4 Tryz.underlying26 hi hz0 hz1 hz2 rfl (by decide) _ _ _ rfl ho ⟨ga, 0, none⟩ n cap (al.map (wd .u32)) rfl (by rw [List.length_map, ← H_hn.out, Nat.mul_one]) H_hcl2.out ?c2 ?c3 ?c4 ?c5 ?_)
   case c2 => intro u hu; simp at hu; obtain ⟨_, _, rfl⟩ := hu; rfl
   case c3 => unfold maxLen; simp; omega
   case c4 => simp; omega
   case c5 => simp
   · intro v' w1 hown' hgrow _
     have hf1 : Fresh w2 w1 := Fresh.owns ((Keep.refl _ _).alloc _) ho (Nat.le_refl _) hgrow
     have hs : SNat w1 v' al := SNat.of_owns (by simpa using hown') H_hal.out (by have := H_hn.out; omega)
     have H_hs := hid hs; have H_hf1 := hid hf1; clear hs hf1
     clear hown' hgrow ho
     go_wp2_with (fail)
     go_ret2
     exact ⟨_, _, [], al, rfl, SNat.nil _, Norm.nil, rfl, H_hs.out, H_hna.out, rfl, ftr H_hf.out H_hf1.out⟩

theorem NatDiv_one (av bv : Value) (al : List Nat) (b : Nat) (w : World) (ha : SNat w av al) (hb : SNat w bv [b]) (hna : Norm al) (hb0 : 0 < b) (hlen : al.length ≤ 1000) (hge : b ≤ sval al) :
 Calls Tryz.prog 51 #[av, bv] w (QRet w (sval al / b) (sval al % b)) := by
 obtain ⟨aa, ca, rfl⟩ := ha.form
 obtain ⟨ab, cb, rfl⟩ := hb.form
 have hbl : b < 1000000000 := hb.lim b (by simp)
 have hnb : Norm [b] := norm_snoc (l := []) hb0
 have hcmp := NatCmp_any (.slice aa al.length ca) (.slice ab [b].length cb) al [b] w ha hb hna hnb
 obtain ⟨r, hr⟩ : ∃ r, r = cmpN (sval al) (sval [b]) := ⟨_, rfl⟩
 have hr0 : ¬ r < 0 := by
  rw [hr]; unfold cmpN
  have : sval [b] = b := by simp [sval]
  rw [this, if_neg (by omega)]
  split <;> omega
 rw [← hr] at hcmp
 have t0 : decide (r < 0) = false := by simp; omega
 have hshort := fun W (hW : Fresh w W) => natShort_any (.slice aa al.length ca) al b W (ha.fresh hW) (by omega) hb0 (by omega)
 obtain ⟨gb, rfl, hcb, hgb, hcells⟩ := hb.cells (n := 1) rfl (by omega)
 have hc0 := hcells 0 (by omega)
 have e0 : [b].getD 0 0 = b := rfl
 rw [e0] at hc0
 have e1 : [b].length = 1 := rfl
 rw [e1] at hcmp ⊢
 generalize al.length = n at *
 clear hr hcells ha hb e0 e1
 have H_hcmp := hid hcmp; have H_hshort := hid hshort; have H_hna := hid hna; have H_hnb := hid hnb; have H_hge := hid hge; clear hcmp hshort hna hnb hge
 go_enter Tryz.func51, Tryz.ntmps51
 go_wp2_with (fail)
 refine H_hcmp.out.mono ?_
 rintro e w2 ⟨rfl, nq, hnq⟩
 have hf : Fresh w w2 := by rw [hnq]; exact (Keep.refl _ _).drewN nq
 clear hnq
 have k0 := cfr hc0 hf
 clear hc0
 have H_hf := hid hf; clear hf
 go_wp2_with (fail)
 refine (H_hshort.out _ H_hf.out).mono ?_
 rintro e w3 ⟨q, m, rfl, m1, m2, m3, m4⟩
 obtain ⟨aq, cq, rfl⟩ := m1.form
 have hrl := Nat.mod_lt (sval al) hb0
 have f3 := ftr H_hf.out m4
 obtain ⟨rr, hrr⟩ : ∃ rr, rr = sval al % b := ⟨_, rfl⟩
 rw [← hrr] at hrl ⊢
 clear k0
 have H_m1 := hid m1; have H_m2 := hid m2; have H_m3 := hid m3; have H_m4 := hid m4; have H_f3 := hid f3; have H_hrr := hid hrr; clear m1 m2 m3 m4 f3 hrr
 go_wp2_with (fail)
 refine (NatFrom_any rr _ (by omega)).mono ?_
 rintro e w4 ⟨v, l, rfl, r1, r2, r3, r4⟩
 have m5 := H_m1.out.fresh r4
 have f4 := ftr H_f3.out r4
 have H_r1 := hid r1; have H_r2 := hid r2; have H_r3 := hid r3; have H_r4 := hid r4; have H_m5 := hid m5; have H_f4 := hid f4; clear r1 r2 r3 r4 m5 f4
 go_wp2_with (fail)
 go_ret2
 exact ⟨_, _, m, l, rfl, H_m5.out, H_m2.out, H_m3.out, H_r1.out, H_r2.out, H_r3.out.trans H_hrr.out, H_f4.out⟩

end Go.Proofs.YtllencgncinphaaGreatDoor
