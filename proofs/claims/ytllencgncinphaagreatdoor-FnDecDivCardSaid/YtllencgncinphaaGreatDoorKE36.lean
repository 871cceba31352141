/- The contract of the thin package: digits: an integer of math/big as its digits. -/
import Derived.Test.YtllencgncinphaaGreatDoorKE12
import Derived.Test.YtllencgncinphaaGreatDoorKE34
import Derived.Test.YtllencgncinphaaGreatDoorKE35
namespace Go.Proofs.YtllencgncinphaaGreatDoor
open Go.RowKit
open Go.Lib (hid)
set_option maxRecDepth 20000
set_option maxHeartbeats 4000000

def sliceLen : Value → Nat
 | .slice _ n _ => n
 | _ => 0

theorem dig_bound {B : List Nat} {V X p : Nat} (h : dval B + 10 ^ B.length * X = V) (hX : 0 < X) (hV : V < 10 ^ p) : B.length < p := by
 have h1 : 10 ^ B.length * 1 ≤ 10 ^ B.length * X := Nat.mul_le_mul_left _ hX
 have h2 : 10 ^ B.length < 10 ^ p := by omega
 exact (Nat.pow_lt_pow_iff_right (by omega)).1 h2

theorem dig_round {B B' H M : List Nat} {V nn j : Nat} (hV : dval B + 10 ^ B.length * hv H = V) (hH : hv H = nn + 1000000000 * hv M) (hB : dval B' = dval B + 10 ^ B.length * (nn % 10 ^ j)) (hl : B'.length = B.length + j) (hn : nn < 10 ^ j) (hj : M = [] ∨ j = 9) :
 dval B' + 10 ^ B'.length * hv M = V := by
 rw [hB, hl, Nat.mod_eq_of_lt hn, Nat.pow_add, ← hV, hH, Nat.mul_add, Nat.add_assoc]
 congr 2
 rcases hj with rfl | rfl
 · simp [hv]
 · rw [Nat.mul_assoc]

theorem dig_top {B H M : List Nat} {V nn j : Nat} (hV : dval B + 10 ^ B.length * hv H = V) (hH : hv H = nn + 1000000000 * hv M) (hj : 0 < j) (hn : 10 ^ (j - 1) ≤ nn) : 10 ^ (B.length + j - 1) ≤ V := by
 rw [show B.length + j - 1 = B.length + (j - 1) by omega, Nat.pow_add]
 have h1 : 10 ^ B.length * 10 ^ (j - 1) ≤ 10 ^ B.length * hv H := Nat.mul_le_mul_left _ (by omega)
 omega

theorem hv_pos_of_last {M : List Nat} {k : Nat} (hk : M.length = k + 1) (h : M.getD k 0 ≠ 0) : 0 < hv M := by
 have h1 := hv_take_succ (l := M) (k := k) (by omega)
 rw [List.take_of_length_le (by omega)] at h1
 have h2 : hpw k * 1 ≤ hpw k * M.getD k 0 := Nat.mul_le_mul_left _ (by omega)
 have h3 := hpw_pos k
 omega

theorem hv_trim {M : List Nat} {k : Nat} (hk : M.length = k + 1) (h : M.getD k 0 = 0) : hv (M.take k) = hv M := by
 have h1 := hv_take_succ (l := M) (k := k) (by omega)
 rw [List.take_of_length_le (by omega), h] at h1
 omega

theorem NumRow.sby {w : World} {base : Nat} {T : TypeId} {g n cap : Nat} {l : List Nat} (h : NumRow .u8 w base T (.slice (some ⟨g, 0, none⟩) n cap) l) (hl : ∀ x ∈ l, x < 256) : SBy w g l := by
 rcases h with ⟨h, _⟩ | ⟨g', cap', L, h0, h1, h2, h3, h4, h5, h6, h7⟩
 · cases h
 · simp only [Value.slice.injEq, Option.some.injEq, Addr.mk.injEq, and_true] at h0
   obtain ⟨rfl, rfl, rfl⟩ := h0
   refine ⟨hl, _, T, h2, by simp; omega, ?_⟩
   simp only []
   rw [← List.map_take, h6]

theorem digits_any (bx : Nat) (vx : Value) (z : Int) (p : Nat) (w : World) (hx : ZI w bx vx z) (hp : p ≤ 600) (hz : z.natAbs < 10 ^ p) :
 Calls Tryz.prog 93 #[.pointer (some ⟨bx, 0, none⟩)] w (fun e w' => e = .returned (.string (bstr (wdig z))) ∧ Fresh w w') := by
 obtain ⟨i0, hi, hi0, hi1, hi2⟩ := info_parts info_u64
 obtain ⟨j0, hj, hj0, hj1, hj2⟩ := info_parts info_u8
 obtain ⟨V, hV⟩ : ∃ V, V = z.natAbs := ⟨_, rfl⟩
 rw [← hV] at hz
 have hbits := Bits_any bx vx z
 have hsign := IntSign_z bx vx z
 have hxw := hx
 obtain ⟨sg, xl, hxi, hxz⟩ := hxw
 have hxn := hxi.nat
 have hval : val xl = V := by rw [hV, ← hxz, ival_abs]
 have hnx : xl.length ≤ 600 := by
  refine Nat.le_trans (hxi.norm.len_lt (k := p) (Nat.lt_of_lt_of_le (by rw [hval]; exact hz) ?_)) hp
  unfold wpow
  exact Nat.pow_le_pow_left (by omega) _
 obtain ⟨ax, cx, rfl⟩ := hxn.form
 obtain ⟨nx, hnxx⟩ : ∃ n, n = xl.length := ⟨_, rfl⟩
 rw [← hnxx] at hnx hxn hx hbits hsign
 have hxpos : 0 < xl.length → 0 < val xl := fun h => by
  rcases Nat.eq_zero_or_pos (val xl) with h1 | h1
  · have := val_nil_of hxi.norm h1; rw [this] at h; simp at h
  · exact h1
 have hbits' := fun W (hW : Fresh w W) => hbits W (hx.fresh hW)
 have hsign' := fun W (hW : Fresh w W) => hsign W (hx.fresh hW)
 have hxl := hxn.bnd
 clear hbits hsign hxi hxz
 have H_hbits' := hid hbits'; have H_hsign' := hid hsign'; have H_hxn := hid hxn; have H_hxl := hid hxl; have H_hval := hid hval; have H_hV := hid hV; have H_hz := hid hz; have H_hx := hid hx; have H_hnxx := hid hnxx; have H_hxpos := hid hxpos; clear hbits' hsign' hxn hxl hval hV hz hx hnxx hxpos
 go_enter Tryz.func93, Tryz.ntmps93
 go_wp2_with (fail)
 refine (H_hbits'.out _ (Keep.refl _ _)).mono ?_
 rintro e w1 ⟨rfl, hw1⟩
 obtain rfl : w = w1 := hw1.symm
 go_wp2_with (fail)
 go_loopw [3, 15] (fun lv kv wr => ∃ (r : Nat) (H : List Nat), kv = .int .i64 r ∧ r ≤ nx ∧ NumRow .u64 wr w.heap.size 99 lv H ∧ Hid (Half H) ∧ Hid (H.length = 2 * r) ∧ Hid (hv H = val (xl.take r)) ∧ Hid (Fresh w wr)) (fun _ kv _ => nx - (intOf kv).toNat)
 case atStart => exact ⟨0, [], rfl, by omega, NumRow.nil _ _ _ _, hid Half.nil, hid rfl, hid rfl, Keep.refl _ _⟩
 case round =>
  obtain ⟨r, H, rfl, hrn, hown, hhalf, hHl, hHv, hfr⟩ := hrel
  have H_hown := hid hown
  clear hown
  by_cases hlt : r < nx
  · obtain ⟨y, hy⟩ : ∃ y, y = xl.getD r 0 := ⟨_, rfl⟩
    have hyb : y < 18446744073709551616 := by
     rw [hy, show xl.getD r 0 = xl[r]'(by have := H_hnxx.out; omega) by simp [List.getD, show r < xl.length by have := H_hnxx.out; omega]]
     exact H_hxl.out _ (List.getElem_mem _)
    obtain ⟨gx, ox, ccx, Lx, hsl, bkx, ho1, ho2, ho3, ho4⟩ := (H_hxn.out.keep hfr.out (fun _ _ h => h)).open_pos (by have := H_hnxx.out; omega)
    simp only [Value.slice.injEq] at hsl
    obtain ⟨rfl, -, rfl⟩ := hsl
    have hcx := bkx.cell (o := ox + r) (by have := H_hnxx.out; omega)
    have hxy : Lx.getD (ox + r) 0 = y := by rw [hy, ho3]; exact (seg_getD (by have := H_hnxx.out; omega)).symm
    rw [hxy] at hcx
    have hstep := halves_step (by have := H_hnxx.out; omega) hHl.out hHv.out hy
    have hand := and_half hyb
    have hq1 : y % 4294967296 < 4294967296 := by omega
    have hq2 : y / 4294967296 < 4294967296 := by omega
    have hmodI : ((y % 4294967296 : Nat) : Int) = (y : Int) % 4294967296 := by omega
    have hdivI : (y : Int) / 4294967296 = ((y / 4294967296 : Nat) : Int) := by omega
    have t1 : decide ((r : Int) < (nx : Int)) = true := by simp; omega
    have hown := H_hown.out
    have hszr := hfr.out.size
    obtain ⟨al, cl, rfl⟩ := H_hown.out.form
    generalize hlh : H.length = lh at *
    clear bkx ho1 ho2 ho3 ho4 hxy
    have H_hstep := hid hstep; have H_hy := hid hy; have H_hyb := hid hyb; have H_hq1 := hid hq1; have H_hq2 := hid hq2; have H_hdivI := hid hdivI; have H_hlh := hid hlh; clear hstep hy hyb hq1 hq2 hdivI hlh
    go_wp2_with (at_builtin; refine wpList_append_num _ rfl _ _ 122 rfl .u64 w.heap.size 99 i0 8 Tryz.underlying122 hi hi0 hi1 hi2 _ H rfl (hown.alloc _) ⟨wr.heap.size, 0, none⟩ 2 2 [y % 4294967296, y / 4294967296] rfl rfl (by omega) ?c1 ?c2 ?c3 ?c4 ?_)
    case c1 =>
     intro j u hj
     match j, hj with
     | 0, hj => simp at hj; subst hj; simp [Addr.add, wd]
     | 1, hj => simp at hj; subst hj; simp [Addr.add, wd]
    case c2 => unfold maxLen; have := H_hlh.out; have := hHl.out; omega
    case c3 => have := H_hlh.out; have := hHl.out; omega
    case c4 => simp; omega
    intro v' w4 hown' hgrow _
    have hf4 : Fresh w w4 := Fresh.num (hfr.out.alloc _) (hown.alloc _) (Nat.le_refl _) hgrow
    have H_hown' := hid hown'; have H_hf4 := hid hf4; clear hown' hf4
    clear hgrow hown
    go_wp2_with (fail)
    go_roundw
    case rel => exact ⟨r + 1, H ++ [y % 4294967296, y / 4294967296], by simp, by omega, H_hown'.out, hid (hhalf.out.append (fun u hu => by
     simp at hu
     rcases hu with h | h
     · rw [h]; exact H_hq1.out
     · rw [h]; exact H_hq2.out)), hid (by simp; have := H_hlh.out; have := hHl.out; omega), H_hstep, H_hf4⟩
    case measure => simp [intOf]; omega
  · obtain rfl : r = nx := by omega
    have t1 : decide ((r : Int) < (r : Int)) = false := by simp
    have hHv2 : hv H = V := by rw [hHv.out, List.take_of_length_le (by have := H_hnxx.out; omega), H_hval.out]
    have hHl2 : H.length ≤ 1200 := by have := hHl.out; omega
    have hH0 : ∀ k, H.length = k + 1 → 0 < hv H := fun k hk => by
     rw [hHv2, ← H_hval.out]
     exact H_hxpos.out (by have := hHl.out; have := H_hnxx.out; omega)
    obtain ⟨al0, cl0, rfl⟩ := H_hown.out.form
    generalize hlh : H.length = lh at *
    have H_hHv2 := hid hHv2; have H_hHl2 := hid hHl2; have H_hH0 := hid hH0; have H_hlh := hid hlh; clear hHv2 hHl2 hH0 hlh
    go_wp2_with (fail)
    clear t1
    go_loopw [3, 6] (fun lv bv wr => ∃ (H B : List Nat), NumRow .u64 wr w.heap.size 99 lv H ∧ Hid (NumRow .u8 wr w.heap.size 5 bv B) ∧ Hid (Half H) ∧ Hid (IsD B) ∧ Hid (dval B + 10 ^ B.length * hv H = V) ∧ Hid (0 < H.length → 0 < hv H) ∧ Hid (H.length = 0 → ∀ k, B.length = k + 1 → 10 ^ k ≤ V) ∧ Hid (H.length ≤ 1200) ∧ Hid (B.length ≤ p + 9) ∧ Hid (∀ g, bv.ownBlock = some g → lv.ownBlock ≠ some g) ∧ Hid (Fresh w wr)) (fun _ bv _ => p + 10 - sliceLen bv)
    case atStart => exact ⟨H, [], by rw [← H_hlh.out] at H_hown ⊢; exact H_hown.out, hid (NumRow.nil _ _ _ _), hhalf, hid IsD.nil, hid (by simp [dval, H_hHv2.out]), hid (fun h => H_hH0.out (lh - 1) (by have := H_hlh.out; omega)), hid (fun _ k h => by simp at h), hid (by rw [H_hlh.out]; exact H_hHl2.out), hid (by simp), hid (fun g h => by simp [Value.ownBlock] at h), hfr⟩
    case round =>
     clear hhalf hHl hHv
     obtain ⟨H1, B, hown1, hB, hHh, hBd, hVal, hpos, htop, hHl1, hBl, hsep, hfr1⟩ := hrel
     have H_hown1 := hid hown1
     clear hown1
     obtain ⟨al, cl, rfl⟩ := H_hown1.out.form
     obtain ⟨ab, cb, rfl⟩ := hB.out.form
     obtain ⟨nl, hnl⟩ : ∃ n, n = H1.length := ⟨_, rfl⟩
     obtain ⟨nb, hnb⟩ : ∃ n, n = B.length := ⟨_, rfl⟩
     rw [← hnl] at H_hown1 hsep ⊢
     rw [← hnb] at hB hsep ⊢
     have hnl3 : nl ≤ 1200 := by have := hHl1.out; omega
     have hnb3 : nb ≤ 609 := by have := hBl.out; omega
     have H_hnl := hid hnl; have H_hnb := hid hnb; clear hnl hnb
     by_cases hgo : 0 < nl
     · have t1 : decide ((0 : Int) < (nl : Int)) = true := by simp; omega
       have t1' : decide (0 < nl) = true := by simp; omega
       go_wp2_with (fail)
       go_loopw [7, 8] (fun nv kv w3 => ∃ (j nn : Nat) (M : List Nat), kv = .int .i64 ((j : Int) - 1) ∧ nv = .int .u64 nn ∧ j ≤ nl ∧ nn < 1000000000 ∧ Hid (NumRow .u64 w3 w.heap.size 99 (.slice al nl cl) M) ∧ Hid (NumRow .u8 w3 w.heap.size 5 (.slice ab nb cb) B) ∧ Hid (Half M) ∧ Hid (M.length = nl) ∧ Hid (M.take j = H1.take j) ∧ Hid (hv (H1.drop j) = nn + 1000000000 * hv (M.drop j)) ∧ Hid (Fresh w w3)) (fun _ kv _ => ((intOf kv) + 1).toNat)
       case atStart => exact ⟨nl, 0, H1, rfl, rfl, by omega, by omega, H_hown1, hB, hHh, hid H_hnl.out.symm, hid rfl, hid (by rw [List.drop_of_length_le (by have := H_hnl.out; omega)]; rfl), hfr1⟩
       case round =>
        obtain ⟨j, nn, M, rfl, rfl, hjn, hnnb, hM, hB3, hMh, hMl, hMt, hMv, hfr3⟩ := hrel
        by_cases hjz : 0 < j
        · obtain ⟨k, rfl⟩ : ∃ k, j = k + 1 := ⟨j - 1, by omega⟩
          obtain ⟨g, rfl, hgw, hglt⟩ := hM.out.someAt (by have := hMl.out; omega)
          obtain ⟨y, hy⟩ : ∃ y, y = H1.getD k 0 := ⟨_, rfl⟩
          have hyb : y < 4294967296 := by rw [hy]; exact hHh.out.getD k
          obtain ⟨tt, htt⟩ : ∃ t, t = y + nn * 4294967296 := ⟨_, rfl⟩
          obtain ⟨ds1, ds2, ds3⟩ := digits_step (q := tt / 1000000000) (by have := hMl.out; omega) (by have := hMl.out; have := H_hnl.out; omega) hMt.out hMv.out (by rw [htt, hy, Nat.add_comm]) rfl
          have hcell := hM.out.cell (j := k) (by have := hMl.out; omega)
          rw [ds3, ← hy] at hcell
          have hfz := hM.out.frz k
          have hset := hM.out.set (j := k) (by have := hMl.out; omega) (tt / 1000000000)
          have hor := (or_half hyb (show nn < 4294967296 by omega)).2
          have hnI : ((nn * 4294967296 : Nat) : Int) = (nn : Int) * 4294967296 := Int.natCast_mul nn 4294967296
          rw [hnI, ← htt] at hor
          have hwr : IntKind.u64.wrap ((nn : Int) * 4294967296) = (nn : Int) * 4294967296 := by rw [IntKind.wrap_u64]; omega
          have htb : tt < 4294967296000000000 := by omega
          have hq : tt / 1000000000 < 4294967296 := by omega
          have hr : tt % 1000000000 < 1000000000 := by omega
          have hkI : (((k + 1 : Nat) : Int) - 1) = (k : Int) := by omega
          have hkn : (k : Int) < (nl : Int) := by omega
          have hkn2 : k < nl := by omega
          have hdivI : (tt : Int) / 1000000000 = ((tt / 1000000000 : Nat) : Int) := by omega
          have hwq : IntKind.u64.wrap ((tt : Int) / 1000000000) = (tt : Int) / 1000000000 := by rw [IntKind.wrap_u64]; omega
          have hmodI : (tt : Int) % 1000000000 = ((tt % 1000000000 : Nat) : Int) := by omega
          have hne : ∀ g', (Value.slice ab nb cb).ownBlock = some g' → g ≠ g' := fun g' hg' e => hsep.out g' hg' (by rw [← e]; rfl)
          have hBs : ∀ u, NumRow .u8 (wr.setCell ⟨g, k, none⟩ u) w.heap.size 5 (.slice ab nb cb) B := fun u => hB3.out.of_block (fun g' hg' => Go.RowKit.Below.heap_setCell _ _ _ _ (fun e => hne g' hg' e.symm))
          have hfs : ∀ u, Fresh w (wr.setCell ⟨g, k, none⟩ u) := fun u => hfr3.out.setCell (p := ⟨g, k, none⟩) (fun h => by change g < w.heap.size at h; omega) u
          clear ds3 hMt hMv hjn hne hjz
          rw [hkI]
          have H_ds1 := hid ds1; have H_ds2 := hid ds2; have H_hset := hid hset; have H_htt := hid htt; have H_hy := hid hy; have H_hnI := hid hnI; have H_htb := hid htb; have H_hq := hid hq; have H_hr := hid hr; have H_hkI := hid hkI; have H_hBs := hid hBs; have H_hfs := hid hfs; have H_hdivI := hid hdivI; have H_hmodI := hid hmodI; clear ds1 ds2 hset htt hy hnI htb hq hr hkI hBs hfs hdivI hmodI
          go_wp2_with (fail)
          go_roundw
          case rel => exact ⟨k, tt % 1000000000, M.set k (tt / 1000000000), rfl, by rw [H_hmodI.out], by omega, H_hr.out, hid (by rw [H_hdivI.out]; exact H_hset.out), hid (H_hBs.out _), hid (hMh.out.set k H_hq.out), hid (by rw [List.length_set]; exact hMl.out), H_ds2, H_ds1, hid (H_hfs.out _)⟩
          case measure => first | (simp [intOf]; done) | (simp [intOf]; omega)
        · obtain rfl : j = 0 := by omega
          rw [show (((0 : Nat) : Int) - 1) = -1 from rfl]
          have hdv := hMv.out
          rw [List.drop_zero, List.drop_zero] at hdv
          have hlen0 := hMl.out
          clear hMt hMv hjn
          have H_hdv := hid hdv; have H_hlen0 := hid hlen0; clear hdv hlen0
          go_wp2_with (fail)
          go_loopw [3] (fun lv w4 => ∃ M2 : List Nat, NumRow .u64 w4 w.heap.size 99 lv M2 ∧ Hid (Half M2) ∧ Hid (hv M2 = hv M) ∧ M2.length ≤ nl ∧ lv.ownBlock = (Value.slice al nl cl).ownBlock ∧ wr = w4) (fun lv _ => sliceLen lv)
          case atStart => exact ⟨M, hM.out, hMh, hid rfl, by have := H_hlen0.out; omega, rfl, rfl⟩
          case round =>
           obtain ⟨M2, hM2, hM2h, hM2v, hM2l, hM2o, hw2⟩ := hrel
           subst hw2
           have H_hM2 := hid hM2
           clear hM2
           obtain ⟨a2, c2, rfl⟩ := H_hM2.out.form
           obtain ⟨n2, hn2⟩ : ∃ n, n = M2.length := ⟨_, rfl⟩
           rw [← hn2] at H_hM2 hM2l hM2o ⊢
           have H_hn2 := hid hn2; have H_hM2o := hid hM2o; clear hn2 hM2o
           by_cases htrim : 0 < n2 ∧ M2.getD (n2 - 1) 0 = 0
           · obtain ⟨ht1, ht2⟩ := htrim
             obtain ⟨k, rfl⟩ : ∃ k, n2 = k + 1 := ⟨n2 - 1, by omega⟩
             rw [Nat.add_sub_cancel] at ht2
             obtain ⟨g, rfl, hgw, hglt⟩ := H_hM2.out.someAt (by have := H_hn2.out; omega)
             have hcell := H_hM2.out.cell (j := k) (by have := H_hn2.out; omega)
             rw [ht2] at hcell
             have hpre := H_hM2.out.front (m := k) H_hn2.out ht2
             have hv2 := hv_trim H_hn2.out.symm ht2
             have hcap : (k : Int) ≤ (c2 : Int) := by have := H_hM2.out.capLe; omega
             have hcap2 : k ≤ c2 := by omega
             have hkI : (((k + 1 : Nat) : Int) - 1) = (k : Int) := by omega
             have H_hpre := hid hpre; have H_hv2 := hid hv2; have H_ht2 := hid ht2; clear hpre hv2 ht2
             go_wp2_with (fail)
             go_roundw
             case rel => exact ⟨M2.take k, H_hpre.out, hid (hM2h.out.take k), hid (H_hv2.out.trans hM2v.out), by simp; omega, H_hM2o.out, trivial⟩
             case measure => simp [sliceLen]
           · have hn1 : 0 < hv H1 := hpos.out (by have := H_hnl.out; omega)
             have hBp : nb < p := by rw [H_hnb.out]; exact dig_bound hVal.out hn1 H_hz.out
             have hsep2 : ∀ g', (Value.slice ab nb cb).ownBlock = some g' → (Value.slice a2 n2 c2).ownBlock ≠ some g' := fun g' hg' => by rw [H_hM2o.out]; exact hsep.out g' hg'
             have hdv2 : hv H1 = nn + 1000000000 * hv M2 := by rw [hM2v.out]; exact H_hdv.out
             have htests : (n2 = 0) ∨ (∃ k y, n2 = k + 1 ∧ y ≠ 0 ∧ y = M2.getD k 0) := by
              rcases Nat.eq_zero_or_pos n2 with h | h
              · exact .inl h
              · refine .inr ⟨n2 - 1, M2.getD (n2 - 1) 0, by omega, fun h2 => htrim ⟨h, h2⟩, rfl⟩
             have hlast : 0 < n2 → 0 < hv M2 := fun h => hv_pos_of_last (k := n2 - 1) (by have := H_hn2.out; omega) (fun h2 => htrim ⟨h, h2⟩)
             clear htrim hn1
             have H_hBp := hid hBp; have H_hsep2 := hid hsep2; have H_hdv2 := hid hdv2; have H_hlast := hid hlast; have H_hM2l := hid hM2l; clear hBp hsep2 hdv2 hlast hM2l
             rcases htests with h0 | ⟨k, y0, hk, hy0, hyv⟩
             case' inl =>
              have t2 : decide ((0 : Int) < (n2 : Int)) = false := by simp; omega
              have t3 : ¬ 0 < n2 := by omega
              clear h0
              go_wp2_with (fail)
             case' inr =>
              obtain rfl : n2 = k + 1 := hk
              obtain ⟨g, rfl, hgw, hglt⟩ := H_hM2.out.someAt (by have := H_hn2.out; omega)
              have hcell := H_hM2.out.cell (j := k) (by have := H_hn2.out; omega)
              rw [← hyv] at hcell
              have hkb : (k : Int) ≤ 1200 := by have := H_hM2l.out; omega
              have hy1 : ((y0 : Int) == 0) = false := by rw [beq_eq_false_iff_ne]; omega
              clear hyv
              go_wp2_with (fail)
              clear hcell hy1 hy0 hgw hglt hkb
              have t3 : 0 < k + 1 := by omega
              generalize k + 1 = n2 at *
              have t2 : decide ((0 : Int) < (n2 : Int)) = true := by simp; omega
             all_goals
              go_loopw [6, 7, 9] (fun bv nv kv w5 => ∃ (j y : Nat) (B2 : List Nat), kv = .int .i64 j ∧ nv = .int .u64 y ∧ j ≤ 9 ∧ y < 1000000000 ∧ NumRow .u8 w5 w.heap.size 5 bv B2 ∧ Hid (NumRow .u64 w5 w.heap.size 99 (.slice _ n2 c2) M2) ∧ Hid (y = nn / 10 ^ j) ∧ Hid (IsD B2) ∧ Hid (dval B2 = dval B + 10 ^ B.length * (nn % 10 ^ j)) ∧ Hid (B2.length = nb + j) ∧ Hid (n2 = 0 → 0 < j → 10 ^ (j - 1) ≤ nn) ∧ Hid (∀ g, bv.ownBlock = some g → (Value.slice _ n2 c2).ownBlock ≠ some g) ∧ Hid (Fresh w w5)) (fun _ _ kv _ => 9 - (intOf kv).toNat)
              case atStart => exact ⟨0, nn, B, rfl, rfl, by omega, hnnb, hB3.out, H_hM2, hid (by simp), hBd, hid (by simp [Nat.mod_one]), hid (by rw [H_hnb.out]; rfl), hid (fun _ h => by omega), H_hsep2, hfr3⟩
              case round =>
               obtain ⟨j, y, B2, rfl, rfl, hj9, hyb, hown2, hM5, hyv, hBd2, hBv2, hBl2, hpos2, hsep5, hfr5⟩ := hrel
               have H_hown2 := hid hown2
               clear hown2
               obtain ⟨ab2, cb2, rfl⟩ := H_hown2.out.form
               have hBl3 : B2.length ≤ 618 := by have := hBl2.out; omega
               by_cases hgo : j < 9 ∧ (y ≠ 0 ∨ 0 < n2)
               · obtain ⟨hg1, hg2⟩ := hgo
                 have u1 : decide ((j : Int) < 9) = true := by simp; omega
                 have hemit := emit_step hBv2.out (hBl2.out.trans (by rw [H_hnb.out]))
                 rw [← hyv.out] at hemit
                 have hposn : n2 = 0 → 0 < j + 1 → 10 ^ (j + 1 - 1) ≤ nn := fun h0 _ => by
                  rw [Nat.add_sub_cancel]
                  rcases Nat.lt_or_ge nn (10 ^ j) with h | h
                  · have h2 := hyv.out
                    rw [Nat.div_eq_of_lt h] at h2
                    omega
                  · exact h
                 have hyn : y / 10 = nn / 10 ^ (j + 1) := by rw [hyv.out, Nat.div_div_eq_div_mul, ← Nat.pow_succ]
                 obtain ⟨c, hc⟩ : ∃ c, c = 48 + y % 10 := ⟨_, rfl⟩
                 rw [← hc] at hemit
                 have hcI : (48 : Int) + (y : Int) % 10 = (c : Int) := by omega
                 have hcb1 : 48 ≤ c := by omega
                 have hcb2 : c ≤ 57 := by omega
                 have hc0 : y = 0 → c = 48 := fun h => by rw [hc, h]
                 have htest : (y ≠ 0 ∧ ((y : Int) == 0) = false) ∨ (y = 0 ∧ 0 < n2) := by
                  rcases Nat.eq_zero_or_pos y with h | h
                  · exact .inr ⟨h, by omega⟩
                  · exact .inl ⟨by omega, by rw [beq_eq_false_iff_ne]; omega⟩
                 have hown := H_hown2.out
                 have hszr := hfr5.out.size
                 have hj9n : j + 1 ≤ 9 := by omega
                 clear hg2 hposn
                 have hposn : n2 = 0 → 0 < j + 1 → 10 ^ (j + 1 - 1) ≤ nn := fun h0 _ => by
                  rw [Nat.add_sub_cancel]
                  rcases Nat.lt_or_ge nn (10 ^ j) with h | h
                  · have h2 := hyv.out
                    rw [Nat.div_eq_of_lt h] at h2
                    rcases htest with h3 | h3
                    · omega
                    · omega
                  · exact h
                 have H_hemit := hid hemit; have H_hposn := hid hposn; have H_hyn := hid hyn; have H_hc := hid hc; clear hemit hposn hyn hc
                 rcases htest with ⟨v1, v2⟩ | ⟨rfl, v2⟩
                 case' inr => (obtain rfl : c = 48 := hc0 rfl)
                 all_goals try exact absurd v2 t3
                 all_goals
                  clear hc0
                  go_wp2_with (at_builtin; first | refine wpList_append_num _ rfl _ _ 87 rfl .u8 w.heap.size 5 j0 1 Tryz.underlying87 hj hj0 hj1 hj2 _ B2 rfl (hown.alloc _) ⟨wr.heap.size, 0, none⟩ 1 1 [c] rfl rfl (by omega) ?c1 ?c2 ?c3 ?c4 ?_ | refine wpList_append_num _ rfl _ _ 87 rfl .u8 w.heap.size 5 j0 1 Tryz.underlying87 hj hj0 hj1 hj2 _ B2 rfl (hown.alloc _) ⟨wr.heap.size, 0, none⟩ 1 1 [48] rfl rfl (by omega) ?c1 ?c2 ?c3 ?c4 ?_)
                  case c1 =>
                   intro j u hj
                   match j, hj with
                   | 0, hj => simp at hj; subst hj; simp [Addr.add, wd]
                  case c2 => unfold maxLen; omega
                  case c3 => omega
                  case c4 => first | omega | (simp; omega)
                  intro v' w6 hown' hgrow hvown
                  have hf6 : Fresh w w6 := Fresh.num (hfr5.out.alloc _) (hown.alloc _) (Nat.le_refl _) hgrow
                  have hM6 := (hM5.out.alloc _).of_block (fun g' hg' => hgrow.block g' ((hM5.out.alloc _).lt g' hg').2 (fun e => hsep5.out g' e.symm hg'))
                  have hsep6 : ∀ g', v'.ownBlock = some g' → _ ≠ some g' := fun g' hg' e => by
                   rcases hvown g' hg' with h | h
                   · exact hsep5.out g' h e
                   · have h2 := (hM5.out.lt g' e).2
                     have h3 : wr.heap.size < g' := by first | omega | (simp at h; omega) | exact h
                     omega
                  have H_hown' := hid hown'; have H_hf6 := hid hf6; have H_hM6 := hid hM6; have H_hsep6 := hid hsep6; clear hown' hf6 hM6 hsep6
                  clear hgrow hown hvown
                  go_wp2_with (fail)
                  go_roundw
                  case rel => first
                   | exact ⟨j + 1, y / 10, B2 ++ [c], by simp, by simp, by omega, by omega, H_hown'.out, H_hM6, H_hyn, hid (hBd2.out.append (IsD.one hcb1 hcb2)), H_hemit, hid (by simp; have := hBl2.out; omega), H_hposn, H_hsep6, H_hf6⟩
                   | exact ⟨j + 1, 0 / 10, B2 ++ [48], by simp, by simp, by omega, by omega, H_hown'.out, H_hM6, H_hyn, hid (hBd2.out.append (IsD.one hcb1 hcb2)), H_hemit, hid (by simp; have := hBl2.out; omega), H_hposn, H_hsep6, H_hf6⟩
                  case measure => simp [intOf]; omega
               · have htst : (j = 9 ∧ decide ((j : Int) < 9) = false) ∨ (j < 9 ∧ decide ((j : Int) < 9) = true ∧ y = 0 ∧ n2 = 0) := by
                  by_cases h9 : j < 9
                  · refine .inr ⟨h9, by simp; omega, ?_, ?_⟩ <;> omega
                  · exact .inl ⟨by omega, by simp; omega⟩
                 have hnj : nn < 10 ^ j := by
                  rcases htst with ⟨h, _⟩ | ⟨_, _, h, _⟩
                  · rw [h]; omega
                  · have h2 := hyv.out
                    rw [h] at h2
                    have hp10 : 0 < 10 ^ j := Nat.pow_pos (by omega)
                    rcases Nat.lt_or_ge nn (10 ^ j) with h3 | h3
                    · exact h3
                    · have := Nat.div_pos h3 hp10; omega
                 have hM2j : M2 = [] ∨ j = 9 := by
                  rcases htst with ⟨h, _⟩ | ⟨_, _, _, h⟩
                  · exact .inr h
                  · exact .inl (List.eq_nil_of_length_eq_zero (by have := H_hn2.out; omega))
                 have hjpos : 0 < j := by
                  rcases Nat.eq_zero_or_pos j with h | h
                  · exfalso
                    have hM0 : M2 = [] := by rcases hM2j with h2 | h2; exact h2; omega
                    have hpp := hpos.out (by have := H_hnl.out; omega)
                    rw [H_hdv2.out, hM0] at hpp
                    rw [h] at hnj
                    simp [hv] at hpp hnj
                    omega
                  · exact h
                 have hVnew := dig_round (B := B) (B' := B2) (H := H1) (M := M2) hVal.out H_hdv2.out hBv2.out (by rw [hBl2.out, H_hnb.out]) hnj hM2j
                 have htopn : M2.length = 0 → ∀ q, B2.length = q + 1 → 10 ^ q ≤ V := fun h q hq => by
                  have h1 := dig_top (B := B) (H := H1) (M := M2) (j := j) hVal.out H_hdv2.out hjpos (hpos2.out (by have := H_hn2.out; omega) hjpos)
                  rw [show B.length + j - 1 = q by have := hBl2.out; have := H_hnb.out; omega] at h1
                  exact h1
                 have hmeas : p + 10 - sliceLen (.slice ab2 B2.length cb2) < p + 10 - sliceLen (.slice ab nb cb) := by
                  have := hBl2.out; have := H_hBp.out
                  show p + 10 - B2.length < p + 10 - nb
                  omega
                 have H_hVnew := hid hVnew; have H_htopn := hid htopn; have H_hmeas := hid hmeas; have H_hnj := hid hnj; have H_hM2j := hid hM2j; have H_hjpos := hid hjpos; clear hVnew htopn hmeas hnj hM2j hjpos
                 rcases htst with ⟨w1, w2⟩ | ⟨w1, w2, w3, w4⟩
                 case' inr => subst w3
                 all_goals
                  go_wp2_with (fail)
                  go_roundw
                  case rel => exact ⟨M2, B2, hM5.out, H_hown2, hM2h, hBd2, H_hVnew, hid (fun h => H_hlast.out (by have := H_hn2.out; omega)), H_htopn, hid (by have := H_hn2.out; have := H_hM2l.out; omega), hid (by have := hBl2.out; have := H_hBp.out; omega), hsep5, hfr5⟩
                  case measure => exact H_hmeas.out
     · have hn0 : nl = 0 := by omega
       have t1 : decide ((0 : Int) < (nl : Int)) = false := by simp; omega
       have hH1 : H1 = [] := List.eq_nil_of_length_eq_zero (by have := H_hnl.out; omega)
       have hBV : dval B = V := by have h1 := hVal.out; rw [hH1] at h1; simpa [hv] using h1
       have htop2 := htop.out (by rw [hH1]; rfl)
       rcases Nat.eq_zero_or_pos nb with hb0 | hb0
       · have hz0 : z = 0 := by
          have hB0 : B = [] := List.eq_nil_of_length_eq_zero (by have := H_hnb.out; omega)
          rw [hB0] at hBV
          have := H_hV.out
          simp [dval] at hBV
          omega
         have hres : (⟨#[48]⟩ : ByteArray) = bstr (wdig z) := by rw [hz0]; rfl
         have t2 : ((nb : Int) == 0) = true := by rw [hb0]; rfl
         clear hn0 hb0 hz0
         have H_hres := hid hres; clear hres
         go_wp2_with (fail)
         go_ret
         exact ⟨by rw [← H_hres.out]; rfl, hfr1.out⟩
       · have hBr : B = rdig V := by
          have := rdig_of hBd.out (fun k hk => by rw [hBV]; exact htop2 k hk)
          rwa [hBV] at this
         have hVp : 0 < V := by
          have h1 := htop2 (nb - 1) (by have := H_hnb.out; omega)
          have h2 : 0 < 10 ^ (nb - 1) := Nat.pow_pos (by omega)
          omega
         have hzn : z ≠ 0 := fun h => by have := H_hV.out; rw [h] at this; simp at this; omega
         have t2 : ((nb : Int) == 0) = false := by rw [beq_eq_false_iff_ne]; omega
         have t3 : ¬ nb = 0 := by omega
         have hsg := H_hsign'.out wr hfr1.out
         rw [if_neg hzn] at hsg
         clear hn0 hBV htop2
         have H_hBr := hid hBr; have H_hVp := hid hVp; have H_hzn := hid hzn; clear hBr hVp hzn
         by_cases hz1 : z < 0
         · rw [if_pos hz1] at hsg
           have hfin : (B ++ [45]).reverse = wdig z := by
            rw [wdig_neg hz1, hdig_pos (by have := H_hV.out; have := H_hVp.out; omega), List.reverse_append, ← H_hV.out, ← H_hBr.out]; rfl
           have hown := hB.out
           have hszr := hfr1.out.size
           clear hz1
           have H_hsg := hid hsg; have H_hfin := hid hfin; clear hsg hfin
           go_wp2_with (fail)
           refine H_hsg.out.mono ?_
           rintro e w7 ⟨rfl, hw7⟩
           obtain rfl : wr = w7 := hw7.symm
           go_wp2_with (at_builtin; refine wpList_append_num _ rfl _ _ 87 rfl .u8 w.heap.size 5 j0 1 Tryz.underlying87 hj hj0 hj1 hj2 _ B rfl (hown.alloc _) ⟨wr.heap.size, 0, none⟩ 1 1 [45] rfl rfl (by omega) ?c1 ?c2 ?c3 ?c4 ?_)
           case c1 =>
            intro j u hj
            match j, hj with
            | 0, hj => simp at hj; subst hj; simp [Addr.add, wd]
           case c2 => unfold maxLen; have := H_hnb.out; omega
           case c3 => have := H_hnb.out; omega
           case c4 => first | omega | (simp; omega)
           intro v' w8 hown' hgrow _
           have hfW : Fresh w w8 := Fresh.num (hfr1.out.alloc _) (hown.alloc _) (Nat.le_refl _) hgrow
           obtain ⟨ar, cr, rfl⟩ := hown'.form
           obtain ⟨g, rfl, hgw, hglt⟩ := hown'.someAt (by simp)
           obtain ⟨N, hN⟩ : ∃ N, N = (B ++ [45]).length := ⟨_, rfl⟩
           have hby := hown'.sby (fun x hx => by
            rcases List.mem_append.1 hx with h | h
            · exact hBd.out.byte x h
            · simp at h; omega)
           rw [← hN]
           have hNl : N ≤ 700 := by rw [hN]; simp; have := H_hnb.out; omega
           have hNp0 : N = nb + 1 := by rw [hN]; simp; exact H_hnb.out.symm
           clear hown' hgrow hown
           have hNpos : 0 < N := by omega
           clear hNp0
           have hNp : 0 < N := by omega
           have H_hby := hid hby; have H_hN := hid hN; have H_hfW := hid hfW; clear hby hN hfW
           go_wp2_with (fail)
           go_loopw [10, 11] (fun iv jv w2 => ∃ (i j : Nat) (M : List Nat), i + j + 1 = N ∧ iv = .int .i64 i ∧ jv = .int .i64 j ∧ Hid (SBy w2 g M) ∧ Hid (Rev (B ++ [45]) M i) ∧ Hid (Fresh w w2)) (fun _ jv _ => (intOf jv).toNat)
           case atStart => exact ⟨0, N - 1, B ++ [45], by omega, rfl, by congr 1; omega, H_hby, hid (Rev.start _), H_hfW⟩
           case round =>
            obtain ⟨i, j, M, hij, rfl, rfl, hby2, hrev, hf2⟩ := hrel
            have hML : Hid (M.length = N) := hid (by rw [H_hN.out]; exact hrev.out.len)
            by_cases hlt2 : i < j
            · have t3 : decide ((i : Int) < (j : Int)) = true := by simp; omega
              have hc1 := hby2.out.cell (i := i) (by have := hML.out; omega)
              have hc2 := hby2.out.cell (i := j) (by have := hML.out; omega)
              have hz1 := hby2.out.frozen i
              have hz2 := hby2.out.frozen j
              have hb1 := hby2.out.lt i
              have hb2 := hby2.out.lt j
              have hr1 := hrev.out.step (by have := H_hN.out; omega) hlt2
              have hr2 := hrev.out.step' (by have := H_hN.out; omega) hlt2
              generalize M.getD i 0 = xi at *
              generalize M.getD j 0 = xj at *
              have H_hr1 := hid hr1; have H_hr2 := hid hr2; clear hr1 hr2
              have s1 := fun (W : World) (hW : SBy W g M) => (hW.set i hb2).set j hb1
              have s2 := fun (W : World) (hW : SBy W g M) => (hW.set j hb1).set i hb2
              have H_s1 := hid s1; have H_s2 := hid s2; clear s1 s2
              go_wp2_with (fail)
              go_region
              all_goals go_wp2_with (fail)
              all_goals go_roundw
              all_goals first
               | (refine ⟨i + 1, j - 1, _, by omega, by simp, by congr 1; omega, hid (H_s1.out _ hby2.out).drew, H_hr1, ?_⟩
                  exact ((hf2.out.setCell (p := ⟨g, i, none⟩) (fun h => by change g < w.heap.size at h; omega) _).setCell (p := ⟨g, j, none⟩) (fun h => by change g < w.heap.size at h; omega) _).drew)
               | (refine ⟨i + 1, j - 1, _, by omega, by simp, by congr 1; omega, hid (H_s2.out _ hby2.out).drew, H_hr2, ?_⟩
                  exact ((hf2.out.setCell (p := ⟨g, j, none⟩) (fun h => by change g < w.heap.size at h; omega) _).setCell (p := ⟨g, i, none⟩) (fun h => by change g < w.heap.size at h; omega) _).drew)
               | (simp [intOf]; omega)
            · have t3 : decide ((i : Int) < (j : Int)) = false := by simp; omega
              have hconv := hby2.out.btext cr
              rw [hML.out, hrev.out.done (j := j) (by have := H_hN.out; omega) (by omega), H_hfin.out] at hconv
              go_wp2_with (fail)
              go_ret
              exact ⟨rfl, hf2.out⟩
         · rw [if_neg hz1] at hsg
           have hfin : B.reverse = wdig z := by
            rw [wdig_nonneg (by omega), hdig_pos (by have := H_hV.out; have := H_hVp.out; omega), ← H_hV.out, ← H_hBr.out]
           obtain ⟨g, rfl, hgw, hglt⟩ := hB.out.someAt (by have := H_hnb.out; omega)
           have hby := hB.out.sby hBd.out.byte
           have hfW := hfr1.out
           clear hz1
           have H_hsg := hid hsg; have H_hfin := hid hfin; clear hsg hfin
           go_wp2_with (fail)
           refine H_hsg.out.mono ?_
           rintro e w7 ⟨rfl, hw7⟩
           obtain rfl : wr = w7 := hw7.symm
           have hNl : nb ≤ 700 := by omega
           have hN : nb = B.length := H_hnb.out
           have hNp : 0 < nb := by omega
           have H_hby := hid hby; have H_hN := hid hN; have H_hfW := hid hfW; clear hby hN hfW
           go_wp2_with (fail)
           go_loopw [10, 11] (fun iv jv w2 => ∃ (i j : Nat) (M : List Nat), i + j + 1 = nb ∧ iv = .int .i64 i ∧ jv = .int .i64 j ∧ Hid (SBy w2 g M) ∧ Hid (Rev (B) M i) ∧ Hid (Fresh w w2)) (fun _ jv _ => (intOf jv).toNat)
           case atStart => exact ⟨0, nb - 1, B, by omega, rfl, by congr 1; omega, H_hby, hid (Rev.start _), H_hfW⟩
           case round =>
            obtain ⟨i, j, M, hij, rfl, rfl, hby2, hrev, hf2⟩ := hrel
            have hML : Hid (M.length = nb) := hid (by rw [H_hN.out]; exact hrev.out.len)
            by_cases hlt2 : i < j
            · have t3 : decide ((i : Int) < (j : Int)) = true := by simp; omega
              have hc1 := hby2.out.cell (i := i) (by have := hML.out; omega)
              have hc2 := hby2.out.cell (i := j) (by have := hML.out; omega)
              have hz1 := hby2.out.frozen i
              have hz2 := hby2.out.frozen j
              have hb1 := hby2.out.lt i
              have hb2 := hby2.out.lt j
              have hr1 := hrev.out.step (by have := H_hN.out; omega) hlt2
              have hr2 := hrev.out.step' (by have := H_hN.out; omega) hlt2
              generalize M.getD i 0 = xi at *
              generalize M.getD j 0 = xj at *
              have H_hr1 := hid hr1; have H_hr2 := hid hr2; clear hr1 hr2
              have s1 := fun (W : World) (hW : SBy W g M) => (hW.set i hb2).set j hb1
              have s2 := fun (W : World) (hW : SBy W g M) => (hW.set j hb1).set i hb2
              have H_s1 := hid s1; have H_s2 := hid s2; clear s1 s2
              go_wp2_with (fail)
              go_region
              all_goals go_wp2_with (fail)
              all_goals go_roundw
              all_goals first
               | (refine ⟨i + 1, j - 1, _, by omega, by simp, by congr 1; omega, hid (H_s1.out _ hby2.out).drew, H_hr1, ?_⟩
                  exact ((hf2.out.setCell (p := ⟨g, i, none⟩) (fun h => by change g < w.heap.size at h; omega) _).setCell (p := ⟨g, j, none⟩) (fun h => by change g < w.heap.size at h; omega) _).drew)
               | (refine ⟨i + 1, j - 1, _, by omega, by simp, by congr 1; omega, hid (H_s2.out _ hby2.out).drew, H_hr2, ?_⟩
                  exact ((hf2.out.setCell (p := ⟨g, j, none⟩) (fun h => by change g < w.heap.size at h; omega) _).setCell (p := ⟨g, i, none⟩) (fun h => by change g < w.heap.size at h; omega) _).drew)
               | (simp [intOf]; omega)
            · have t3 : decide ((i : Int) < (j : Int)) = false := by simp; omega
              have hconv := hby2.out.btext cb
              rw [hML.out, hrev.out.done (j := j) (by have := H_hN.out; omega) (by omega), H_hfin.out] at hconv
              go_wp2_with (fail)
              go_ret
              exact ⟨rfl, hf2.out⟩

abbrev sd (b : Nat) (e : Int) : Value := .agg #[.pointer (some ⟨b, 0, none⟩), .int .i32 e]

theorem getValue_any (b : Nat) (e : Int) (w : World) :
 Calls Tryz.prog 110 #[sd b e] w (fun r w' => r = .returned (.pointer (some ⟨b, 0, none⟩)) ∧ Fresh w w') := by
 have hfr := fun o => (Keep.refl (fun _ => False) w).alloc o
 have H_hfr := hid hfr; clear hfr
 go_enter Tryz.func110, Tryz.ntmps110
 go_wp2
 go_ret
 exact ⟨rfl, H_hfr.out _⟩

theorem ZzValue_any (b : Nat) (e : Int) (w : World) :
 Calls Tryz.prog 94 #[sd b e] w (fun r w' => r = .returned (.pointer (some ⟨b, 0, none⟩)) ∧ Fresh w w') := by
 have hfr := fun o => (Keep.refl (fun _ => False) w).alloc o
 have hc := fun W => getValue_any b e W
 have H_hfr := hid hfr; have H_hc := hid hc; clear hfr hc
 go_enter Tryz.func94, Tryz.ntmps94
 go_wp2_with (fail)
 refine (H_hc.out _).mono ?_
 rintro r w2 ⟨rfl, h1⟩
 have h2 := ftr (H_hfr.out _) h1
 have H_h1 := hid h1; have H_h2 := hid h2; clear h1 h2
 go_wp2_with (fail)
 go_ret
 exact ⟨rfl, H_h2.out⟩

theorem Exponent_any (b : Nat) (e : Int) (w : World) :
 Calls Tryz.prog 95 #[sd b e] w (fun r w' => r = .returned (.int .i32 e) ∧ Fresh w w') := by
 have hfr := fun o => (Keep.refl (fun _ => False) w).alloc o
 have H_hfr := hid hfr; clear hfr
 go_enter Tryz.func95, Tryz.ntmps95
 go_wp2
 go_ret
 exact ⟨rfl, H_hfr.out _⟩

theorem places_any (n : Int) (w : World) (h : -400 ≤ n ∧ n ≤ 400) : Calls Tryz.prog 43 #[.int .i64 n] w (fun r w' => r = .returned (.bool true) ∧ w' = w) := by
 have t1 : decide ((-400 : Int) ≤ n) = true := by simp; omega
 have t2 : decide (n ≤ 400) = true := by simp; omega
 obtain ⟨h1, h2⟩ := h
 go_enter Tryz.func43, Tryz.ntmps43
 go_wp2
 go_ret
 exact ⟨rfl, rfl⟩

theorem ZzMake_any (b : Nat) (e : Int) (w : World) :
 Calls Tryz.prog 92 #[.pointer (some ⟨b, 0, none⟩), .int .i32 e] w (fun r w' => r = .returned (sd b e) ∧ Fresh w w') := by
 obtain ⟨g, hg⟩ : ∃ g, g = w.heap.size := ⟨_, rfl⟩
 have hfr := fun o => (Keep.refl (fun _ => False) w).alloc o
 have H_hfr := hid hfr; clear hfr
 go_enter Tryz.func92, Tryz.ntmps92
 go_wp2
 refine bodyPost_ret (results_cell_row rfl _ _ w.heap.size 61 #[.pointer (some ⟨b, 0, none⟩), .int .i32 e] (0, 0) _ rfl (heap_alloc_new w _) Tryz.underlying61 rfl (by kernel_rfl)) rfl ?_
 exact ⟨rfl, H_hfr.out _⟩

end Go.Proofs.YtllencgncinphaaGreatDoor
