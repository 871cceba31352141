/- shopspring: powers of ten as integers of math/big, up to the 127th; Int.Mul. -/
import Derived.Test.YtllencgncinphaaGreatDoorKE32
namespace Go.Proofs.YtllencgncinphaaGreatDoor
open Go.RowKit
open Go.Lib (hid)
set_option maxRecDepth 20000
set_option maxHeartbeats 2000000

theorem val_one_word (x : Nat) : val [x] = x := by simp [val]

theorem NewInt_pos (x : Nat) (w : World) (h0 : 0 < x) (hx : x < 4294967296) (hNG : NG ≤ w.heap.size) :
 Calls Tryz.prog 143 #[.int .i64 x] w (fun e w' => ∃ b v, e = .returned (.pointer (some ⟨b, 0, none⟩)) ∧ ZI w' b v x ∧ Fresh w w' ∧ w.heap.size ≤ b ∧ (∀ k, v.ownBlock = some k → w.heap.size ≤ k)) := by
 have t1 : decide ((x : Int) < 0) = false := by simp
 have t2 : ((x : Int) == 0) = false := by rw [beq_eq_false_iff_ne]; omega
 have t3 : ¬ x = 0 := by omega
 have hxi : (x : Int) < 4294967296 := by omega
 have H_hNG := hid hNG; have H_h0 := hid h0; have H_hx := hid hx; clear hNG h0 hx
 go_enter Tryz.func143, Tryz.ntmps143
 go_wp2_with (fail)
 go_ret
 refine ⟨w.heap.size + 1, .slice (some ⟨w.heap.size, 0, none⟩) 1 1, by simp, ?_, ((Keep.refl _ _).alloc _).alloc _, by omega, fun k hk => by simp [Value.ownBlock] at hk; omega⟩
 have hr : ((w.alloc (.cells #[.int .u64 x] 123)).alloc (.cells #[.bool false, .slice (some ⟨w.heap.size, 0, none⟩) 1 1] 110 (0, 0))).heap[w.heap.size + 1]? = some (.cells #[.bool false, .slice (some ⟨w.heap.size, 0, none⟩) 1 1] 110 (0, 0)) := by
  have := heap_alloc_new (w.alloc (.cells #[.int .u64 x] 123)) (.cells #[.bool false, .slice (some ⟨w.heap.size, 0, none⟩) 1 1] 110 (0, 0))
  simpa using this
 have hb : Blk .u64 ((w.alloc (.cells #[.int .u64 x] 123)).alloc (.cells #[.bool false, .slice (some ⟨w.heap.size, 0, none⟩) 1 1] 110 (0, 0))) w.heap.size [x] :=
  Blk.alloc (k := .u64) (L := [x]) (g := w.heap.size) ⟨123, heap_alloc_new w (.cells #[.int .u64 x] 123)⟩ _
 have hn := NatAt.mk (n := 1) (cap := 1) (off := 0) (by omega) hb (by omega) (by simp) (by have := H_hx.out; simp; omega)
 refine ⟨false, [x], ⟨⟨by simp, by simp, frozen_of_row _ _ _ _ _ hr, frozen_of_row _ _ _ _ _ hr, by have := H_hNG.out; omega, _, _, hr⟩, by simpa [seg] using hn, ?_, fun h => by simp at h⟩, by simp [ival, val_one_word]⟩
 intro k hk
 have : k = 0 := by simp at hk; omega
 subst this
 have := H_h0.out
 simp [List.getD]; omega

theorem tenInt_any (w : World) (hNG : NG ≤ w.heap.size) :
 Calls Tryz.prog 121 #[] w (fun e w' => ∃ b v, e = .returned (.pointer (some ⟨b, 0, none⟩)) ∧ ZI w' b v 10 ∧ Fresh w w' ∧ w.heap.size ≤ b ∧ (∀ k, v.ownBlock = some k → w.heap.size ≤ k)) := by
 have hc := NewInt_pos 10 w (by omega) (by omega) hNG
 have H_hc := hid hc; clear hc
 go_enter Tryz.func121, Tryz.ntmps121
 go_wp2_with (fail)
 refine H_hc.out.mono ?_
 rintro e w2 ⟨b, v, rfl, h1, h2, h3, h4⟩
 have H_h1 := hid h1; have H_h2 := hid h2; have H_h3 := hid h3; have H_h4 := hid h4; clear h1 h2 h3 h4
 go_wp2_with (fail)
 go_ret
 exact ⟨b, v, rfl, H_h1.out, H_h2.out, H_h3.out, H_h4.out⟩

theorem IntMul_z (bz bx bY : Nat) (vz vx vy : Value) (z x y : Int) (w : World) (hG : Glob w) (hlx : x.natAbs < wpow 39) (hly : y.natAbs < wpow 39) (hne : bx ≠ bY)
 (hz : ZI w bz vz z) (hx : ZI w bx vx x) (hy : ZI w bY vy y) (hsx : Sep vz vx) (hsy : Sep vz vy) :
 Calls Tryz.prog 136 #[.pointer (some ⟨bz, 0, none⟩), .pointer (some ⟨bx, 0, none⟩), .pointer (some ⟨bY, 0, none⟩)] w (fun e w' => e = .returned (.pointer (some ⟨bz, 0, none⟩)) ∧ ZSet w bz vz (x * y) w') := by
 obtain ⟨nz, lz, hz, _⟩ := hz
 obtain ⟨nx, lx, hx, rfl⟩ := hx
 obtain ⟨ny, ly, hy, rfl⟩ := hy
 have h1 := hx.len rfl hlx
 have h2 := hy.len rfl hly
 have hc := Int_mul bz 0 bx 0 bY 0 nz nx ny vz vx vy lz lx ly none w hG (by omega) (by omega) hne hz hx hy hsx hsy
 clear hz hx hy hsx hsy hG hne hlx hly h1 h2
 have H_hc := hid hc; clear hc
 go_enter Tryz.func136, Tryz.ntmps136
 go_wp2_with (fail)
 refine H_hc.out.mono ?_
 intro e w1 hr
 obtain ⟨rfl, hs⟩ := hr.zset
 clear hr
 have H_hs := hid hs; clear hs
 go_wp2_with (fail)
 go_ret
 exact ⟨rfl, H_hs.out⟩

theorem ten_wpow39 {k : Nat} (h : k ≤ 130) : ((10 ^ k : Nat) : Int).natAbs < wpow 39 := by
 rw [Int.natAbs_natCast]
 have h1 : 10 ^ k ≤ 10 ^ 130 := Nat.pow_le_pow_right (by omega) h
 exact Nat.lt_of_le_of_lt h1 (by unfold wpow; decide)

def ZNew (w : World) (z : Int) (e : Ending) (w' : World) : Prop := ∃ b v, e = .returned (.pointer (some ⟨b, 0, none⟩)) ∧ ZI w' b v z ∧ Fresh w w' ∧ w.heap.size ≤ b ∧ (∀ k, v.ownBlock = some k → w.heap.size ≤ k)

theorem pow10Table_any (n : Nat) (w : World) (hG : Glob w) (hn : n ≤ 127) : Calls Tryz.prog 141 #[.int .i64 n] w (ZNew w ((10 ^ n : Nat) : Int)) := by
 have h1 := NewInt_pos 1 w (by omega) (by omega) hG.size
 have t1 : decide ((n : Int) < 0) = false := by simp
 have H_h1 := hid h1; have H_hG := hid hG; clear h1 hG
 go_enter Tryz.func141, Tryz.ntmps141
 go_wp2_with (fail)
 refine H_h1.out.mono ?_
 rintro e w1 ⟨b1, v1, rfl, z1, f1, g1, o1⟩
 have H_z1 := hid z1; have H_f1 := hid f1; have H_g1 := hid g1; have H_o1 := hid o1; clear z1 f1 g1 o1
 go_wp2_with (fail)
 clear t1
 go_loopw [3, 4] (fun tv iv wr => ∃ (i b : Nat) (v : Value), iv = .int .i64 ((i : Int) + 1) ∧ tv = .pointer (some ⟨b, 0, none⟩) ∧ i ≤ n ∧ Hid (ZI wr b v ((10 ^ i : Nat) : Int)) ∧ Hid (w.heap.size ≤ b) ∧ Hid (∀ k, v.ownBlock = some k → w.heap.size ≤ k) ∧ Hid (Fresh w wr)) (fun _ iv _ => n + 1 - (intOf iv).toNat)
 case atStart => exact ⟨0, b1, v1, rfl, rfl, by omega, H_z1, H_g1, H_o1, H_f1⟩
 case round =>
  obtain ⟨i, b, v, rfl, rfl, hin, hz, hb, ho, hf⟩ := hrel
  by_cases hlt : i < n
  · have t1 : decide ((i : Int) + 1 ≤ (n : Int)) = true := by simp; omega
    have t2 : i + 1 ≤ n := by omega
    obtain ⟨c, hc⟩ : ∃ c, c = wr.heap.size := ⟨_, rfl⟩
    have hszr := hf.out.size
    have hten := fun o => tenInt_any (wr.alloc o) (by have h1 := H_hG.out.size; simp; omega)
    have hnew : ∀ W, W = wr.alloc (.cells #[.bool false, .slice none 0 0] 110 (0, 0)) → ZI W c (.slice none 0 0) 0 ∧ Fresh wr W := by
     rintro W rfl
     have h1 := H_hG.out.size
     rw [hc]
     exact ⟨ZI.new (heap_alloc_new wr _) (by omega), (Keep.refl _ _).alloc _⟩
    have hsw : ∀ o, (wr.alloc o).heap.size = wr.heap.size + 1 := fun o => by simp
    have hcw : w.heap.size ≤ c := by omega
    have H_hc := hid hc; have H_hten := hid hten; have H_hnew := hid hnew; have H_hsw := hid hsw; have H_hcw := hid hcw; clear hc hten hnew hsw hcw
    go_wp2_with (fail)
    generalize hw4 : wr.alloc _ = w4
    obtain ⟨zc, fc⟩ := H_hnew.out w4 (by rw [← hw4])
    have hten := H_hten.out (.cells #[.bool false, .slice none 0 0] 110 (0, 0))
    rw [hw4] at hten
    have hs4 := H_hsw.out (.cells #[.bool false, .slice none 0 0] 110 (0, 0))
    rw [hw4] at hs4
    rw [← H_hc.out]
    have H_zc := hid zc; have H_fc := hid fc; have H_hw4 := hid hw4; have H_hs4 := hid hs4; clear zc fc hw4 hs4
    refine hten.mono ?_
    rintro e w5 ⟨bt, vt, rfl, zt, ft, gt, ot⟩
    clear hten
    have hblt := hz.out.lt
    have hmul := IntMul_z c b bt (.slice none 0 0) v vt 0 ((10 ^ i : Nat) : Int) 10 w5 (H_hG.out.fresh (ftr hf.out (ftr H_fc.out ft))) (ten_wpow39 (by omega)) (by unfold wpow; decide) (by have := H_hs4.out; omega) (H_zc.out.fresh ft) (hz.out.fresh (ftr H_fc.out ft)) zt (Sep.nil _) (Sep.nil _)
    have hfa := ftr hf.out (ftr H_fc.out ft)
    have H_hmul := hid hmul; have H_hfa := hid hfa; have H_zt := hid zt; have H_ft := hid ft; have H_gt := hid gt; have H_ot := hid ot; clear hmul hfa zt ft gt ot
    go_wp2_with (fail)
    refine H_hmul.out.mono ?_
    rintro e w6 ⟨rfl, hset⟩
    obtain ⟨v6, z6, f6, o6⟩ := hset.fresh H_hfa.out H_hcw.out
    rw [show ((10 ^ i : Nat) : Int) * 10 = ((10 ^ (i + 1) : Nat) : Int) by rw [Nat.pow_succ]; push_cast; rfl] at z6
    clear hset
    have H_z6 := hid z6; have H_f6 := hid f6; have H_o6 := hid o6; clear z6 f6 o6
    go_wp2_with (fail)
    go_roundw
    case rel => exact ⟨i + 1, c, v6, by simp, rfl, by omega, H_z6, H_hcw, H_o6, H_f6⟩
    case measure => simp [intOf]; omega
  · obtain rfl : i = n := by omega
    have t1 : decide ((i : Int) + 1 ≤ (i : Int)) = false := by simp; omega
    have t2 : ¬ ((i : Int) + 1 ≤ (i : Int)) := by omega
    go_wp2_with (fail)
    go_ret
    exact ⟨b, v, rfl, hz.out, hf.out, hb.out, ho.out⟩

theorem pow10_any (n : Nat) (w : World) (hG : Glob w) (hn : n ≤ 127) : Calls Tryz.prog 111 #[.int .i64 n] w (ZNew w ((10 ^ n : Nat) : Int)) := by
 have hc := pow10Table_any n w hG hn
 have t1 : decide ((n : Int) < 128) = true := by simp; omega
 have t2 : n < 128 := by omega
 generalize ((10 ^ n : Nat) : Int) = z at *
 clear hG hn
 have H_hc := hid hc; clear hc
 go_enter Tryz.func111, Tryz.ntmps111
 go_wp2_with (fail)
 refine H_hc.out.mono ?_
 rintro e w2 ⟨b, v, rfl, h1, h2, h3, h4⟩
 have H_h1 := hid h1; have H_h2 := hid h2; have H_h3 := hid h3; have H_h4 := hid h4; clear h1 h2 h3 h4
 go_wp2_with (fail)
 go_ret
 exact ⟨b, v, rfl, H_h1.out, H_h2.out, H_h3.out, H_h4.out⟩

end Go.Proofs.YtllencgncinphaaGreatDoor
