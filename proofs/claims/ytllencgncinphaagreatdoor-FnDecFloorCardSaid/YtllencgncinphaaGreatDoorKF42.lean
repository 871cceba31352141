/- shopspring: Decimal.Add: three ways, by the exponents. Printed by gen_da.py Add. -/
import Derived.Test.YtllencgncinphaaGreatDoorKF8
import Derived.Test.YtllencgncinphaaGreatDoorKF19
import Derived.Test.YtllencgncinphaaGreatDoorKF30
import Derived.Test.YtllencgncinphaaGreatDoorKF37
import Derived.Test.YtllencgncinphaaGreatDoorKF41
namespace Go.Proofs.YtllencgncinphaaGreatDoor
open Go.RowKit
open Go.Lib (hid)

theorem IntAdd_z (bz bx bY : Nat) (vz vx vy : Value) (z x y : Int) (w : World) (hlx : x.natAbs < wpow 39) (hly : y.natAbs < wpow 39) (hz : ZI w bz vz z) (hx : ZI w bx vx x) (hy : ZI w bY vy y) (hsx : Sep vz vx) (hsy : Sep vz vy) :
 Calls Tryz.prog 114 #[.pointer (some ⟨bz, 0, none⟩), .pointer (some ⟨bx, 0, none⟩), .pointer (some ⟨bY, 0, none⟩)] w (fun e w' => e = .returned (.pointer (some ⟨bz, 0, none⟩)) ∧ ZSet w bz vz (x + y) w') := by
 obtain ⟨nz, lz, hz, _⟩ := hz
 obtain ⟨nx, lx, hx, rfl⟩ := hx
 obtain ⟨ny, ly, hy, rfl⟩ := hy
 have h1 := hx.len rfl hlx
 have h2 := hy.len rfl hly
 exact (Int_Add bz 0 bx 0 bY 0 nz nx ny vz vx vy lz lx ly w (by omega) (by omega) hz hx hy hsx hsy).mono fun _ _ h => h.zset

theorem ZSet.own {w0 w w' : World} {b : Nat} {v0 : Value} {z : Int} (h : ZSet w b v0 z w') (hf : Fresh w0 w) (hb : w0.heap.size ≤ b) (ho : ∀ k, v0.ownBlock = some k → w0.heap.size ≤ k) : ∃ v, ZI w' b v z ∧ Fresh w0 w' ∧ (∀ k, v.ownBlock = some k → w0.heap.size ≤ k) := by
 obtain ⟨v, h1, h2, h3⟩ := h
 refine ⟨v, h1, ?_, fun k hk => ?_⟩
 · refine hf.trans h2 (fun _ _ h => h) (fun k hk h => ?_)
   rcases h with h | h
   · omega
   · have := ho k h; omega
 · rcases h3 k hk with h | h
   · exact ho k h
   · exact Nat.le_trans hf.size h

theorem IntSub_z (bz bx bY : Nat) (vz vx vy : Value) (z x y : Int) (w : World) (hlx : x.natAbs < wpow 39) (hly : y.natAbs < wpow 39) (hz : ZI w bz vz z) (hx : ZI w bx vx x) (hy : ZI w bY vy y) (hsx : Sep vz vx) (hsy : Sep vz vy) :
 Calls Tryz.prog 119 #[.pointer (some ⟨bz, 0, none⟩), .pointer (some ⟨bx, 0, none⟩), .pointer (some ⟨bY, 0, none⟩)] w (fun e w' => e = .returned (.pointer (some ⟨bz, 0, none⟩)) ∧ ZSet w bz vz (x - y) w') := by
 obtain ⟨nz, lz, hz, _⟩ := hz
 obtain ⟨nx, lx, hx, rfl⟩ := hx
 obtain ⟨ny, ly, hy, rfl⟩ := hy
 have h1 := hx.len rfl hlx
 have h2 := hy.len rfl hly
 exact (Int_Sub bz 0 bx 0 bY 0 nz nx ny vz vx vy lz lx ly w (by omega) (by omega) hz hx hy hsx hsy).mono fun _ _ h => h.zset

theorem ZI.neg {w : World} {b : Nat} {v : Value} {z : Int} (h : ZI w b v z) : w.cell? ⟨b, 0, none⟩ = some (.bool (decide (z < 0))) := by
 obtain ⟨neg, l, hi, rfl⟩ := h
 have c0 := hi.str.c0
 have e : decide (ival neg l < 0) = neg := by
  cases neg
  · exact decide_eq_false (by simp [ival])
  · have hp : 0 < val l := by
     rcases Nat.eq_zero_or_pos (val l) with h | h
     · have := hi.zero (val_nil_of hi.norm h); cases this
     · exact h
    exact decide_eq_true (by simp [ival]; omega)
 rw [e]; exact c0

theorem IntIs.box {w : World} {g : Nat} {T : TypeId} {s : Bool} {v : Value} {l : List Nat} (h : w.heap[g]? = some (.cells #[.bool s, v] T (0, 0))) (hn : NatAt w v l) (h1 : Norm l) (h2 : l = [] → s = false) (hg : NG ≤ g) : IntIs w g 0 s v l := by
 have c0 := row_cell h 0
 have c1 := row_cell h 1
 simp at c0 c1
 exact ⟨⟨c0, c1, frozen_of_row _ _ _ _ _ h, frozen_of_row _ _ _ _ _ h, hg, _, _, h⟩, hn, h1, h2⟩

theorem natOne_any (w : World) : Calls Tryz.prog 150 #[] w (fun e w' => ∃ v, e = .returned v ∧ v = .slice (some ⟨w.heap.size, 0, none⟩) 1 1 ∧ NatAt w' v [1] ∧ Fresh w w') := by
 go_enter Tryz.func150, Tryz.ntmps150
 go_wp2_with (fail)
 go_ret
 have hb : Blk .u64 (w.alloc (.cells #[.int .u64 1] 123)) w.heap.size [1] := ⟨123, heap_alloc_new w (.cells #[.int .u64 1] 123)⟩
 have hn := NatAt.mk (n := 1) (cap := 1) (off := 0) (by omega) hb (by omega) (by simp) (by simp)
 exact ⟨_, rfl, rfl, by simpa [seg] using hn, (Keep.refl _ _).alloc _⟩

theorem norm_one : Norm [1] := by
 intro k hk
 have : k = 0 := by simp at hk; omega
 subst this
 simp [List.getD]

theorem intOne_any (w : World) (hNG : NG ≤ w.heap.size) : Calls Tryz.prog 139 #[] w (ZNew w 1) := by
 have hc := natOne_any w
 obtain ⟨h, hh⟩ : ∃ h, h = w.heap.size := ⟨_, rfl⟩
 have H_hc := hid hc; have H_hNG := hid hNG; have H_hh := hid hh; clear hc hNG hh
 go_enter Tryz.func139, Tryz.ntmps139
 go_wp2_with (fail)
 refine H_hc.out.mono ?_
 rintro e w2 ⟨v, rfl, rfl, hn, f2⟩
 have H_hn := hid hn; have H_f2 := hid f2; clear hn f2
 go_wp2_with (fail)
 go_ret
 have f3 := (Keep.refl (fun _ => False) w2).alloc (.cells #[.bool false, .slice (some ⟨w.heap.size, 0, none⟩) 1 1] 110 (0, 0))
 have hsz := H_f2.out.size
 have hNG := H_hNG.out
 exact ⟨w2.heap.size, _, rfl, ⟨false, [1], IntIs.box (heap_alloc_new w2 _) (NatAt.keep H_hn.out f3 (fun _ _ h => h)) norm_one (fun h => by simp at h) (by omega), by simp [ival, val_one_word]⟩, fresh_trans H_f2.out f3, hsz, fun k hk => by simp [Value.ownBlock] at hk; omega⟩

set_option maxRecDepth 20000 in
set_option maxHeartbeats 4000000 in
theorem IntDiv_neg (bz bx bY : Nat) (vx vy : Value) (x y : Int) (w : World) (hG : Glob w) (hlx : x.natAbs < wpow 38) (hly : y.natAbs < wpow 39) (hy0 : 0 < y) (d2 : bx ≠ bz) (d4 : bY ≠ bz)
 (hz : ZI w bz (.slice none 0 0) 0) (hx : ZI w bx vx x) (hy : ZI w bY vy y) (hR : x.tmod y < 0) :
 Calls Tryz.prog 109 #[.pointer (some ⟨bz, 0, none⟩), .pointer (some ⟨bx, 0, none⟩), .pointer (some ⟨bY, 0, none⟩)] w
  (fun e w' => e = .returned (.pointer (some ⟨bz, 0, none⟩)) ∧ ∃ v, ZI w' bz v (x.tdiv y - 1) ∧ Keep (fun k => k = bz) w w' ∧ (∀ k, v.ownBlock = some k → w.heap.size ≤ k)) := by
 have cy := hy.neg
 rw [decide_eq_false (show ¬ y < 0 by omega)] at cy
 have hzl := hz.lt
 have hxl := hx.lt
 have hyl := hy.lt
 obtain ⟨h, hh⟩ : ∃ h, h = w.heap.size := ⟨_, rfl⟩
 obtain ⟨Q, hQ⟩ : ∃ Q, x.tdiv y = Q := ⟨_, rfl⟩
 obtain ⟨R, hRR⟩ : ∃ R, x.tmod y = R := ⟨_, rfl⟩
 rw [hQ]
 rw [hRR] at hR
 have hQl : Q.natAbs < wpow 39 := by
  rw [← hQ, Int.natAbs_tdiv]
  exact Nat.lt_of_le_of_lt (Nat.div_le_self _ _) (Nat.lt_of_lt_of_le hlx (wpow_mono (by omega)))
 have hone := fun W (hW : NG ≤ W.heap.size) => intOne_any W hW
 have hdr := decide_eq_true hR
 have H_hz := hid hz; have H_hx := hid hx; have H_hy := hid hy; have H_hG := hid hG; have H_hlx := hid hlx; have H_hly := hid hly; have H_hy0 := hid hy0; have H_d2 := hid d2; have H_d4 := hid d4; have H_hzl := hid hzl; have H_hxl := hid hxl; have H_hyl := hid hyl; have H_hh := hid hh; have H_hQ := hid hQ; have H_hRR := hid hRR; have H_hQl := hid hQl; have H_hone := hid hone; have H_hdr := hid hdr; have H_hR := hid hR; clear hz hx hy hG hlx hly hy0 d2 d4 hzl hxl hyl hh hQ hRR hQl hone hdr hR
 go_enter Tryz.func109, Tryz.ntmps109
 go_wp2_with (fail)
 generalize hw1 : w.alloc _ = w1
 have f1 : Fresh w w1 := by rw [← hw1]; exact (Keep.refl _ _).alloc _
 have r1 : w1.heap[h]? = some (.cells #[.bool false, .slice none 0 0] 110 (0, 0)) := by rw [← hw1, H_hh.out]; exact heap_alloc_new w _
 rw [← H_hh.out]
 have hNG := H_hG.out.size
 have zr := ZI.new r1 (by have := H_hh.out; omega)
 have hqr := IntQuoRem_z bz bx bY h vx vy x y w1 (H_hG.out.fresh f1) (Nat.lt_of_lt_of_le H_hlx.out (wpow_mono (by omega))) H_hly.out (by have := H_hy0.out; omega) (by have h1 := H_hzl.out; have h2 := H_hh.out; omega) H_d2.out (by have h1 := H_hxl.out; have h2 := H_hh.out; omega) H_d4.out (by have h1 := H_hyl.out; have h2 := H_hh.out; omega) (H_hz.out.fresh f1) (H_hx.out.fresh f1) (H_hy.out.fresh f1) zr
 rw [H_hQ.out, H_hRR.out] at hqr
 clear r1 zr hNG cy
 have H_f1 := hid f1; have H_hqr := hid hqr; have H_hw1 := hid hw1; clear f1 hqr hw1
 refine H_hqr.out.mono ?_
 rintro e w2 ⟨rfl, v, u, zq, zr, kq, oq, orr, hdis⟩
 have cr := zr.neg
 rw [H_hdr.out] at cr
 have kk : Keep (fun k => k = bz) w w2 := H_f1.out.trans kq (fun _ _ h => h.elim) (fun k hk e => e.elim id (fun e => by have := H_hh.out; omega))
 have ow : ∀ k, v.ownBlock = some k → w.heap.size ≤ k := fun k hk => Nat.le_trans H_f1.out.size (oq k hk)
 have hng : NG ≤ w2.heap.size := by have h1 := H_hG.out.size; have h2 := kk.size; omega
 have H_zq := hid zq; have H_zr := hid zr; have H_kq := hid kq; have H_oq := hid oq; have H_orr := hid orr; have H_hdis := hid hdis; have H_kk := hid kk; have H_ow := hid ow; have H_hng := hid hng; clear zq zr kq oq orr hdis kk ow hng
 go_wp2_with (fail)
 refine (H_hone.out _ H_hng.out).mono ?_
 rintro e w3 ⟨bo, vo, rfl, zo, f3, go, oo⟩
 have hsub := IntSub_z bz bz bo v v vo Q Q 1 w3 H_hQl.out (by decide) (H_zq.out.fresh f3) (H_zq.out.fresh f3) zo (.inl rfl) (.inr (fun k hk hk' => by have h1 := oo k hk'; have h2 := H_zq.out.own_lt hk; omega))
 clear zo go oo cr
 have H_f3 := hid f3; have H_hsub := hid hsub; clear f3 hsub
 go_wp2_with (fail)
 refine H_hsub.out.mono ?_
 rintro e w4 ⟨rfl, v4, z4, k4, o4⟩
 have ow4 : ∀ k, v4.ownBlock = some k → w.heap.size ≤ k := fun k hk => (o4 k hk).elim (fun e => H_ow.out k e) (fun e => by have h1 := H_f3.out.size; have h2 := H_kk.out.size; omega)
 have kk4 : Keep (fun k => k = bz) w w4 := (H_kk.out.trans H_f3.out (U := fun k => k = bz) (fun _ _ h => h) (fun _ _ h => h.elim)).trans k4 (fun _ _ h => h) (fun k hk e => e.elim id (fun e => by have := H_ow.out k e; omega))
 have H_z4 := hid z4; have H_k4 := hid k4; have H_o4 := hid o4; have H_ow4 := hid ow4; have H_kk4 := hid kk4; clear z4 k4 o4 ow4 kk4
 go_wp2_with (fail)
 go_ret
 exact ⟨rfl, v4, H_z4.out, H_kk4.out, H_ow4.out⟩

set_option maxRecDepth 20000 in
set_option maxHeartbeats 4000000 in
theorem IntDiv_pos (bz bx bY : Nat) (vx vy : Value) (x y : Int) (w : World) (hG : Glob w) (hlx : x.natAbs < wpow 38) (hly : y.natAbs < wpow 39) (hy0 : 0 < y) (d2 : bx ≠ bz) (d4 : bY ≠ bz)
 (hz : ZI w bz (.slice none 0 0) 0) (hx : ZI w bx vx x) (hy : ZI w bY vy y) (hR : ¬ x.tmod y < 0) :
 Calls Tryz.prog 109 #[.pointer (some ⟨bz, 0, none⟩), .pointer (some ⟨bx, 0, none⟩), .pointer (some ⟨bY, 0, none⟩)] w
  (fun e w' => e = .returned (.pointer (some ⟨bz, 0, none⟩)) ∧ ∃ v, ZI w' bz v (x.tdiv y) ∧ Keep (fun k => k = bz) w w' ∧ (∀ k, v.ownBlock = some k → w.heap.size ≤ k)) := by
 have cy := hy.neg
 rw [decide_eq_false (show ¬ y < 0 by omega)] at cy
 have hzl := hz.lt
 have hxl := hx.lt
 have hyl := hy.lt
 obtain ⟨h, hh⟩ : ∃ h, h = w.heap.size := ⟨_, rfl⟩
 obtain ⟨Q, hQ⟩ : ∃ Q, x.tdiv y = Q := ⟨_, rfl⟩
 obtain ⟨R, hRR⟩ : ∃ R, x.tmod y = R := ⟨_, rfl⟩
 rw [hQ]
 rw [hRR] at hR
 have hQl : Q.natAbs < wpow 39 := by
  rw [← hQ, Int.natAbs_tdiv]
  exact Nat.lt_of_le_of_lt (Nat.div_le_self _ _) (Nat.lt_of_lt_of_le hlx (wpow_mono (by omega)))
 have hone := fun W (hW : NG ≤ W.heap.size) => intOne_any W hW
 have hdr := decide_eq_false hR
 have H_hz := hid hz; have H_hx := hid hx; have H_hy := hid hy; have H_hG := hid hG; have H_hlx := hid hlx; have H_hly := hid hly; have H_hy0 := hid hy0; have H_d2 := hid d2; have H_d4 := hid d4; have H_hzl := hid hzl; have H_hxl := hid hxl; have H_hyl := hid hyl; have H_hh := hid hh; have H_hQ := hid hQ; have H_hRR := hid hRR; have H_hQl := hid hQl; have H_hone := hid hone; have H_hdr := hid hdr; have H_hR := hid hR; clear hz hx hy hG hlx hly hy0 d2 d4 hzl hxl hyl hh hQ hRR hQl hone hdr hR
 go_enter Tryz.func109, Tryz.ntmps109
 go_wp2_with (fail)
 generalize hw1 : w.alloc _ = w1
 have f1 : Fresh w w1 := by rw [← hw1]; exact (Keep.refl _ _).alloc _
 have r1 : w1.heap[h]? = some (.cells #[.bool false, .slice none 0 0] 110 (0, 0)) := by rw [← hw1, H_hh.out]; exact heap_alloc_new w _
 rw [← H_hh.out]
 have hNG := H_hG.out.size
 have zr := ZI.new r1 (by have := H_hh.out; omega)
 have hqr := IntQuoRem_z bz bx bY h vx vy x y w1 (H_hG.out.fresh f1) (Nat.lt_of_lt_of_le H_hlx.out (wpow_mono (by omega))) H_hly.out (by have := H_hy0.out; omega) (by have h1 := H_hzl.out; have h2 := H_hh.out; omega) H_d2.out (by have h1 := H_hxl.out; have h2 := H_hh.out; omega) H_d4.out (by have h1 := H_hyl.out; have h2 := H_hh.out; omega) (H_hz.out.fresh f1) (H_hx.out.fresh f1) (H_hy.out.fresh f1) zr
 rw [H_hQ.out, H_hRR.out] at hqr
 clear r1 zr hNG cy
 have H_f1 := hid f1; have H_hqr := hid hqr; have H_hw1 := hid hw1; clear f1 hqr hw1
 refine H_hqr.out.mono ?_
 rintro e w2 ⟨rfl, v, u, zq, zr, kq, oq, orr, hdis⟩
 have cr := zr.neg
 rw [H_hdr.out] at cr
 have kk : Keep (fun k => k = bz) w w2 := H_f1.out.trans kq (fun _ _ h => h.elim) (fun k hk e => e.elim id (fun e => by have := H_hh.out; omega))
 have ow : ∀ k, v.ownBlock = some k → w.heap.size ≤ k := fun k hk => Nat.le_trans H_f1.out.size (oq k hk)
 have H_zq := hid zq; have H_zr := hid zr; have H_kq := hid kq; have H_oq := hid oq; have H_orr := hid orr; have H_hdis := hid hdis; have H_kk := hid kk; have H_ow := hid ow; clear zq zr kq oq orr hdis kk ow
 go_wp2_with (fail)
 go_ret
 exact ⟨rfl, v, H_zq.out, H_kk.out, H_ow.out⟩

set_option maxRecDepth 20000 in
set_option maxHeartbeats 4000000 in
theorem IntDivMod_neg (bz bx bY bm : Nat) (vx vy : Value) (x y : Int) (w : World) (hG : Glob w) (hlx : x.natAbs < wpow 38) (hly : y.natAbs < wpow 38) (hy0 : 0 < y) (d1 : bz ≠ bm) (d2 : bx ≠ bz) (d3 : bx ≠ bm) (d4 : bY ≠ bz) (d5 : bY ≠ bm)
 (hz : ZI w bz (.slice none 0 0) 0) (hx : ZI w bx vx x) (hy : ZI w bY vy y) (hm : ZI w bm (.slice none 0 0) 0) (hR : x.tmod y < 0) :
 Calls Tryz.prog 112 #[.pointer (some ⟨bz, 0, none⟩), .pointer (some ⟨bx, 0, none⟩), .pointer (some ⟨bY, 0, none⟩), .pointer (some ⟨bm, 0, none⟩)] w
  (fun e w' => e = .returned (.tuple #[.pointer (some ⟨bz, 0, none⟩), .pointer (some ⟨bm, 0, none⟩)]) ∧ ∃ v u, ZI w' bz v (x.tdiv y - 1) ∧ ZI w' bm u (x.tmod y + y) ∧ Keep (fun k => k = bz ∨ k = bm) w w' ∧ (∀ k, v.ownBlock = some k → w.heap.size ≤ k)) := by
 have heq : ∀ W, Fresh w W → (binOp .eql 59 (.pointer (some ⟨bz, 0, none⟩)) (.pointer (some ⟨bY, 0, none⟩))).run Tryz.prog W = .ok (.bool false) W := by
  intro W hW
  obtain ⟨_, _, h1, _⟩ := hz.fresh hW
  obtain ⟨_, _, h2, _⟩ := hy.fresh hW
  exact StrAt.eql_ne h1.str h2.str (Ne.symm d4) Tryz.underlying59 (by kernel_rfl)
 have hal : Calls Tryz.prog 144 #[.slice none 0 0, vy] w.drew (Quiet w.drew (.bool false)) := by
  obtain ⟨_, l, h2, _⟩ := hy
  exact alias_apart (.slice none 0 0) vy [] l w.drew (NatAt.nil _) h2.nat.drew (fun k h => by simp [Value.ownBlock] at h)
 have cz1 : w.cell? ⟨bz, 1, none⟩ = some (.slice none 0 0) := by obtain ⟨_, _, h1, _⟩ := hz; exact h1.str.c1
 have cy1 : w.cell? ⟨bY, 1, none⟩ = some vy := by obtain ⟨_, _, h1, _⟩ := hy; exact h1.str.c1
 have hv : ∃ a n c, vy = .slice a n c := by obtain ⟨_, l, h2, _⟩ := hy; obtain ⟨a, c, h⟩ := h2.nat.form; exact ⟨a, _, c, h⟩
 obtain ⟨ya, yn, yc, hvy⟩ := hv
 obtain ⟨Q, hQ⟩ : ∃ Q, x.tdiv y = Q := ⟨_, rfl⟩
 obtain ⟨R, hRR⟩ : ∃ R, x.tmod y = R := ⟨_, rfl⟩
 rw [hQ, hRR]
 rw [hRR] at hR
 have hQl : Q.natAbs < wpow 39 := by
  rw [← hQ, Int.natAbs_tdiv]
  exact Nat.lt_of_le_of_lt (Nat.div_le_self _ _) (Nat.lt_of_lt_of_le hlx (wpow_mono (by omega)))
 have hRl : R.natAbs < wpow 39 := by
  rw [← hRR, tmod_abs]
  exact Nat.lt_of_le_of_lt (Nat.mod_le _ _) (Nat.lt_of_lt_of_le hlx (wpow_mono (by omega)))
 have hone := fun W (hW : NG ≤ W.heap.size) => intOne_any W hW
 have hdr := decide_eq_true hR
 have hyn := fun W (hW : ZI W bY vy y) => hW.neg
 rw [decide_eq_false (show ¬ y < 0 by omega)] at hyn
 have heq0 := heq w.drew ((Keep.refl _ _).drew)
 subst hvy
 have H_hz := hid hz; have H_hx := hid hx; have H_hy := hid hy; have H_hm := hid hm; have H_hG := hid hG; have H_hlx := hid hlx; have H_hly := hid hly; have H_hy0 := hid hy0; have H_d1 := hid d1; have H_d2 := hid d2; have H_d3 := hid d3; have H_d4 := hid d4; have H_d5 := hid d5; have H_hQ := hid hQ; have H_hRR := hid hRR; have H_hQl := hid hQl; have H_hRl := hid hRl; have H_hone := hid hone; have H_hdr := hid hdr; have H_hR := hid hR; have H_hyn := hid hyn; have H_hal := hid hal; have H_heq := hid heq; clear hz hx hy hm hG hlx hly hy0 d1 d2 d3 d4 d5 hQ hRR hQl hRl hone hdr hR hyn hal heq
 go_enter Tryz.func112, Tryz.ntmps112
 go_wp2_with (fail)
 refine wp_region_E (S := (fun (w' : World) => (binOp .eql 59 (.pointer (some ⟨bz, 0, none⟩)) (.pointer (some ⟨bY, 0, none⟩))).run Tryz.prog w' = .ok (.bool false) w' ∧ w'.cell? ⟨bz, 1, none⟩ = some (.slice none 0 0) ∧ w'.cell? ⟨bY, 1, none⟩ = some (.slice ya yn yc))) 13 (by kernel_rfl) (by exact ⟨heq0, cz1, cy1⟩) (fun hHeld => ?_)
 refine wpAnyE_takeP (i := 0) (v := ?v0_1) rfl (by kernel_rfl) (fun _ _ _ h => h) ⟨by rfl, ?y0_1⟩ (by assumption) ?r0_1
 case y0_1 => (intro w; go_simp; try with_reducible rfl)
 try simp only [Act.put, yA, yB, yD, yE, yF]
 refine wpAnyE_takeP (i := 1) (v := ?v1_1) rfl (by kernel_rfl) (fun _ _ _ h => h) ⟨by rfl, ?y1_1⟩ (by assumption) ?r1_1
 case y1_1 => (intro w; go_simp; try with_reducible rfl)
 try simp only [Act.put, yA, yB, yC, yD, yE, yF]
 refine wpAnyE_takeL (i := 2) (c := 3) (v := ?v2_1) rfl (by kernel_rfl) (fun _ _ _ h => h) ⟨by rfl, ?y2_1⟩ (by assumption) ?r2_1
 case y2_1 => (intro w hSw; go_split_ands; go_simp; try with_reducible rfl)
 try simp only [Act.put, yA, yB, yC, yD, yE, yF]
 refine wpAnyE_takeP (i := 3) (v := .bool false) rfl (by kernel_rfl) (fun _ _ _ h => h) ⟨by rfl, ?y3_1⟩ (by assumption) ?r3_1
 case y3_1 => (intro w; go_simp)
 try simp only [Act.put, yA, yB, yC, yD, yE, yF]
 refine wpAnyE_takeP (i := 4) (v := ?v4_1) rfl (by kernel_rfl) (fun _ _ _ h => h) ⟨by rfl, ?y4_1⟩ (by assumption) ?r4_1
 case y4_1 => (intro w; go_simp; try with_reducible rfl)
 try simp only [Act.put, yA, yB, yC, yD, yE, yF]
 refine wpAnyE_takeP (i := 5) (v := ?v5_1) rfl (by kernel_rfl) (fun _ _ _ h => h) ⟨by rfl, ?y5_1⟩ (by assumption) ?r5_1
 case y5_1 => (intro w; go_simp; try with_reducible rfl)
 try simp only [Act.put, yA, yB, yC, yD, yE, yF]
 refine wpAnyE_takeP (i := 6) (v := ?v6_1) rfl (by kernel_rfl) (fun _ _ _ h => h) ⟨by rfl, ?y6_1⟩ (by assumption) ?r6_1
 case y6_1 => (intro w; go_simp; try with_reducible rfl)
 try simp only [Act.put, yA, yB, yC, yD, yE, yF]
 refine wpAnyE_takeL (i := 7) (c := 12) (v := ?v7_1) rfl (by kernel_rfl) (fun _ _ _ h => h) ⟨by rfl, ?y7_1⟩ (by assumption) ?r7_1
 case y7_1 => (intro w hSw; go_split_ands; go_simp; try with_reducible rfl)
 try simp only [Act.put, yA, yB, yC, yD, yE, yF]
 refine wpAnyE_takeP (i := 8) (v := ?v8_1) rfl (by kernel_rfl) (fun _ _ _ h => h) ⟨by rfl, ?y8_1⟩ (by assumption) ?r8_1
 case y8_1 => (intro w; go_simp; try with_reducible rfl)
 try simp only [Act.put, yA, yB, yC, yD, yE, yF]
 refine wpAnyE_takeP (i := 9) (v := ?v9_1) rfl (by kernel_rfl) (fun _ _ _ h => h) ⟨by rfl, ?y9_1⟩ (by assumption) ?r9_1
 case y9_1 => (intro w; go_simp; try with_reducible rfl)
 try simp only [Act.put, yA, yB, yC, yD, yE, yF]
 refine wpAnyE_takeP (i := 10) (v := ?v10_1) rfl (by kernel_rfl) (fun _ _ _ h => h) ⟨by rfl, ?y10_1⟩ (by assumption) ?r10_1
 case y10_1 => (intro w; go_simp; try with_reducible rfl)
 try simp only [Act.put, yA, yB, yC, yD, yE, yF]
 refine wpAnyE_takeL (i := 11) (c := 12) (v := ?v11_1) rfl (by kernel_rfl) (fun _ _ _ h => h) ⟨by rfl, ?y11_1⟩ (by assumption) ?r11_1
 case y11_1 => (intro w hSw; go_split_ands; go_simp; try with_reducible rfl)
 try simp only [Act.put, yA, yB, yC, yD, yE, yF]
 refine wpAnyE_one (i := 12) rfl (by kernel_rfl) (fun K hK => ?_)
 go_simp
 refine H_hal.out.mono ?_; rintro e w1 ⟨rfl, nd, rfl⟩; have y1 : Fresh w (w.drewN (1 + nd)) := (Keep.refl _ w).drewN _; have m0 := cell_fresh cz1 y1; have m1 := cell_fresh cy1 y1; have heq1 := H_heq.out _ y1; have H_y1 := hid y1; clear y1
 go_wp2_with (fail)
 have hHeld1 : ((fun (w' : World) => (binOp .eql 59 (.pointer (some ⟨bz, 0, none⟩)) (.pointer (some ⟨bY, 0, none⟩))).run Tryz.prog w' = .ok (.bool false) w' ∧ w'.cell? ⟨bz, 1, none⟩ = some (.slice none 0 0) ∧ w'.cell? ⟨bY, 1, none⟩ = some (.slice ya yn yc))) _ := ⟨heq1, m0, m1⟩
 refine hK.out _ _ (fun _ => hHeld1) ?_
 clear hK K
 try simp only [Act.put, yA, yB, yC, yD, yE, yF]
 refine wpAnyE_one (i := 13) rfl (by kernel_rfl) (fun K hK => ?_)
 go_simp
 refine hK.out _ _ (fun h => Bool.noConfusion (show true = false from h)) ?_
 clear hK K
 try simp only [Act.put, yA, yB, yC, yD, yE, yF]
 refine wpAnyE_done (by kernel_rfl) ?_ _
 generalize hwq : w.drewN (1 + nd) = w1
 have y1 := H_y1.out
 rw [hwq] at y1
 clear H_y1 heq0 cz1 cy1 heq1 m0 m1
 have zy := H_hy.out.fresh y1
 have hqr := IntQuoRem_z bz bx bY bm vx _ x y w1 (H_hG.out.fresh y1) (Nat.lt_of_lt_of_le H_hlx.out (wpow_mono (by omega))) (Nat.lt_of_lt_of_le H_hly.out (wpow_mono (by omega))) (by have := H_hy0.out; omega) H_d1.out H_d2.out H_d3.out H_d4.out H_d5.out (H_hz.out.fresh y1) (H_hx.out.fresh y1) zy (H_hm.out.fresh y1)
 rw [H_hQ.out, H_hRR.out] at hqr
 have hyl := zy.lt
 have hyo := fun k hk => zy.own_lt (k := k) hk
 have hyz : ∀ k, (Value.slice ya yn yc).ownBlock = some k → k ≠ bz ∧ k ≠ bm := by
  intro k hk
  obtain ⟨_, _, h1, _⟩ := H_hz.out
  obtain ⟨_, _, h2, _⟩ := H_hm.out
  obtain ⟨_, _, h3, _⟩ := H_hy.out
  exact ⟨(IntIs.ne h1.str h3.nat hk).symm, (IntIs.ne h2.str h3.nat hk).symm⟩
 have H_y1 := hid y1; have H_hqr := hid hqr; have H_hwq := hid hwq; have H_zy := hid zy; have H_hyl := hid hyl; have H_hyo := hid hyo; have H_hyz := hid hyz; clear y1 hqr hwq zy hyl hyo hyz
 go_wp2_with (fail)
 refine H_hqr.out.mono ?_
 rintro e w2 ⟨rfl, v, u, zq, zr, kq, oq, orr, hdis⟩
 have cr := zr.neg
 rw [H_hdr.out] at cr
 have kk : Keep (fun k => k = bz ∨ k = bm) w w2 := H_y1.out.trans kq (fun _ _ h => h.elim) (fun _ _ h => h)
 have ow : ∀ k, v.ownBlock = some k → w.heap.size ≤ k := fun k hk => Nat.le_trans H_y1.out.size (oq k hk)
 have zy2 := H_zy.out.keep kq (fun e => e.elim H_d4.out H_d5.out) (fun k hk e => e.elim (H_hyz.out k hk).1 (H_hyz.out k hk).2)
 have cy := H_hyn.out _ zy2
 have hng : NG ≤ w2.heap.size := by have h1 := H_hG.out.size; have h2 := kk.size; omega
 have kqs := kq.size
 have H_zq := hid zq; have H_zr := hid zr; have H_kq := hid kq; have H_oq := hid oq; have H_orr := hid orr; have H_hdis := hid hdis; have H_kk := hid kk; have H_ow := hid ow; have H_zy2 := hid zy2; have H_hng := hid hng; have H_kqs := hid kqs; clear zq zr kq oq orr hdis kk ow zy2 hng kqs
 go_wp2_with (fail)
 refine (H_hone.out _ H_hng.out).mono ?_
 rintro e w3 ⟨bo, vo, rfl, zo, f3, go, oo⟩
 have hsub := IntSub_z bz bz bo v v vo Q Q 1 w3 H_hQl.out (by decide) (H_zq.out.fresh f3) (H_zq.out.fresh f3) zo (.inl rfl) (.inr (fun k hk hk' => by have h1 := oo k hk'; have h2 := H_zq.out.own_lt hk; omega))
 clear zo go oo cr cy
 have H_f3 := hid f3; have H_hsub := hid hsub; clear f3 hsub
 go_wp2_with (fail)
 refine H_hsub.out.mono ?_
 rintro e w4 ⟨rfl, v4, z4, k4, o4⟩
 have ow4 : ∀ k, v4.ownBlock = some k → w.heap.size ≤ k := fun k hk => (o4 k hk).elim (fun e => H_ow.out k e) (fun e => by have h1 := H_f3.out.size; have h2 := H_kk.out.size; omega)
 have oqv : ∀ k, v.ownBlock = some k → w1.heap.size ≤ k := H_oq.out
 have nb : ∀ k, k < w1.heap.size → k ≠ bz → ¬ (k = bz ∨ v.ownBlock = some k) := fun k hk hb e => e.elim hb (fun e => by have := oqv k e; omega)
 have zm4 := (H_zr.out.fresh H_f3.out).keep k4 (nb _ (by have := H_hm.out.lt; have := H_y1.out.size; omega) (Ne.symm H_d1.out)) (fun k hk e => e.elim (fun e => by obtain ⟨_, _, h1, _⟩ := H_hz.out.fresh (H_y1.out); obtain ⟨_, _, h3, _⟩ := H_zr.out; have h5 := H_orr.out k hk; have h6 := h1.str.lt; omega) (fun e => H_hdis.out k e hk))
 have zy4 := (H_zy2.out.fresh H_f3.out).keep k4 (nb _ H_hyl.out H_d4.out) (fun k hk => nb _ (H_hyo.out k hk) (H_hyz.out k hk).1)
 have kk4 : Keep (fun k => k = bz ∨ k = bm) w w4 := (H_kk.out.trans H_f3.out (U := fun k => k = bz ∨ k = bm) (fun _ _ h => h) (fun _ _ h => h.elim)).trans k4 (fun _ _ h => h) (fun k hk e => e.elim .inl (fun e => by have := H_ow.out k e; omega))
 have hadd := IntAdd_z bm bm bY u u _ R R y w4 H_hRl.out (Nat.lt_of_lt_of_le H_hly.out (wpow_mono (by omega))) zm4 zm4 zy4 (.inl rfl) (.inr (fun k hk hk' => by have h1 := H_orr.out k hk; have h2 := H_hyo.out k hk'; omega))
 have hbm4 := zm4.lt
 have o4d : ∀ k, v4.ownBlock = some k → k ≠ bm ∧ u.ownBlock ≠ some k := fun k hk => (o4 k hk).elim (fun e => ⟨by have h1 := oqv k e; have h2 := H_hm.out.lt; have h3 := H_y1.out.size; omega, H_hdis.out k e⟩) (fun e => ⟨by have h1 := H_zr.out.lt; have h2 := H_f3.out.size; omega, fun e' => by have h1 := H_zr.out.own_lt e'; have h2 := H_f3.out.size; omega⟩)
 have H_z4 := hid z4; have H_k4 := hid k4; have H_o4 := hid o4; have H_ow4 := hid ow4; have H_oqv := hid oqv; have H_nb := hid nb; have H_zm4 := hid zm4; have H_zy4 := hid zy4; have H_kk4 := hid kk4; have H_hadd := hid hadd; have H_o4d := hid o4d; clear z4 k4 o4 ow4 oqv nb zm4 zy4 kk4 hadd o4d
 go_wp2_with (fail)
 refine H_hadd.out.mono ?_
 rintro e w5 ⟨rfl, u5, z5, k5, o5⟩
 have z4' := H_z4.out.keep k5 (fun e => e.elim H_d1.out (fun e => by have h1 := H_orr.out _ e; have h2 := H_hz.out.lt; have h3 := H_y1.out.size; omega)) (fun k hk e => e.elim (H_o4d.out k hk).1 (H_o4d.out k hk).2)
 have kk5 : Keep (fun k => k = bz ∨ k = bm) w w5 := H_kk4.out.trans k5 (fun _ _ h => h) (fun k hk e => e.elim .inr (fun e => by have h1 := H_orr.out k e; have h3 := H_y1.out.size; omega))
 have H_z5 := hid z5; have H_k5 := hid k5; have H_o5 := hid o5; have H_z4' := hid z4'; have H_kk5 := hid kk5; clear z5 k5 o5 z4' kk5
 go_wp2_with (fail)
 go_ret2
 exact ⟨rfl, v4, u5, H_z4'.out, H_z5.out, H_kk5.out, H_ow4.out⟩

set_option maxRecDepth 20000 in
set_option maxHeartbeats 4000000 in
theorem IntDivMod_pos (bz bx bY bm : Nat) (vx vy : Value) (x y : Int) (w : World) (hG : Glob w) (hlx : x.natAbs < wpow 38) (hly : y.natAbs < wpow 38) (hy0 : 0 < y) (d1 : bz ≠ bm) (d2 : bx ≠ bz) (d3 : bx ≠ bm) (d4 : bY ≠ bz) (d5 : bY ≠ bm)
 (hz : ZI w bz (.slice none 0 0) 0) (hx : ZI w bx vx x) (hy : ZI w bY vy y) (hm : ZI w bm (.slice none 0 0) 0) (hR : ¬ x.tmod y < 0) :
 Calls Tryz.prog 112 #[.pointer (some ⟨bz, 0, none⟩), .pointer (some ⟨bx, 0, none⟩), .pointer (some ⟨bY, 0, none⟩), .pointer (some ⟨bm, 0, none⟩)] w
  (fun e w' => e = .returned (.tuple #[.pointer (some ⟨bz, 0, none⟩), .pointer (some ⟨bm, 0, none⟩)]) ∧ ∃ v u, ZI w' bz v (x.tdiv y) ∧ ZI w' bm u (x.tmod y) ∧ Keep (fun k => k = bz ∨ k = bm) w w' ∧ (∀ k, v.ownBlock = some k → w.heap.size ≤ k)) := by
 have heq : ∀ W, Fresh w W → (binOp .eql 59 (.pointer (some ⟨bz, 0, none⟩)) (.pointer (some ⟨bY, 0, none⟩))).run Tryz.prog W = .ok (.bool false) W := by
  intro W hW
  obtain ⟨_, _, h1, _⟩ := hz.fresh hW
  obtain ⟨_, _, h2, _⟩ := hy.fresh hW
  exact StrAt.eql_ne h1.str h2.str (Ne.symm d4) Tryz.underlying59 (by kernel_rfl)
 have hal : Calls Tryz.prog 144 #[.slice none 0 0, vy] w.drew (Quiet w.drew (.bool false)) := by
  obtain ⟨_, l, h2, _⟩ := hy
  exact alias_apart (.slice none 0 0) vy [] l w.drew (NatAt.nil _) h2.nat.drew (fun k h => by simp [Value.ownBlock] at h)
 have cz1 : w.cell? ⟨bz, 1, none⟩ = some (.slice none 0 0) := by obtain ⟨_, _, h1, _⟩ := hz; exact h1.str.c1
 have cy1 : w.cell? ⟨bY, 1, none⟩ = some vy := by obtain ⟨_, _, h1, _⟩ := hy; exact h1.str.c1
 have hv : ∃ a n c, vy = .slice a n c := by obtain ⟨_, l, h2, _⟩ := hy; obtain ⟨a, c, h⟩ := h2.nat.form; exact ⟨a, _, c, h⟩
 obtain ⟨ya, yn, yc, hvy⟩ := hv
 obtain ⟨Q, hQ⟩ : ∃ Q, x.tdiv y = Q := ⟨_, rfl⟩
 obtain ⟨R, hRR⟩ : ∃ R, x.tmod y = R := ⟨_, rfl⟩
 rw [hQ, hRR]
 rw [hRR] at hR
 have hQl : Q.natAbs < wpow 39 := by
  rw [← hQ, Int.natAbs_tdiv]
  exact Nat.lt_of_le_of_lt (Nat.div_le_self _ _) (Nat.lt_of_lt_of_le hlx (wpow_mono (by omega)))
 have hRl : R.natAbs < wpow 39 := by
  rw [← hRR, tmod_abs]
  exact Nat.lt_of_le_of_lt (Nat.mod_le _ _) (Nat.lt_of_lt_of_le hlx (wpow_mono (by omega)))
 have hone := fun W (hW : NG ≤ W.heap.size) => intOne_any W hW
 have hdr := decide_eq_false hR
 have hyn := fun W (hW : ZI W bY vy y) => hW.neg
 rw [decide_eq_false (show ¬ y < 0 by omega)] at hyn
 have heq0 := heq w.drew ((Keep.refl _ _).drew)
 subst hvy
 have H_hz := hid hz; have H_hx := hid hx; have H_hy := hid hy; have H_hm := hid hm; have H_hG := hid hG; have H_hlx := hid hlx; have H_hly := hid hly; have H_hy0 := hid hy0; have H_d1 := hid d1; have H_d2 := hid d2; have H_d3 := hid d3; have H_d4 := hid d4; have H_d5 := hid d5; have H_hQ := hid hQ; have H_hRR := hid hRR; have H_hQl := hid hQl; have H_hRl := hid hRl; have H_hone := hid hone; have H_hdr := hid hdr; have H_hR := hid hR; have H_hyn := hid hyn; have H_hal := hid hal; have H_heq := hid heq; clear hz hx hy hm hG hlx hly hy0 d1 d2 d3 d4 d5 hQ hRR hQl hRl hone hdr hR hyn hal heq
 go_enter Tryz.func112, Tryz.ntmps112
 go_wp2_with (fail)
 refine wp_region_E (S := (fun (w' : World) => (binOp .eql 59 (.pointer (some ⟨bz, 0, none⟩)) (.pointer (some ⟨bY, 0, none⟩))).run Tryz.prog w' = .ok (.bool false) w' ∧ w'.cell? ⟨bz, 1, none⟩ = some (.slice none 0 0) ∧ w'.cell? ⟨bY, 1, none⟩ = some (.slice ya yn yc))) 13 (by kernel_rfl) (by exact ⟨heq0, cz1, cy1⟩) (fun hHeld => ?_)
 refine wpAnyE_takeP (i := 0) (v := ?v0_2) rfl (by kernel_rfl) (fun _ _ _ h => h) ⟨by rfl, ?y0_2⟩ (by assumption) ?r0_2
 case y0_2 => (intro w; go_simp; try with_reducible rfl)
 try simp only [Act.put, yA, yB, yD, yE, yF]
 refine wpAnyE_takeP (i := 1) (v := ?v1_2) rfl (by kernel_rfl) (fun _ _ _ h => h) ⟨by rfl, ?y1_2⟩ (by assumption) ?r1_2
 case y1_2 => (intro w; go_simp; try with_reducible rfl)
 try simp only [Act.put, yA, yB, yC, yD, yE, yF]
 refine wpAnyE_takeL (i := 2) (c := 3) (v := ?v2_2) rfl (by kernel_rfl) (fun _ _ _ h => h) ⟨by rfl, ?y2_2⟩ (by assumption) ?r2_2
 case y2_2 => (intro w hSw; go_split_ands; go_simp; try with_reducible rfl)
 try simp only [Act.put, yA, yB, yC, yD, yE, yF]
 refine wpAnyE_takeP (i := 3) (v := .bool false) rfl (by kernel_rfl) (fun _ _ _ h => h) ⟨by rfl, ?y3_2⟩ (by assumption) ?r3_2
 case y3_2 => (intro w; go_simp)
 try simp only [Act.put, yA, yB, yC, yD, yE, yF]
 refine wpAnyE_takeP (i := 4) (v := ?v4_2) rfl (by kernel_rfl) (fun _ _ _ h => h) ⟨by rfl, ?y4_2⟩ (by assumption) ?r4_2
 case y4_2 => (intro w; go_simp; try with_reducible rfl)
 try simp only [Act.put, yA, yB, yC, yD, yE, yF]
 refine wpAnyE_takeP (i := 5) (v := ?v5_2) rfl (by kernel_rfl) (fun _ _ _ h => h) ⟨by rfl, ?y5_2⟩ (by assumption) ?r5_2
 case y5_2 => (intro w; go_simp; try with_reducible rfl)
 try simp only [Act.put, yA, yB, yC, yD, yE, yF]
 refine wpAnyE_takeP (i := 6) (v := ?v6_2) rfl (by kernel_rfl) (fun _ _ _ h => h) ⟨by rfl, ?y6_2⟩ (by assumption) ?r6_2
 case y6_2 => (intro w; go_simp; try with_reducible rfl)
 try simp only [Act.put, yA, yB, yC, yD, yE, yF]
 refine wpAnyE_takeL (i := 7) (c := 12) (v := ?v7_2) rfl (by kernel_rfl) (fun _ _ _ h => h) ⟨by rfl, ?y7_2⟩ (by assumption) ?r7_2
 case y7_2 => (intro w hSw; go_split_ands; go_simp; try with_reducible rfl)
 try simp only [Act.put, yA, yB, yC, yD, yE, yF]
 refine wpAnyE_takeP (i := 8) (v := ?v8_2) rfl (by kernel_rfl) (fun _ _ _ h => h) ⟨by rfl, ?y8_2⟩ (by assumption) ?r8_2
 case y8_2 => (intro w; go_simp; try with_reducible rfl)
 try simp only [Act.put, yA, yB, yC, yD, yE, yF]
 refine wpAnyE_takeP (i := 9) (v := ?v9_2) rfl (by kernel_rfl) (fun _ _ _ h => h) ⟨by rfl, ?y9_2⟩ (by assumption) ?r9_2
 case y9_2 => (intro w; go_simp; try with_reducible rfl)
 try simp only [Act.put, yA, yB, yC, yD, yE, yF]
 refine wpAnyE_takeP (i := 10) (v := ?v10_2) rfl (by kernel_rfl) (fun _ _ _ h => h) ⟨by rfl, ?y10_2⟩ (by assumption) ?r10_2
 case y10_2 => (intro w; go_simp; try with_reducible rfl)
 try simp only [Act.put, yA, yB, yC, yD, yE, yF]
 refine wpAnyE_takeL (i := 11) (c := 12) (v := ?v11_2) rfl (by kernel_rfl) (fun _ _ _ h => h) ⟨by rfl, ?y11_2⟩ (by assumption) ?r11_2
 case y11_2 => (intro w hSw; go_split_ands; go_simp; try with_reducible rfl)
 try simp only [Act.put, yA, yB, yC, yD, yE, yF]
 refine wpAnyE_one (i := 12) rfl (by kernel_rfl) (fun K hK => ?_)
 go_simp
 refine H_hal.out.mono ?_; rintro e w1 ⟨rfl, nd, rfl⟩; have y1 : Fresh w (w.drewN (1 + nd)) := (Keep.refl _ w).drewN _; have m0 := cell_fresh cz1 y1; have m1 := cell_fresh cy1 y1; have heq1 := H_heq.out _ y1; have H_y1 := hid y1; clear y1
 go_wp2_with (fail)
 have hHeld1 : ((fun (w' : World) => (binOp .eql 59 (.pointer (some ⟨bz, 0, none⟩)) (.pointer (some ⟨bY, 0, none⟩))).run Tryz.prog w' = .ok (.bool false) w' ∧ w'.cell? ⟨bz, 1, none⟩ = some (.slice none 0 0) ∧ w'.cell? ⟨bY, 1, none⟩ = some (.slice ya yn yc))) _ := ⟨heq1, m0, m1⟩
 refine hK.out _ _ (fun _ => hHeld1) ?_
 clear hK K
 try simp only [Act.put, yA, yB, yC, yD, yE, yF]
 refine wpAnyE_one (i := 13) rfl (by kernel_rfl) (fun K hK => ?_)
 go_simp
 refine hK.out _ _ (fun h => Bool.noConfusion (show true = false from h)) ?_
 clear hK K
 try simp only [Act.put, yA, yB, yC, yD, yE, yF]
 refine wpAnyE_done (by kernel_rfl) ?_ _
 generalize hwq : w.drewN (1 + nd) = w1
 have y1 := H_y1.out
 rw [hwq] at y1
 clear H_y1 heq0 cz1 cy1 heq1 m0 m1
 have zy := H_hy.out.fresh y1
 have hqr := IntQuoRem_z bz bx bY bm vx _ x y w1 (H_hG.out.fresh y1) (Nat.lt_of_lt_of_le H_hlx.out (wpow_mono (by omega))) (Nat.lt_of_lt_of_le H_hly.out (wpow_mono (by omega))) (by have := H_hy0.out; omega) H_d1.out H_d2.out H_d3.out H_d4.out H_d5.out (H_hz.out.fresh y1) (H_hx.out.fresh y1) zy (H_hm.out.fresh y1)
 rw [H_hQ.out, H_hRR.out] at hqr
 have hyl := zy.lt
 have hyo := fun k hk => zy.own_lt (k := k) hk
 have hyz : ∀ k, (Value.slice ya yn yc).ownBlock = some k → k ≠ bz ∧ k ≠ bm := by
  intro k hk
  obtain ⟨_, _, h1, _⟩ := H_hz.out
  obtain ⟨_, _, h2, _⟩ := H_hm.out
  obtain ⟨_, _, h3, _⟩ := H_hy.out
  exact ⟨(IntIs.ne h1.str h3.nat hk).symm, (IntIs.ne h2.str h3.nat hk).symm⟩
 have H_y1 := hid y1; have H_hqr := hid hqr; have H_hwq := hid hwq; have H_zy := hid zy; have H_hyl := hid hyl; have H_hyo := hid hyo; have H_hyz := hid hyz; clear y1 hqr hwq zy hyl hyo hyz
 go_wp2_with (fail)
 refine H_hqr.out.mono ?_
 rintro e w2 ⟨rfl, v, u, zq, zr, kq, oq, orr, hdis⟩
 have cr := zr.neg
 rw [H_hdr.out] at cr
 have kk : Keep (fun k => k = bz ∨ k = bm) w w2 := H_y1.out.trans kq (fun _ _ h => h.elim) (fun _ _ h => h)
 have ow : ∀ k, v.ownBlock = some k → w.heap.size ≤ k := fun k hk => Nat.le_trans H_y1.out.size (oq k hk)
 have H_zq := hid zq; have H_zr := hid zr; have H_kq := hid kq; have H_oq := hid oq; have H_orr := hid orr; have H_hdis := hid hdis; have H_kk := hid kk; have H_ow := hid ow; clear zq zr kq oq orr hdis kk ow
 go_wp2_with (fail)
 go_ret2
 exact ⟨rfl, v, u, H_zq.out, H_zr.out, H_kk.out, H_ow.out⟩

end Go.Proofs.YtllencgncinphaaGreatDoor
