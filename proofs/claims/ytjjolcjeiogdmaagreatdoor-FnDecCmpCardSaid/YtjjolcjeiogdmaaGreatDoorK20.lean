/- shopspring: Decimal.Add: three ways, by the exponents. Printed by gen_da.py Add. -/
import Derived.Test.YtjjolcjeiogdmaaGreatDoorK8
import Derived.Test.YtjjolcjeiogdmaaGreatDoorK14
import Derived.Test.YtjjolcjeiogdmaaGreatDoorK19
namespace Go.Proofs.YtjjolcjeiogdmaaGreatDoor
open Go.RowKit

theorem IntAdd_z (bz bx bY : Nat) (vz vx vy : Value) (z x y : Int) (w : World) (hlx : x.natAbs < wpow 39) (hly : y.natAbs < wpow 39) (hz : ZI w bz vz z) (hx : ZI w bx vx x) (hy : ZI w bY vy y) (hsx : Sep vz vx) (hsy : Sep vz vy) :
    Calls Tryz.prog 63 #[.pointer (some ⟨bz, 0, none⟩), .pointer (some ⟨bx, 0, none⟩), .pointer (some ⟨bY, 0, none⟩)] w (fun e w' => e = .returned (.pointer (some ⟨bz, 0, none⟩)) ∧ ZSet w bz vz (x + y) w') := by
  obtain ⟨nz, lz, hz, _⟩ := hz
  obtain ⟨nx, lx, hx, rfl⟩ := hx
  obtain ⟨ny, ly, hy, rfl⟩ := hy
  have h1 := hx.len rfl hlx
  have h2 := hy.len rfl hly
  exact (Int_Add bz 0 bx 0 bY 0 nz nx ny vz vx vy lz lx ly w (by omega) (by omega) hz hx hy hsx hsy).mono fun _ _ h => h.zset

theorem scaled_lt {z : Int} {n : Nat} (hz : z.natAbs < wpow 7) (hn : n ≤ 127) : (z * ((10 ^ n : Nat) : Int)).natAbs < wpow 30 := by
  rw [Int.natAbs_mul, Int.natAbs_natCast]
  have h1 : 10 ^ n ≤ 10 ^ 127 := Nat.pow_le_pow_right (by omega) hn
  exact Nat.lt_of_lt_of_le (Nat.mul_lt_mul_of_lt_of_le hz h1 (by decide)) (by unfold wpow; decide)

/-- an Int of our own that has been set -/
theorem ZSet.own {w0 w w' : World} {b : Nat} {v0 : Value} {z : Int} (h : ZSet w b v0 z w') (hf : Fresh w0 w) (hb : w0.heap.size ≤ b) (ho : ∀ k, v0.ownBlock = some k → w0.heap.size ≤ k) : ∃ v, ZI w' b v z ∧ Fresh w0 w' ∧ (∀ k, v.ownBlock = some k → w0.heap.size ≤ k) := by
  obtain ⟨v, h1, h2, h3⟩ := h
  refine ⟨v, h1, ?_, fun k hk => ?_⟩
  · refine hf.trans h2 (fun _ _ h => h) (fun k hk h => ?_)
    rcases h with h | h
    · omega
    · have := ho k h; omega
  · rcases h3 k hk with h | h
    · exact ho k h
    · exact Nat.le_trans hf.size h

set_option maxRecDepth 20000 in
set_option maxHeartbeats 2000000 in
theorem DecAdd_lt (b1 b2 : Nat) (v1 v2 : Value) (z1 z2 e1 e2 : Int) (w : World) (hG : Glob w) (hz1 : z1.natAbs < wpow 7) (hz2 : z2.natAbs < wpow 7) (hx : ZI w b1 v1 z1) (hy : ZI w b2 v2 z2)
    (he1 : -400 ≤ e1 ∧ e1 ≤ 400) (he2 : -400 ≤ e2 ∧ e2 ≤ 400) (hlt : e1 < e2) (hd : e2 - e1 ≤ 127) :
    Calls Tryz.prog 38 #[sd b1 e1, sd b2 e2] w (fun r w' => ∃ b v, r = .returned (sd b e1) ∧ ZI w' b v (z1 + z2 * ((10 ^ (e2 - e1).toNat : Nat) : Int)) ∧ w.heap.size ≤ b ∧ (∀ k, v.ownBlock = some k → w.heap.size ≤ k) ∧ Fresh w w') := by
  have hs2 := scaled_lt hz2 (n := (e2 - e1).toNat) (by omega)
  have hrs := fun W (hW : Fresh w W) => rescale_lt b2 v2 z2 e2 e1 W (hG.fresh hW) (Nat.lt_of_lt_of_le hz2 (wpow_mono (by omega))) (hy.fresh hW) he2 he1 hlt hd
  generalize z2 * ((10 ^ (e2 - e1).toNat : Nat) : Int) = y at *
  have hgv := fun W => getValue_any b1 e1 W
  have t1 : decide (e1 < e2) = true := by simp; omega
  obtain ⟨g, hg⟩ : ∃ g, g = w.heap.size := ⟨_, rfl⟩
  have bx := boxes3 w #[.pointer (some ⟨b1, 0, none⟩), .int .i32 e1] #[.pointer (some ⟨b2, 0, none⟩), .int .i32 e2] #[.pointer none, .int .i32 0] 49 49 49 g hg
  have H_bx := Lib.hid bx; clear bx
  have H_hgv := Lib.hid hgv; clear hgv
  have H_hrs := Lib.hid hrs; clear hrs
  have H_hx := Lib.hid hx; clear hx
  have H_hy := Lib.hid hy; clear hy
  have H_hG := Lib.hid hG; clear hG
  have H_hz1 := Lib.hid hz1; clear hz1
  have H_hz2 := Lib.hid hz2; clear hz2
  have H_he1 := Lib.hid he1; clear he1
  have H_he2 := Lib.hid he2; clear he2
  have H_hd := Lib.hid hd; clear hd
  have H_hs2 := Lib.hid hs2; clear hs2
  go_enter Tryz.func38, Tryz.ntmps38
  go_wp2_with (fail)
  generalize hw1 : ((w.alloc _).alloc _).alloc _ = w1
  rw [← hg]
  obtain ⟨r1, r2, r3, hf, hgw⟩ := H_bx.out w1 hw1
  have k0 := row_cell r1 0
  have k1 := row_cell r1 1
  have m0 := row_cell r2 0
  have m1 := row_cell r2 1
  simp at k0 k1 m0 m1
  have kk0 := k0
  have kk1 := k1
  have H_r1 := Lib.hid r1; clear r1
  have H_r2 := Lib.hid r2; clear r2
  have H_r3 := Lib.hid r3; clear r3
  have H_hf := Lib.hid hf; clear hf
  have H_hw1 := Lib.hid hw1; clear hw1
  have H_hg := Lib.hid hg; clear hg
  have H_hgw := Lib.hid hgw; clear hgw
  have H_kk0 := Lib.hid kk0; clear kk0
  have H_kk1 := Lib.hid kk1; clear kk1
  go_wp2_with (fail)
  refine (H_hrs.out _ H_hf.out).mono ?_
  rintro r w2 ⟨b, v, rfl, z3, g3, o3, f3⟩
  have k0 := cell_fresh k0 f3
  have k1 := cell_fresh k1 f3
  have H_z3 := Lib.hid z3; clear z3
  have H_g3 := Lib.hid g3; clear g3
  have H_o3 := Lib.hid o3; clear o3
  have H_f3 := Lib.hid f3; clear f3
  go_wp2_with (fail)
  have hnew : ∀ W, W = w2.alloc (.cells #[.pointer (some ⟨b, 0, none⟩), .int .i32 e1] 49 (0, 0)) → W.heap[w2.heap.size]? = some (.cells #[.pointer (some ⟨b, 0, none⟩), .int .i32 e1] 49 (0, 0)) ∧ Fresh w2 W := by
    rintro W rfl
    exact ⟨heap_alloc_new w2 _, (Keep.refl _ _).alloc _⟩
  generalize hw3 : w2.alloc _ = w3
  obtain ⟨rh, fh⟩ := hnew w3 hw3.symm
  clear hnew
  obtain ⟨h, hh⟩ : ∃ h, h = w2.heap.size := ⟨_, rfl⟩
  rw [← hh] at rh
  rw [← hh]
  have n0 := row_cell rh 0
  have n1 := row_cell rh 1
  simp at n0 n1
  have k0 := cell_fresh k0 fh
  have k1 := cell_fresh k1 fh
  have hbh : b < h := by have h1 := H_z3.out.lt; omega
  have f03 := fresh_trans H_hf.out (fresh_trans H_f3.out fh)
  have hset := fun W (hW : Fresh w3 W) => IntAdd_z b b1 b v v1 v y z1 y W (Nat.lt_of_lt_of_le H_hz1.out (wpow_mono (by omega))) (Nat.lt_of_lt_of_le H_hs2.out (wpow_mono (by omega))) (H_z3.out.fresh (fresh_trans fh hW)) (H_hx.out.fresh (fresh_trans f03 hW)) (H_z3.out.fresh (fresh_trans fh hW)) (.inr fun k hk hk' => by have h1 := H_o3.out k hk; have h2 := H_hx.out.own_lt hk'; have h3 := H_hf.out.size; omega) (.inl rfl)
  have aft : ∀ W W', Fresh w3 W → ZSet W b v (z1 + y) W' → W'.cell? ⟨h, 0, none⟩ = some (.pointer (some ⟨b, 0, none⟩)) ∧ W'.cell? ⟨h, 1, none⟩ = some (.int .i32 e1) ∧ ∃ v5, ZI W' b v5 (z1 + y) ∧ Fresh w1 W' ∧ (∀ k, v5.ownBlock = some k → w1.heap.size ≤ k) := by
    intro W W' hW hs
    obtain ⟨v5, h1, h2, h3⟩ := hs.own (fresh_trans H_f3.out (fresh_trans fh hW)) H_g3.out H_o3.out
    obtain ⟨_, _, hk, _⟩ := hs
    have hns : ¬ (h = b ∨ v.ownBlock = some h) := by
      rintro (h5 | h5)
      · omega
      · have := H_z3.out.own_lt h5; omega
    have m0 := cell_fresh n0 hW
    have m1 := cell_fresh n1 hW
    exact ⟨(hk.cell (World.block_lt_of_cell? _ _ m0) hns).trans m0, (hk.cell (World.block_lt_of_cell? _ _ m1) hns).trans m1, v5, h1, h2, h3⟩
  have H_hh := Lib.hid hh; clear hh
  have H_hw3 := Lib.hid hw3; clear hw3
  have H_rh := Lib.hid rh; clear rh
  have H_fh := Lib.hid fh; clear fh
  have H_hbh := Lib.hid hbh; clear hbh
  have H_f03 := Lib.hid f03; clear f03
  have H_hset := Lib.hid hset; clear hset
  have H_aft := Lib.hid aft; clear aft
  go_region_held3 (fun (w' : World) => w'.cell? ⟨h, 0, none⟩ = some (.pointer (some ⟨b, 0, none⟩)) ∧ w'.cell? ⟨h, 1, none⟩ = some (.int .i32 e1) ∧ w'.cell? ⟨g, 0, none⟩ = some (.pointer (some ⟨b1, 0, none⟩)) ∧ w'.cell? ⟨g, 1, none⟩ = some (.int .i32 e1)) (first | exact ⟨n0, n1, k0, k1⟩ | exact ⟨s0, s1, j0, j1⟩ | exact ⟨u0, u1, l0, l1⟩) (first
    | (go_at_call 47; (with_reducible refine (H_hgv.out _).mono ?_); rintro r w4 ⟨rfl, x4⟩; have f4 : Fresh w3 w4 := (by first | exact x4 | exact x4.of_drew | exact x4.of_drewN); have s0 := cell_fresh n0 f4; have s1 := cell_fresh n1 f4; have j0 := cell_fresh k0 f4; have j1 := cell_fresh k1 f4; have H_f4 := Lib.hid f4; clear f4 x4)
    | (go_at_call 63; (with_reducible refine (H_hset.out _ H_f4.out).mono ?_); rintro r w5 ⟨rfl, x5⟩; obtain ⟨u0, u1, v5, z5, f5, o5⟩ := H_aft.out _ w5 H_f4.out x5; have l0 := cell_fresh H_kk0.out f5; have l1 := cell_fresh H_kk1.out f5; have H_z5 := Lib.hid z5; have H_f5 := Lib.hid f5; have H_o5 := Lib.hid o5; clear z5 f5 o5 x5))
  have d5 := row_fresh H_r3.out H_f5.out
  have p0 := row_cell d5 0
  have p1 := row_cell d5 1
  simp at p0 p1
  have q0 : w5.frozen? ⟨g + 1 + 1, 0, none⟩ = false := frozen_of_row _ _ _ _ _ d5
  have q1 : w5.frozen? ⟨g + 1 + 1, 1, none⟩ = false := frozen_of_row _ _ _ _ _ d5
  clear n0 n1 k0 k1 s0 s1 j0 j1
  have H_d5 := Lib.hid d5; clear d5
  go_wp2_with (fail)
  refine bodyPost_ret (results_cell_row rfl _ _ (g + 1 + 1) 49 #[.pointer (some ⟨b, 0, none⟩), .int .i32 e1] (0, 0) _ rfl (row_set (row_set H_d5.out)) Tryz.underlying49 rfl (by kernel_rfl)) rfl ?_
  have hgw := H_hg.out
  have h1s := H_hf.out.size
  have hg3 := H_g3.out
  have hlt2 := lt_of_row H_r3.out
  have kk : ∀ u u', Keep (fun k => k = g + 1 + 1) w5 ((w5.setCell ⟨g + 1 + 1, 0, none⟩ u).setCell ⟨g + 1 + 1, 1, none⟩ u') := fun u u' => ((Keep.refl (fun k => k = g + 1 + 1) w5).setCell (p := ⟨g + 1 + 1, 0, none⟩) (fun _ => rfl) u).setCell (p := ⟨g + 1 + 1, 1, none⟩) (fun _ => rfl) u'
  exact ⟨b, v5, rfl, H_z5.out.keep (kk _ _) (fun h => by omega) (fun k hk h => by have := H_o5.out k hk; omega), Nat.le_trans h1s hg3, fun k hk => Nat.le_trans h1s (H_o5.out k hk),
    ((fresh_trans H_hf.out H_f5.out).setCell (p := ⟨g + 1 + 1, 0, none⟩) (fun h => by change g + 1 + 1 < w.heap.size at h; omega) _).setCell (p := ⟨g + 1 + 1, 1, none⟩) (fun h => by change g + 1 + 1 < w.heap.size at h; omega) _⟩

set_option maxRecDepth 20000 in
set_option maxHeartbeats 2000000 in
theorem DecAdd_gt (b1 b2 : Nat) (v1 v2 : Value) (z1 z2 e1 e2 : Int) (w : World) (hG : Glob w) (hz1 : z1.natAbs < wpow 7) (hz2 : z2.natAbs < wpow 7) (hx : ZI w b1 v1 z1) (hy : ZI w b2 v2 z2)
    (he1 : -400 ≤ e1 ∧ e1 ≤ 400) (he2 : -400 ≤ e2 ∧ e2 ≤ 400) (hlt : e2 < e1) (hd : e1 - e2 ≤ 127) :
    Calls Tryz.prog 38 #[sd b1 e1, sd b2 e2] w (fun r w' => ∃ b v, r = .returned (sd b e2) ∧ ZI w' b v (z1 * ((10 ^ (e1 - e2).toNat : Nat) : Int) + z2) ∧ w.heap.size ≤ b ∧ (∀ k, v.ownBlock = some k → w.heap.size ≤ k) ∧ Fresh w w') := by
  have hs2 := scaled_lt hz1 (n := (e1 - e2).toNat) (by omega)
  have hrs := fun W (hW : Fresh w W) => rescale_lt b1 v1 z1 e1 e2 W (hG.fresh hW) (Nat.lt_of_lt_of_le hz1 (wpow_mono (by omega))) (hx.fresh hW) he1 he2 hlt hd
  generalize z1 * ((10 ^ (e1 - e2).toNat : Nat) : Int) = y at *
  have hgv := fun W => getValue_any b2 e2 W
  have t1 : decide (e1 < e2) = false := by simp; omega
  have t2 : decide (e2 < e1) = true := by simp; omega
  have t3 : ¬ e1 < e2 := by omega
  obtain ⟨g, hg⟩ : ∃ g, g = w.heap.size := ⟨_, rfl⟩
  have bx := boxes3 w #[.pointer (some ⟨b1, 0, none⟩), .int .i32 e1] #[.pointer (some ⟨b2, 0, none⟩), .int .i32 e2] #[.pointer none, .int .i32 0] 49 49 49 g hg
  have H_bx := Lib.hid bx; clear bx
  have H_hgv := Lib.hid hgv; clear hgv
  have H_hrs := Lib.hid hrs; clear hrs
  have H_hx := Lib.hid hx; clear hx
  have H_hy := Lib.hid hy; clear hy
  have H_hG := Lib.hid hG; clear hG
  have H_hz1 := Lib.hid hz1; clear hz1
  have H_hz2 := Lib.hid hz2; clear hz2
  have H_he1 := Lib.hid he1; clear he1
  have H_he2 := Lib.hid he2; clear he2
  have H_hd := Lib.hid hd; clear hd
  have H_hs2 := Lib.hid hs2; clear hs2
  go_enter Tryz.func38, Tryz.ntmps38
  go_wp2_with (fail)
  generalize hw1 : ((w.alloc _).alloc _).alloc _ = w1
  rw [← hg]
  obtain ⟨r1, r2, r3, hf, hgw⟩ := H_bx.out w1 hw1
  have k0 := row_cell r1 0
  have k1 := row_cell r1 1
  have m0 := row_cell r2 0
  have m1 := row_cell r2 1
  simp at k0 k1 m0 m1
  have kk0 := m0
  have kk1 := m1
  have H_r1 := Lib.hid r1; clear r1
  have H_r2 := Lib.hid r2; clear r2
  have H_r3 := Lib.hid r3; clear r3
  have H_hf := Lib.hid hf; clear hf
  have H_hw1 := Lib.hid hw1; clear hw1
  have H_hg := Lib.hid hg; clear hg
  have H_hgw := Lib.hid hgw; clear hgw
  have H_kk0 := Lib.hid kk0; clear kk0
  have H_kk1 := Lib.hid kk1; clear kk1
  go_wp2_with (fail)
  refine (H_hrs.out _ H_hf.out).mono ?_
  rintro r w2 ⟨b, v, rfl, z3, g3, o3, f3⟩
  clear k0 k1
  have k0 := cell_fresh m0 f3
  have k1 := cell_fresh m1 f3
  clear m0 m1
  have H_z3 := Lib.hid z3; clear z3
  have H_g3 := Lib.hid g3; clear g3
  have H_o3 := Lib.hid o3; clear o3
  have H_f3 := Lib.hid f3; clear f3
  go_wp2_with (fail)
  have hnew : ∀ W, W = w2.alloc (.cells #[.pointer (some ⟨b, 0, none⟩), .int .i32 e2] 49 (0, 0)) → W.heap[w2.heap.size]? = some (.cells #[.pointer (some ⟨b, 0, none⟩), .int .i32 e2] 49 (0, 0)) ∧ Fresh w2 W := by
    rintro W rfl
    exact ⟨heap_alloc_new w2 _, (Keep.refl _ _).alloc _⟩
  generalize hw3 : w2.alloc _ = w3
  obtain ⟨rh, fh⟩ := hnew w3 hw3.symm
  clear hnew
  obtain ⟨h, hh⟩ : ∃ h, h = w2.heap.size := ⟨_, rfl⟩
  rw [← hh] at rh
  rw [← hh]
  have n0 := row_cell rh 0
  have n1 := row_cell rh 1
  simp at n0 n1
  have k0 := cell_fresh k0 fh
  have k1 := cell_fresh k1 fh
  have hbh : b < h := by have h1 := H_z3.out.lt; omega
  have f03 := fresh_trans H_hf.out (fresh_trans H_f3.out fh)
  have hset := fun W (hW : Fresh w3 W) => IntAdd_z b b b2 v v v2 y y z2 W (Nat.lt_of_lt_of_le H_hs2.out (wpow_mono (by omega))) (Nat.lt_of_lt_of_le H_hz2.out (wpow_mono (by omega))) (H_z3.out.fresh (fresh_trans fh hW)) (H_z3.out.fresh (fresh_trans fh hW)) (H_hy.out.fresh (fresh_trans f03 hW)) (.inl rfl) (.inr fun k hk hk' => by have h1 := H_o3.out k hk; have h2 := H_hy.out.own_lt hk'; have h3 := H_hf.out.size; omega)
  have aft : ∀ W W', Fresh w3 W → ZSet W b v (y + z2) W' → W'.cell? ⟨h, 0, none⟩ = some (.pointer (some ⟨b, 0, none⟩)) ∧ W'.cell? ⟨h, 1, none⟩ = some (.int .i32 e2) ∧ ∃ v5, ZI W' b v5 (y + z2) ∧ Fresh w1 W' ∧ (∀ k, v5.ownBlock = some k → w1.heap.size ≤ k) := by
    intro W W' hW hs
    obtain ⟨v5, h1, h2, h3⟩ := hs.own (fresh_trans H_f3.out (fresh_trans fh hW)) H_g3.out H_o3.out
    obtain ⟨_, _, hk, _⟩ := hs
    have hns : ¬ (h = b ∨ v.ownBlock = some h) := by
      rintro (h5 | h5)
      · omega
      · have := H_z3.out.own_lt h5; omega
    have m0 := cell_fresh n0 hW
    have m1 := cell_fresh n1 hW
    exact ⟨(hk.cell (World.block_lt_of_cell? _ _ m0) hns).trans m0, (hk.cell (World.block_lt_of_cell? _ _ m1) hns).trans m1, v5, h1, h2, h3⟩
  have H_hh := Lib.hid hh; clear hh
  have H_hw3 := Lib.hid hw3; clear hw3
  have H_rh := Lib.hid rh; clear rh
  have H_fh := Lib.hid fh; clear fh
  have H_hbh := Lib.hid hbh; clear hbh
  have H_f03 := Lib.hid f03; clear f03
  have H_hset := Lib.hid hset; clear hset
  have H_aft := Lib.hid aft; clear aft
  go_region_held3 (fun (w' : World) => w'.cell? ⟨h, 0, none⟩ = some (.pointer (some ⟨b, 0, none⟩)) ∧ w'.cell? ⟨h, 1, none⟩ = some (.int .i32 e2) ∧ w'.cell? ⟨g + 1, 0, none⟩ = some (.pointer (some ⟨b2, 0, none⟩)) ∧ w'.cell? ⟨g + 1, 1, none⟩ = some (.int .i32 e2)) (first | exact ⟨n0, n1, k0, k1⟩ | exact ⟨s0, s1, j0, j1⟩ | exact ⟨u0, u1, l0, l1⟩) (first
    | (go_at_call 47; (with_reducible refine (H_hgv.out _).mono ?_); rintro r w4 ⟨rfl, x4⟩; have f4 : Fresh w3 w4 := (by first | exact x4 | exact x4.of_drew | exact x4.of_drewN); have s0 := cell_fresh n0 f4; have s1 := cell_fresh n1 f4; have j0 := cell_fresh k0 f4; have j1 := cell_fresh k1 f4; have H_f4 := Lib.hid f4; clear f4 x4)
    | (go_at_call 63; (with_reducible refine (H_hset.out _ H_f4.out).mono ?_); rintro r w5 ⟨rfl, x5⟩; obtain ⟨u0, u1, v5, z5, f5, o5⟩ := H_aft.out _ w5 H_f4.out x5; have l0 := cell_fresh H_kk0.out f5; have l1 := cell_fresh H_kk1.out f5; have H_z5 := Lib.hid z5; have H_f5 := Lib.hid f5; have H_o5 := Lib.hid o5; clear z5 f5 o5 x5))
  have d5 := row_fresh H_r3.out H_f5.out
  have p0 := row_cell d5 0
  have p1 := row_cell d5 1
  simp at p0 p1
  have q0 : w5.frozen? ⟨g + 1 + 1, 0, none⟩ = false := frozen_of_row _ _ _ _ _ d5
  have q1 : w5.frozen? ⟨g + 1 + 1, 1, none⟩ = false := frozen_of_row _ _ _ _ _ d5
  clear n0 n1 k0 k1 s0 s1 j0 j1
  have H_d5 := Lib.hid d5; clear d5
  go_wp2_with (fail)
  refine bodyPost_ret (results_cell_row rfl _ _ (g + 1 + 1) 49 #[.pointer (some ⟨b, 0, none⟩), .int .i32 e2] (0, 0) _ rfl (row_set (row_set H_d5.out)) Tryz.underlying49 rfl (by kernel_rfl)) rfl ?_
  have hgw := H_hg.out
  have h1s := H_hf.out.size
  have hg3 := H_g3.out
  have hlt2 := lt_of_row H_r3.out
  have kk : ∀ u u', Keep (fun k => k = g + 1 + 1) w5 ((w5.setCell ⟨g + 1 + 1, 0, none⟩ u).setCell ⟨g + 1 + 1, 1, none⟩ u') := fun u u' => ((Keep.refl (fun k => k = g + 1 + 1) w5).setCell (p := ⟨g + 1 + 1, 0, none⟩) (fun _ => rfl) u).setCell (p := ⟨g + 1 + 1, 1, none⟩) (fun _ => rfl) u'
  exact ⟨b, v5, rfl, H_z5.out.keep (kk _ _) (fun h => by omega) (fun k hk h => by have := H_o5.out k hk; omega), Nat.le_trans h1s hg3, fun k hk => Nat.le_trans h1s (H_o5.out k hk),
    ((fresh_trans H_hf.out H_f5.out).setCell (p := ⟨g + 1 + 1, 0, none⟩) (fun h => by change g + 1 + 1 < w.heap.size at h; omega) _).setCell (p := ⟨g + 1 + 1, 1, none⟩) (fun h => by change g + 1 + 1 < w.heap.size at h; omega) _⟩

set_option maxRecDepth 20000 in
set_option maxHeartbeats 2000000 in
theorem DecAdd_eq (b1 b2 : Nat) (v1 v2 : Value) (z1 z2 e : Int) (w : World) (hG : Glob w) (hz1 : z1.natAbs < wpow 7) (hz2 : z2.natAbs < wpow 7) (hx : ZI w b1 v1 z1) (hy : ZI w b2 v2 z2) :
    Calls Tryz.prog 38 #[sd b1 e, sd b2 e] w (fun r w' => ∃ b v, r = .returned (sd b e) ∧ ZI w' b v (z1 + z2) ∧ w.heap.size ≤ b ∧ (∀ k, v.ownBlock = some k → w.heap.size ≤ k) ∧ Fresh w w') := by
  have hgv1 := fun W => getValue_any b1 e W
  have hgv2 := fun W => getValue_any b2 e W
  obtain ⟨g, hg⟩ : ∃ g, g = w.heap.size := ⟨_, rfl⟩
  have bx := boxes3 w #[.pointer (some ⟨b1, 0, none⟩), .int .i32 e] #[.pointer (some ⟨b2, 0, none⟩), .int .i32 e] #[.pointer none, .int .i32 0] 49 49 49 g hg
  have H_bx := Lib.hid bx; clear bx
  have H_hgv1 := Lib.hid hgv1; clear hgv1
  have H_hgv2 := Lib.hid hgv2; clear hgv2
  have H_hx := Lib.hid hx; clear hx
  have H_hy := Lib.hid hy; clear hy
  have H_hG := Lib.hid hG; clear hG
  have H_hz1 := Lib.hid hz1; clear hz1
  have H_hz2 := Lib.hid hz2; clear hz2
  go_enter Tryz.func38, Tryz.ntmps38
  go_wp2_with (fail)
  generalize hw1 : ((w.alloc _).alloc _).alloc _ = w1
  rw [← hg]
  obtain ⟨r1, r2, r3, hf, hgw⟩ := H_bx.out w1 hw1
  have k0 := row_cell r1 0
  have k1 := row_cell r1 1
  have m0 := row_cell r2 0
  have m1 := row_cell r2 1
  simp at k0 k1 m0 m1
  have H_r1 := Lib.hid r1; clear r1
  have H_r2 := Lib.hid r2; clear r2
  have H_r3 := Lib.hid r3; clear r3
  have H_hf := Lib.hid hf; clear hf
  have H_hw1 := Lib.hid hw1; clear hw1
  have H_hg := Lib.hid hg; clear hg
  have H_hgw := Lib.hid hgw; clear hgw
  go_wp2_with (fail)
  have hnw : ∀ W0 W, Fresh w1 W0 → Fresh (W0.alloc (.cells #[.bool false, .slice none 0 0] 76 (0, 0))) W → ZI W W0.heap.size (.slice none 0 0) 0 ∧ Fresh w1 W ∧ w1.heap.size ≤ W0.heap.size := by
    intro W0 W h0 hW
    have h1 := H_hG.out.size
    have h2 := H_hf.out.size
    have h3 := h0.size
    exact ⟨(ZI.new (heap_alloc_new W0 _) (by omega)).fresh hW, fresh_trans (h0.alloc _) hW, h3⟩
  have hset := fun c W (hW : ZI W c (.slice none 0 0) 0) (hF : Fresh w1 W) => IntAdd_z c b1 b2 (.slice none 0 0) v1 v2 0 z1 z2 W (Nat.lt_of_lt_of_le H_hz1.out (wpow_mono (by omega))) (Nat.lt_of_lt_of_le H_hz2.out (wpow_mono (by omega))) hW (H_hx.out.fresh (fresh_trans H_hf.out hF)) (H_hy.out.fresh (fresh_trans H_hf.out hF)) (Sep.nil _) (Sep.nil _)
  have ka := fun o => cell_fresh k0 ((Keep.refl (fun _ => False) w1).alloc o)
  have kb := fun o => cell_fresh k1 ((Keep.refl (fun _ => False) w1).alloc o)
  have kc := fun o => cell_fresh m0 ((Keep.refl (fun _ => False) w1).alloc o)
  have ke := fun o => cell_fresh m1 ((Keep.refl (fun _ => False) w1).alloc o)
  have H_k0 := Lib.hid k0
  have H_k1 := Lib.hid k1
  have H_m0 := Lib.hid m0
  have H_m1 := Lib.hid m1
  have H_hnw := Lib.hid hnw; clear hnw
  have H_hset := Lib.hid hset; clear hset
  go_region_held3 (fun (w' : World) => w'.cell? ⟨g, 0, none⟩ = some (.pointer (some ⟨b1, 0, none⟩)) ∧ w'.cell? ⟨g, 1, none⟩ = some (.int .i32 e) ∧ w'.cell? ⟨g + 1, 0, none⟩ = some (.pointer (some ⟨b2, 0, none⟩)) ∧ w'.cell? ⟨g + 1, 1, none⟩ = some (.int .i32 e)) (first
    | exact ⟨k0, k1, m0, m1⟩ | exact ⟨j0, j1, l0, l1⟩ | exact ⟨s0, s1, u0, u1⟩ | exact ⟨n0, n1, o0, o1⟩
    | exact ⟨sa _, sb _, sc _, se _⟩
    | exact ⟨ja _, jb _, jc _, je _⟩
    | exact ⟨ka _, kb _, kc _, ke _⟩) (first
    | (go_at_call 47; (with_reducible refine (H_hgv1.out _).mono ?_); rintro r w4 ⟨rfl, x4⟩; (first | (obtain ⟨z4, f4, g4⟩ := H_hnw.out w1 w4 (Keep.refl _ _) (fresh_trans ((Keep.refl _ _).drew) x4); obtain ⟨c, hc⟩ : ∃ c, c = w1.heap.size := ⟨_, rfl⟩; rw [← hc] at z4 ⊢; have H_gc := Lib.hid (show w1.heap.size ≤ c from Nat.le_of_eq hc.symm); have H_z4 := Lib.hid z4; clear z4 g4 hc) | (have f4 : Fresh w1 w4 := (by first | exact x4 | exact x4.of_drew | exact x4.of_drewN))); have j0 := cell_fresh H_k0.out f4; have j1 := cell_fresh H_k1.out f4; have l0 := cell_fresh H_m0.out f4; have l1 := cell_fresh H_m1.out f4; have H_f4 := Lib.hid f4; clear x4 f4 ka kb kc ke; have ja := fun o => cell_fresh j0 ((Keep.refl (fun _ => False) w4).alloc o); have jb := fun o => cell_fresh j1 ((Keep.refl (fun _ => False) w4).alloc o); have jc := fun o => cell_fresh l0 ((Keep.refl (fun _ => False) w4).alloc o); have je := fun o => cell_fresh l1 ((Keep.refl (fun _ => False) w4).alloc o))
    | (go_at_call 47; (with_reducible refine (H_hgv2.out _).mono ?_); rintro r w5 ⟨rfl, x5⟩; (first | (have y5 : Fresh w4 w5 := (by first | exact x5 | exact x5.of_drew | exact x5.of_drewN); have H_z5 := Lib.hid (H_z4.out.fresh y5); have f5 := fresh_trans H_f4.out y5; clear y5) | (obtain ⟨z5, f5, g5⟩ := H_hnw.out w4 w5 H_f4.out (by first | exact x5 | exact fresh_trans ((Keep.refl _ _).drew) x5); obtain ⟨c, hc⟩ : ∃ c, c = w4.heap.size := ⟨_, rfl⟩; rw [← hc] at z5 g5 ⊢; have H_gc := Lib.hid g5; have H_z5 := Lib.hid z5; clear z5 g5 hc) | (have f5 : Fresh w1 w5 := fresh_trans H_f4.out (by first | exact x5 | exact x5.of_drew | exact x5.of_drewN))); have s0 := cell_fresh H_k0.out f5; have s1 := cell_fresh H_k1.out f5; have u0 := cell_fresh H_m0.out f5; have u1 := cell_fresh H_m1.out f5; have H_f5 := Lib.hid f5; clear x5 f5 ja jb jc je; have sa := fun o => cell_fresh s0 ((Keep.refl (fun _ => False) w5).alloc o); have sb := fun o => cell_fresh s1 ((Keep.refl (fun _ => False) w5).alloc o); have sc := fun o => cell_fresh u0 ((Keep.refl (fun _ => False) w5).alloc o); have se := fun o => cell_fresh u1 ((Keep.refl (fun _ => False) w5).alloc o))
    | (go_at_call 63; (first | (with_reducible refine (H_hset.out _ _ H_z5.out H_f5.out).mono ?_) | ((obtain ⟨z5, f5', g5⟩ := H_hnw.out w5 _ H_f5.out (Keep.refl _ _)); (obtain ⟨c, hc⟩ : ∃ c, c = w5.heap.size := ⟨_, rfl⟩); rw [← hc] at z5 g5 ⊢; clear H_f5; have H_gc := Lib.hid g5; have H_f5 := Lib.hid f5'; (with_reducible refine (H_hset.out _ _ z5 f5').mono ?_); clear z5 g5 f5' hc)); rintro r w6 ⟨rfl, x6⟩; obtain ⟨v6, z6, f6, o6⟩ := x6.fresh H_f5.out H_gc.out; have n0 := cell_fresh H_k0.out f6; have n1 := cell_fresh H_k1.out f6; have o0 := cell_fresh H_m0.out f6; have o1 := cell_fresh H_m1.out f6; have H_z6 := Lib.hid z6; have H_f6 := Lib.hid f6; have H_o6 := Lib.hid o6; clear x6 z6 f6 o6))
  all_goals
    have d6 := row_fresh H_r3.out H_f6.out
    have p0 := row_cell d6 0
    have p1 := row_cell d6 1
    simp at p0 p1
    have q0 : w6.frozen? ⟨g + 1 + 1, 0, none⟩ = false := frozen_of_row _ _ _ _ _ d6
    have q1 : w6.frozen? ⟨g + 1 + 1, 1, none⟩ = false := frozen_of_row _ _ _ _ _ d6
    have H_d6 := Lib.hid d6; clear d6
    go_wp2_with (fail)
    refine bodyPost_ret (results_cell_row rfl _ _ (g + 1 + 1) 49 #[.pointer (some ⟨c, 0, none⟩), .int .i32 e] (0, 0) _ rfl (row_set (row_set H_d6.out)) Tryz.underlying49 rfl (by kernel_rfl)) rfl ?_
    have hgw := H_hg.out
    have h1s := H_hf.out.size
    have hg3 := H_gc.out
    have hlt2 := lt_of_row H_r3.out
    have kk : ∀ u u', Keep (fun k => k = g + 1 + 1) w6 ((w6.setCell ⟨g + 1 + 1, 0, none⟩ u).setCell ⟨g + 1 + 1, 1, none⟩ u') := fun u u' => ((Keep.refl (fun k => k = g + 1 + 1) w6).setCell (p := ⟨g + 1 + 1, 0, none⟩) (fun _ => rfl) u).setCell (p := ⟨g + 1 + 1, 1, none⟩) (fun _ => rfl) u'
    exact ⟨c, v6, rfl, H_z6.out.keep (kk _ _) (fun h => by omega) (fun k hk h => by have := H_o6.out k hk; omega), Nat.le_trans h1s hg3, fun k hk => Nat.le_trans h1s (H_o6.out k hk),
      ((fresh_trans H_hf.out H_f6.out).setCell (p := ⟨g + 1 + 1, 0, none⟩) (fun h => by change g + 1 + 1 < w.heap.size at h; omega) _).setCell (p := ⟨g + 1 + 1, 1, none⟩) (fun h => by change g + 1 + 1 < w.heap.size at h; omega) _⟩

end Go.Proofs.YtjjolcjeiogdmaaGreatDoor

/- shopspring: Decimal.Sub: three ways, by the exponents. Printed by gen_da.py Sub. -/
namespace Go.Proofs.YtjjolcjeiogdmaaGreatDoor
open Go.RowKit

theorem IntSub_z (bz bx bY : Nat) (vz vx vy : Value) (z x y : Int) (w : World) (hlx : x.natAbs < wpow 39) (hly : y.natAbs < wpow 39) (hz : ZI w bz vz z) (hx : ZI w bx vx x) (hy : ZI w bY vy y) (hsx : Sep vz vx) (hsy : Sep vz vy) :
    Calls Tryz.prog 67 #[.pointer (some ⟨bz, 0, none⟩), .pointer (some ⟨bx, 0, none⟩), .pointer (some ⟨bY, 0, none⟩)] w (fun e w' => e = .returned (.pointer (some ⟨bz, 0, none⟩)) ∧ ZSet w bz vz (x - y) w') := by
  obtain ⟨nz, lz, hz, _⟩ := hz
  obtain ⟨nx, lx, hx, rfl⟩ := hx
  obtain ⟨ny, ly, hy, rfl⟩ := hy
  have h1 := hx.len rfl hlx
  have h2 := hy.len rfl hly
  exact (Int_Sub bz 0 bx 0 bY 0 nz nx ny vz vx vy lz lx ly w (by omega) (by omega) hz hx hy hsx hsy).mono fun _ _ h => h.zset

set_option maxRecDepth 20000 in
set_option maxHeartbeats 2000000 in
theorem DecSub_lt (b1 b2 : Nat) (v1 v2 : Value) (z1 z2 e1 e2 : Int) (w : World) (hG : Glob w) (hz1 : z1.natAbs < wpow 7) (hz2 : z2.natAbs < wpow 7) (hx : ZI w b1 v1 z1) (hy : ZI w b2 v2 z2)
    (he1 : -400 ≤ e1 ∧ e1 ≤ 400) (he2 : -400 ≤ e2 ∧ e2 ≤ 400) (hlt : e1 < e2) (hd : e2 - e1 ≤ 127) :
    Calls Tryz.prog 42 #[sd b1 e1, sd b2 e2] w (fun r w' => ∃ b v, r = .returned (sd b e1) ∧ ZI w' b v (z1 - z2 * ((10 ^ (e2 - e1).toNat : Nat) : Int)) ∧ w.heap.size ≤ b ∧ (∀ k, v.ownBlock = some k → w.heap.size ≤ k) ∧ Fresh w w') := by
  have hs2 := scaled_lt hz2 (n := (e2 - e1).toNat) (by omega)
  have hrs := fun W (hW : Fresh w W) => rescale_lt b2 v2 z2 e2 e1 W (hG.fresh hW) (Nat.lt_of_lt_of_le hz2 (wpow_mono (by omega))) (hy.fresh hW) he2 he1 hlt hd
  generalize z2 * ((10 ^ (e2 - e1).toNat : Nat) : Int) = y at *
  have hgv := fun W => getValue_any b1 e1 W
  have t1 : decide (e1 < e2) = true := by simp; omega
  obtain ⟨g, hg⟩ : ∃ g, g = w.heap.size := ⟨_, rfl⟩
  have bx := boxes3 w #[.pointer (some ⟨b1, 0, none⟩), .int .i32 e1] #[.pointer (some ⟨b2, 0, none⟩), .int .i32 e2] #[.pointer none, .int .i32 0] 49 49 49 g hg
  have H_bx := Lib.hid bx; clear bx
  have H_hgv := Lib.hid hgv; clear hgv
  have H_hrs := Lib.hid hrs; clear hrs
  have H_hx := Lib.hid hx; clear hx
  have H_hy := Lib.hid hy; clear hy
  have H_hG := Lib.hid hG; clear hG
  have H_hz1 := Lib.hid hz1; clear hz1
  have H_hz2 := Lib.hid hz2; clear hz2
  have H_he1 := Lib.hid he1; clear he1
  have H_he2 := Lib.hid he2; clear he2
  have H_hd := Lib.hid hd; clear hd
  have H_hs2 := Lib.hid hs2; clear hs2
  go_enter Tryz.func42, Tryz.ntmps42
  go_wp2_with (fail)
  generalize hw1 : ((w.alloc _).alloc _).alloc _ = w1
  rw [← hg]
  obtain ⟨r1, r2, r3, hf, hgw⟩ := H_bx.out w1 hw1
  have k0 := row_cell r1 0
  have k1 := row_cell r1 1
  have m0 := row_cell r2 0
  have m1 := row_cell r2 1
  simp at k0 k1 m0 m1
  have kk0 := k0
  have kk1 := k1
  have H_r1 := Lib.hid r1; clear r1
  have H_r2 := Lib.hid r2; clear r2
  have H_r3 := Lib.hid r3; clear r3
  have H_hf := Lib.hid hf; clear hf
  have H_hw1 := Lib.hid hw1; clear hw1
  have H_hg := Lib.hid hg; clear hg
  have H_hgw := Lib.hid hgw; clear hgw
  have H_kk0 := Lib.hid kk0; clear kk0
  have H_kk1 := Lib.hid kk1; clear kk1
  go_wp2_with (fail)
  refine (H_hrs.out _ H_hf.out).mono ?_
  rintro r w2 ⟨b, v, rfl, z3, g3, o3, f3⟩
  have k0 := cell_fresh k0 f3
  have k1 := cell_fresh k1 f3
  have H_z3 := Lib.hid z3; clear z3
  have H_g3 := Lib.hid g3; clear g3
  have H_o3 := Lib.hid o3; clear o3
  have H_f3 := Lib.hid f3; clear f3
  go_wp2_with (fail)
  have hnew : ∀ W, W = w2.alloc (.cells #[.pointer (some ⟨b, 0, none⟩), .int .i32 e1] 49 (0, 0)) → W.heap[w2.heap.size]? = some (.cells #[.pointer (some ⟨b, 0, none⟩), .int .i32 e1] 49 (0, 0)) ∧ Fresh w2 W := by
    rintro W rfl
    exact ⟨heap_alloc_new w2 _, (Keep.refl _ _).alloc _⟩
  generalize hw3 : w2.alloc _ = w3
  obtain ⟨rh, fh⟩ := hnew w3 hw3.symm
  clear hnew
  obtain ⟨h, hh⟩ : ∃ h, h = w2.heap.size := ⟨_, rfl⟩
  rw [← hh] at rh
  rw [← hh]
  have n0 := row_cell rh 0
  have n1 := row_cell rh 1
  simp at n0 n1
  have k0 := cell_fresh k0 fh
  have k1 := cell_fresh k1 fh
  have hbh : b < h := by have h1 := H_z3.out.lt; omega
  have f03 := fresh_trans H_hf.out (fresh_trans H_f3.out fh)
  have hset := fun W (hW : Fresh w3 W) => IntSub_z b b1 b v v1 v y z1 y W (Nat.lt_of_lt_of_le H_hz1.out (wpow_mono (by omega))) (Nat.lt_of_lt_of_le H_hs2.out (wpow_mono (by omega))) (H_z3.out.fresh (fresh_trans fh hW)) (H_hx.out.fresh (fresh_trans f03 hW)) (H_z3.out.fresh (fresh_trans fh hW)) (.inr fun k hk hk' => by have h1 := H_o3.out k hk; have h2 := H_hx.out.own_lt hk'; have h3 := H_hf.out.size; omega) (.inl rfl)
  have aft : ∀ W W', Fresh w3 W → ZSet W b v (z1 - y) W' → W'.cell? ⟨h, 0, none⟩ = some (.pointer (some ⟨b, 0, none⟩)) ∧ W'.cell? ⟨h, 1, none⟩ = some (.int .i32 e1) ∧ ∃ v5, ZI W' b v5 (z1 - y) ∧ Fresh w1 W' ∧ (∀ k, v5.ownBlock = some k → w1.heap.size ≤ k) := by
    intro W W' hW hs
    obtain ⟨v5, h1, h2, h3⟩ := hs.own (fresh_trans H_f3.out (fresh_trans fh hW)) H_g3.out H_o3.out
    obtain ⟨_, _, hk, _⟩ := hs
    have hns : ¬ (h = b ∨ v.ownBlock = some h) := by
      rintro (h5 | h5)
      · omega
      · have := H_z3.out.own_lt h5; omega
    have m0 := cell_fresh n0 hW
    have m1 := cell_fresh n1 hW
    exact ⟨(hk.cell (World.block_lt_of_cell? _ _ m0) hns).trans m0, (hk.cell (World.block_lt_of_cell? _ _ m1) hns).trans m1, v5, h1, h2, h3⟩
  have H_hh := Lib.hid hh; clear hh
  have H_hw3 := Lib.hid hw3; clear hw3
  have H_rh := Lib.hid rh; clear rh
  have H_fh := Lib.hid fh; clear fh
  have H_hbh := Lib.hid hbh; clear hbh
  have H_f03 := Lib.hid f03; clear f03
  have H_hset := Lib.hid hset; clear hset
  have H_aft := Lib.hid aft; clear aft
  go_region_held3 (fun (w' : World) => w'.cell? ⟨h, 0, none⟩ = some (.pointer (some ⟨b, 0, none⟩)) ∧ w'.cell? ⟨h, 1, none⟩ = some (.int .i32 e1) ∧ w'.cell? ⟨g, 0, none⟩ = some (.pointer (some ⟨b1, 0, none⟩)) ∧ w'.cell? ⟨g, 1, none⟩ = some (.int .i32 e1)) (first | exact ⟨n0, n1, k0, k1⟩ | exact ⟨s0, s1, j0, j1⟩ | exact ⟨u0, u1, l0, l1⟩) (first
    | (go_at_call 47; (with_reducible refine (H_hgv.out _).mono ?_); rintro r w4 ⟨rfl, x4⟩; have f4 : Fresh w3 w4 := (by first | exact x4 | exact x4.of_drew | exact x4.of_drewN); have s0 := cell_fresh n0 f4; have s1 := cell_fresh n1 f4; have j0 := cell_fresh k0 f4; have j1 := cell_fresh k1 f4; have H_f4 := Lib.hid f4; clear f4 x4)
    | (go_at_call 67; (with_reducible refine (H_hset.out _ H_f4.out).mono ?_); rintro r w5 ⟨rfl, x5⟩; obtain ⟨u0, u1, v5, z5, f5, o5⟩ := H_aft.out _ w5 H_f4.out x5; have l0 := cell_fresh H_kk0.out f5; have l1 := cell_fresh H_kk1.out f5; have H_z5 := Lib.hid z5; have H_f5 := Lib.hid f5; have H_o5 := Lib.hid o5; clear z5 f5 o5 x5))
  have d5 := row_fresh H_r3.out H_f5.out
  have p0 := row_cell d5 0
  have p1 := row_cell d5 1
  simp at p0 p1
  have q0 : w5.frozen? ⟨g + 1 + 1, 0, none⟩ = false := frozen_of_row _ _ _ _ _ d5
  have q1 : w5.frozen? ⟨g + 1 + 1, 1, none⟩ = false := frozen_of_row _ _ _ _ _ d5
  clear n0 n1 k0 k1 s0 s1 j0 j1
  have H_d5 := Lib.hid d5; clear d5
  go_wp2_with (fail)
  refine bodyPost_ret (results_cell_row rfl _ _ (g + 1 + 1) 49 #[.pointer (some ⟨b, 0, none⟩), .int .i32 e1] (0, 0) _ rfl (row_set (row_set H_d5.out)) Tryz.underlying49 rfl (by kernel_rfl)) rfl ?_
  have hgw := H_hg.out
  have h1s := H_hf.out.size
  have hg3 := H_g3.out
  have hlt2 := lt_of_row H_r3.out
  have kk : ∀ u u', Keep (fun k => k = g + 1 + 1) w5 ((w5.setCell ⟨g + 1 + 1, 0, none⟩ u).setCell ⟨g + 1 + 1, 1, none⟩ u') := fun u u' => ((Keep.refl (fun k => k = g + 1 + 1) w5).setCell (p := ⟨g + 1 + 1, 0, none⟩) (fun _ => rfl) u).setCell (p := ⟨g + 1 + 1, 1, none⟩) (fun _ => rfl) u'
  exact ⟨b, v5, rfl, H_z5.out.keep (kk _ _) (fun h => by omega) (fun k hk h => by have := H_o5.out k hk; omega), Nat.le_trans h1s hg3, fun k hk => Nat.le_trans h1s (H_o5.out k hk),
    ((fresh_trans H_hf.out H_f5.out).setCell (p := ⟨g + 1 + 1, 0, none⟩) (fun h => by change g + 1 + 1 < w.heap.size at h; omega) _).setCell (p := ⟨g + 1 + 1, 1, none⟩) (fun h => by change g + 1 + 1 < w.heap.size at h; omega) _⟩

set_option maxRecDepth 20000 in
set_option maxHeartbeats 2000000 in
theorem DecSub_gt (b1 b2 : Nat) (v1 v2 : Value) (z1 z2 e1 e2 : Int) (w : World) (hG : Glob w) (hz1 : z1.natAbs < wpow 7) (hz2 : z2.natAbs < wpow 7) (hx : ZI w b1 v1 z1) (hy : ZI w b2 v2 z2)
    (he1 : -400 ≤ e1 ∧ e1 ≤ 400) (he2 : -400 ≤ e2 ∧ e2 ≤ 400) (hlt : e2 < e1) (hd : e1 - e2 ≤ 127) :
    Calls Tryz.prog 42 #[sd b1 e1, sd b2 e2] w (fun r w' => ∃ b v, r = .returned (sd b e2) ∧ ZI w' b v (z1 * ((10 ^ (e1 - e2).toNat : Nat) : Int) - z2) ∧ w.heap.size ≤ b ∧ (∀ k, v.ownBlock = some k → w.heap.size ≤ k) ∧ Fresh w w') := by
  have hs2 := scaled_lt hz1 (n := (e1 - e2).toNat) (by omega)
  have hrs := fun W (hW : Fresh w W) => rescale_lt b1 v1 z1 e1 e2 W (hG.fresh hW) (Nat.lt_of_lt_of_le hz1 (wpow_mono (by omega))) (hx.fresh hW) he1 he2 hlt hd
  generalize z1 * ((10 ^ (e1 - e2).toNat : Nat) : Int) = y at *
  have hgv := fun W => getValue_any b2 e2 W
  have t1 : decide (e1 < e2) = false := by simp; omega
  have t2 : decide (e2 < e1) = true := by simp; omega
  have t3 : ¬ e1 < e2 := by omega
  obtain ⟨g, hg⟩ : ∃ g, g = w.heap.size := ⟨_, rfl⟩
  have bx := boxes3 w #[.pointer (some ⟨b1, 0, none⟩), .int .i32 e1] #[.pointer (some ⟨b2, 0, none⟩), .int .i32 e2] #[.pointer none, .int .i32 0] 49 49 49 g hg
  have H_bx := Lib.hid bx; clear bx
  have H_hgv := Lib.hid hgv; clear hgv
  have H_hrs := Lib.hid hrs; clear hrs
  have H_hx := Lib.hid hx; clear hx
  have H_hy := Lib.hid hy; clear hy
  have H_hG := Lib.hid hG; clear hG
  have H_hz1 := Lib.hid hz1; clear hz1
  have H_hz2 := Lib.hid hz2; clear hz2
  have H_he1 := Lib.hid he1; clear he1
  have H_he2 := Lib.hid he2; clear he2
  have H_hd := Lib.hid hd; clear hd
  have H_hs2 := Lib.hid hs2; clear hs2
  go_enter Tryz.func42, Tryz.ntmps42
  go_wp2_with (fail)
  generalize hw1 : ((w.alloc _).alloc _).alloc _ = w1
  rw [← hg]
  obtain ⟨r1, r2, r3, hf, hgw⟩ := H_bx.out w1 hw1
  have k0 := row_cell r1 0
  have k1 := row_cell r1 1
  have m0 := row_cell r2 0
  have m1 := row_cell r2 1
  simp at k0 k1 m0 m1
  have kk0 := m0
  have kk1 := m1
  have H_r1 := Lib.hid r1; clear r1
  have H_r2 := Lib.hid r2; clear r2
  have H_r3 := Lib.hid r3; clear r3
  have H_hf := Lib.hid hf; clear hf
  have H_hw1 := Lib.hid hw1; clear hw1
  have H_hg := Lib.hid hg; clear hg
  have H_hgw := Lib.hid hgw; clear hgw
  have H_kk0 := Lib.hid kk0; clear kk0
  have H_kk1 := Lib.hid kk1; clear kk1
  go_wp2_with (fail)
  refine (H_hrs.out _ H_hf.out).mono ?_
  rintro r w2 ⟨b, v, rfl, z3, g3, o3, f3⟩
  clear k0 k1
  have k0 := cell_fresh m0 f3
  have k1 := cell_fresh m1 f3
  clear m0 m1
  have H_z3 := Lib.hid z3; clear z3
  have H_g3 := Lib.hid g3; clear g3
  have H_o3 := Lib.hid o3; clear o3
  have H_f3 := Lib.hid f3; clear f3
  go_wp2_with (fail)
  have hnew : ∀ W, W = w2.alloc (.cells #[.pointer (some ⟨b, 0, none⟩), .int .i32 e2] 49 (0, 0)) → W.heap[w2.heap.size]? = some (.cells #[.pointer (some ⟨b, 0, none⟩), .int .i32 e2] 49 (0, 0)) ∧ Fresh w2 W := by
    rintro W rfl
    exact ⟨heap_alloc_new w2 _, (Keep.refl _ _).alloc _⟩
  generalize hw3 : w2.alloc _ = w3
  obtain ⟨rh, fh⟩ := hnew w3 hw3.symm
  clear hnew
  obtain ⟨h, hh⟩ : ∃ h, h = w2.heap.size := ⟨_, rfl⟩
  rw [← hh] at rh
  rw [← hh]
  have n0 := row_cell rh 0
  have n1 := row_cell rh 1
  simp at n0 n1
  have k0 := cell_fresh k0 fh
  have k1 := cell_fresh k1 fh
  have hbh : b < h := by have h1 := H_z3.out.lt; omega
  have f03 := fresh_trans H_hf.out (fresh_trans H_f3.out fh)
  have hset := fun W (hW : Fresh w3 W) => IntSub_z b b b2 v v v2 y y z2 W (Nat.lt_of_lt_of_le H_hs2.out (wpow_mono (by omega))) (Nat.lt_of_lt_of_le H_hz2.out (wpow_mono (by omega))) (H_z3.out.fresh (fresh_trans fh hW)) (H_z3.out.fresh (fresh_trans fh hW)) (H_hy.out.fresh (fresh_trans f03 hW)) (.inl rfl) (.inr fun k hk hk' => by have h1 := H_o3.out k hk; have h2 := H_hy.out.own_lt hk'; have h3 := H_hf.out.size; omega)
  have aft : ∀ W W', Fresh w3 W → ZSet W b v (y - z2) W' → W'.cell? ⟨h, 0, none⟩ = some (.pointer (some ⟨b, 0, none⟩)) ∧ W'.cell? ⟨h, 1, none⟩ = some (.int .i32 e2) ∧ ∃ v5, ZI W' b v5 (y - z2) ∧ Fresh w1 W' ∧ (∀ k, v5.ownBlock = some k → w1.heap.size ≤ k) := by
    intro W W' hW hs
    obtain ⟨v5, h1, h2, h3⟩ := hs.own (fresh_trans H_f3.out (fresh_trans fh hW)) H_g3.out H_o3.out
    obtain ⟨_, _, hk, _⟩ := hs
    have hns : ¬ (h = b ∨ v.ownBlock = some h) := by
      rintro (h5 | h5)
      · omega
      · have := H_z3.out.own_lt h5; omega
    have m0 := cell_fresh n0 hW
    have m1 := cell_fresh n1 hW
    exact ⟨(hk.cell (World.block_lt_of_cell? _ _ m0) hns).trans m0, (hk.cell (World.block_lt_of_cell? _ _ m1) hns).trans m1, v5, h1, h2, h3⟩
  have H_hh := Lib.hid hh; clear hh
  have H_hw3 := Lib.hid hw3; clear hw3
  have H_rh := Lib.hid rh; clear rh
  have H_fh := Lib.hid fh; clear fh
  have H_hbh := Lib.hid hbh; clear hbh
  have H_f03 := Lib.hid f03; clear f03
  have H_hset := Lib.hid hset; clear hset
  have H_aft := Lib.hid aft; clear aft
  go_region_held3 (fun (w' : World) => w'.cell? ⟨h, 0, none⟩ = some (.pointer (some ⟨b, 0, none⟩)) ∧ w'.cell? ⟨h, 1, none⟩ = some (.int .i32 e2) ∧ w'.cell? ⟨g + 1, 0, none⟩ = some (.pointer (some ⟨b2, 0, none⟩)) ∧ w'.cell? ⟨g + 1, 1, none⟩ = some (.int .i32 e2)) (first | exact ⟨n0, n1, k0, k1⟩ | exact ⟨s0, s1, j0, j1⟩ | exact ⟨u0, u1, l0, l1⟩) (first
    | (go_at_call 47; (with_reducible refine (H_hgv.out _).mono ?_); rintro r w4 ⟨rfl, x4⟩; have f4 : Fresh w3 w4 := (by first | exact x4 | exact x4.of_drew | exact x4.of_drewN); have s0 := cell_fresh n0 f4; have s1 := cell_fresh n1 f4; have j0 := cell_fresh k0 f4; have j1 := cell_fresh k1 f4; have H_f4 := Lib.hid f4; clear f4 x4)
    | (go_at_call 67; (with_reducible refine (H_hset.out _ H_f4.out).mono ?_); rintro r w5 ⟨rfl, x5⟩; obtain ⟨u0, u1, v5, z5, f5, o5⟩ := H_aft.out _ w5 H_f4.out x5; have l0 := cell_fresh H_kk0.out f5; have l1 := cell_fresh H_kk1.out f5; have H_z5 := Lib.hid z5; have H_f5 := Lib.hid f5; have H_o5 := Lib.hid o5; clear z5 f5 o5 x5))
  have d5 := row_fresh H_r3.out H_f5.out
  have p0 := row_cell d5 0
  have p1 := row_cell d5 1
  simp at p0 p1
  have q0 : w5.frozen? ⟨g + 1 + 1, 0, none⟩ = false := frozen_of_row _ _ _ _ _ d5
  have q1 : w5.frozen? ⟨g + 1 + 1, 1, none⟩ = false := frozen_of_row _ _ _ _ _ d5
  clear n0 n1 k0 k1 s0 s1 j0 j1
  have H_d5 := Lib.hid d5; clear d5
  go_wp2_with (fail)
  refine bodyPost_ret (results_cell_row rfl _ _ (g + 1 + 1) 49 #[.pointer (some ⟨b, 0, none⟩), .int .i32 e2] (0, 0) _ rfl (row_set (row_set H_d5.out)) Tryz.underlying49 rfl (by kernel_rfl)) rfl ?_
  have hgw := H_hg.out
  have h1s := H_hf.out.size
  have hg3 := H_g3.out
  have hlt2 := lt_of_row H_r3.out
  have kk : ∀ u u', Keep (fun k => k = g + 1 + 1) w5 ((w5.setCell ⟨g + 1 + 1, 0, none⟩ u).setCell ⟨g + 1 + 1, 1, none⟩ u') := fun u u' => ((Keep.refl (fun k => k = g + 1 + 1) w5).setCell (p := ⟨g + 1 + 1, 0, none⟩) (fun _ => rfl) u).setCell (p := ⟨g + 1 + 1, 1, none⟩) (fun _ => rfl) u'
  exact ⟨b, v5, rfl, H_z5.out.keep (kk _ _) (fun h => by omega) (fun k hk h => by have := H_o5.out k hk; omega), Nat.le_trans h1s hg3, fun k hk => Nat.le_trans h1s (H_o5.out k hk),
    ((fresh_trans H_hf.out H_f5.out).setCell (p := ⟨g + 1 + 1, 0, none⟩) (fun h => by change g + 1 + 1 < w.heap.size at h; omega) _).setCell (p := ⟨g + 1 + 1, 1, none⟩) (fun h => by change g + 1 + 1 < w.heap.size at h; omega) _⟩

set_option maxRecDepth 20000 in
set_option maxHeartbeats 2000000 in
theorem DecSub_eq (b1 b2 : Nat) (v1 v2 : Value) (z1 z2 e : Int) (w : World) (hG : Glob w) (hz1 : z1.natAbs < wpow 7) (hz2 : z2.natAbs < wpow 7) (hx : ZI w b1 v1 z1) (hy : ZI w b2 v2 z2) :
    Calls Tryz.prog 42 #[sd b1 e, sd b2 e] w (fun r w' => ∃ b v, r = .returned (sd b e) ∧ ZI w' b v (z1 - z2) ∧ w.heap.size ≤ b ∧ (∀ k, v.ownBlock = some k → w.heap.size ≤ k) ∧ Fresh w w') := by
  have hgv1 := fun W => getValue_any b1 e W
  have hgv2 := fun W => getValue_any b2 e W
  obtain ⟨g, hg⟩ : ∃ g, g = w.heap.size := ⟨_, rfl⟩
  have bx := boxes3 w #[.pointer (some ⟨b1, 0, none⟩), .int .i32 e] #[.pointer (some ⟨b2, 0, none⟩), .int .i32 e] #[.pointer none, .int .i32 0] 49 49 49 g hg
  have H_bx := Lib.hid bx; clear bx
  have H_hgv1 := Lib.hid hgv1; clear hgv1
  have H_hgv2 := Lib.hid hgv2; clear hgv2
  have H_hx := Lib.hid hx; clear hx
  have H_hy := Lib.hid hy; clear hy
  have H_hG := Lib.hid hG; clear hG
  have H_hz1 := Lib.hid hz1; clear hz1
  have H_hz2 := Lib.hid hz2; clear hz2
  go_enter Tryz.func42, Tryz.ntmps42
  go_wp2_with (fail)
  generalize hw1 : ((w.alloc _).alloc _).alloc _ = w1
  rw [← hg]
  obtain ⟨r1, r2, r3, hf, hgw⟩ := H_bx.out w1 hw1
  have k0 := row_cell r1 0
  have k1 := row_cell r1 1
  have m0 := row_cell r2 0
  have m1 := row_cell r2 1
  simp at k0 k1 m0 m1
  have H_r1 := Lib.hid r1; clear r1
  have H_r2 := Lib.hid r2; clear r2
  have H_r3 := Lib.hid r3; clear r3
  have H_hf := Lib.hid hf; clear hf
  have H_hw1 := Lib.hid hw1; clear hw1
  have H_hg := Lib.hid hg; clear hg
  have H_hgw := Lib.hid hgw; clear hgw
  go_wp2_with (fail)
  have hnw : ∀ W0 W, Fresh w1 W0 → Fresh (W0.alloc (.cells #[.bool false, .slice none 0 0] 76 (0, 0))) W → ZI W W0.heap.size (.slice none 0 0) 0 ∧ Fresh w1 W ∧ w1.heap.size ≤ W0.heap.size := by
    intro W0 W h0 hW
    have h1 := H_hG.out.size
    have h2 := H_hf.out.size
    have h3 := h0.size
    exact ⟨(ZI.new (heap_alloc_new W0 _) (by omega)).fresh hW, fresh_trans (h0.alloc _) hW, h3⟩
  have hset := fun c W (hW : ZI W c (.slice none 0 0) 0) (hF : Fresh w1 W) => IntSub_z c b1 b2 (.slice none 0 0) v1 v2 0 z1 z2 W (Nat.lt_of_lt_of_le H_hz1.out (wpow_mono (by omega))) (Nat.lt_of_lt_of_le H_hz2.out (wpow_mono (by omega))) hW (H_hx.out.fresh (fresh_trans H_hf.out hF)) (H_hy.out.fresh (fresh_trans H_hf.out hF)) (Sep.nil _) (Sep.nil _)
  have ka := fun o => cell_fresh k0 ((Keep.refl (fun _ => False) w1).alloc o)
  have kb := fun o => cell_fresh k1 ((Keep.refl (fun _ => False) w1).alloc o)
  have kc := fun o => cell_fresh m0 ((Keep.refl (fun _ => False) w1).alloc o)
  have ke := fun o => cell_fresh m1 ((Keep.refl (fun _ => False) w1).alloc o)
  have H_k0 := Lib.hid k0
  have H_k1 := Lib.hid k1
  have H_m0 := Lib.hid m0
  have H_m1 := Lib.hid m1
  have H_hnw := Lib.hid hnw; clear hnw
  have H_hset := Lib.hid hset; clear hset
  go_region_held3 (fun (w' : World) => w'.cell? ⟨g, 0, none⟩ = some (.pointer (some ⟨b1, 0, none⟩)) ∧ w'.cell? ⟨g, 1, none⟩ = some (.int .i32 e) ∧ w'.cell? ⟨g + 1, 0, none⟩ = some (.pointer (some ⟨b2, 0, none⟩)) ∧ w'.cell? ⟨g + 1, 1, none⟩ = some (.int .i32 e)) (first
    | exact ⟨k0, k1, m0, m1⟩ | exact ⟨j0, j1, l0, l1⟩ | exact ⟨s0, s1, u0, u1⟩ | exact ⟨n0, n1, o0, o1⟩
    | exact ⟨sa _, sb _, sc _, se _⟩
    | exact ⟨ja _, jb _, jc _, je _⟩
    | exact ⟨ka _, kb _, kc _, ke _⟩) (first
    | (go_at_call 47; (with_reducible refine (H_hgv1.out _).mono ?_); rintro r w4 ⟨rfl, x4⟩; (first | (obtain ⟨z4, f4, g4⟩ := H_hnw.out w1 w4 (Keep.refl _ _) (fresh_trans ((Keep.refl _ _).drew) x4); obtain ⟨c, hc⟩ : ∃ c, c = w1.heap.size := ⟨_, rfl⟩; rw [← hc] at z4 ⊢; have H_gc := Lib.hid (show w1.heap.size ≤ c from Nat.le_of_eq hc.symm); have H_z4 := Lib.hid z4; clear z4 g4 hc) | (have f4 : Fresh w1 w4 := (by first | exact x4 | exact x4.of_drew | exact x4.of_drewN))); have j0 := cell_fresh H_k0.out f4; have j1 := cell_fresh H_k1.out f4; have l0 := cell_fresh H_m0.out f4; have l1 := cell_fresh H_m1.out f4; have H_f4 := Lib.hid f4; clear x4 f4 ka kb kc ke; have ja := fun o => cell_fresh j0 ((Keep.refl (fun _ => False) w4).alloc o); have jb := fun o => cell_fresh j1 ((Keep.refl (fun _ => False) w4).alloc o); have jc := fun o => cell_fresh l0 ((Keep.refl (fun _ => False) w4).alloc o); have je := fun o => cell_fresh l1 ((Keep.refl (fun _ => False) w4).alloc o))
    | (go_at_call 47; (with_reducible refine (H_hgv2.out _).mono ?_); rintro r w5 ⟨rfl, x5⟩; (first | (have y5 : Fresh w4 w5 := (by first | exact x5 | exact x5.of_drew | exact x5.of_drewN); have H_z5 := Lib.hid (H_z4.out.fresh y5); have f5 := fresh_trans H_f4.out y5; clear y5) | (obtain ⟨z5, f5, g5⟩ := H_hnw.out w4 w5 H_f4.out (by first | exact x5 | exact fresh_trans ((Keep.refl _ _).drew) x5); obtain ⟨c, hc⟩ : ∃ c, c = w4.heap.size := ⟨_, rfl⟩; rw [← hc] at z5 g5 ⊢; have H_gc := Lib.hid g5; have H_z5 := Lib.hid z5; clear z5 g5 hc) | (have f5 : Fresh w1 w5 := fresh_trans H_f4.out (by first | exact x5 | exact x5.of_drew | exact x5.of_drewN))); have s0 := cell_fresh H_k0.out f5; have s1 := cell_fresh H_k1.out f5; have u0 := cell_fresh H_m0.out f5; have u1 := cell_fresh H_m1.out f5; have H_f5 := Lib.hid f5; clear x5 f5 ja jb jc je; have sa := fun o => cell_fresh s0 ((Keep.refl (fun _ => False) w5).alloc o); have sb := fun o => cell_fresh s1 ((Keep.refl (fun _ => False) w5).alloc o); have sc := fun o => cell_fresh u0 ((Keep.refl (fun _ => False) w5).alloc o); have se := fun o => cell_fresh u1 ((Keep.refl (fun _ => False) w5).alloc o))
    | (go_at_call 67; (first | (with_reducible refine (H_hset.out _ _ H_z5.out H_f5.out).mono ?_) | ((obtain ⟨z5, f5', g5⟩ := H_hnw.out w5 _ H_f5.out (Keep.refl _ _)); (obtain ⟨c, hc⟩ : ∃ c, c = w5.heap.size := ⟨_, rfl⟩); rw [← hc] at z5 g5 ⊢; clear H_f5; have H_gc := Lib.hid g5; have H_f5 := Lib.hid f5'; (with_reducible refine (H_hset.out _ _ z5 f5').mono ?_); clear z5 g5 f5' hc)); rintro r w6 ⟨rfl, x6⟩; obtain ⟨v6, z6, f6, o6⟩ := x6.fresh H_f5.out H_gc.out; have n0 := cell_fresh H_k0.out f6; have n1 := cell_fresh H_k1.out f6; have o0 := cell_fresh H_m0.out f6; have o1 := cell_fresh H_m1.out f6; have H_z6 := Lib.hid z6; have H_f6 := Lib.hid f6; have H_o6 := Lib.hid o6; clear x6 z6 f6 o6))
  all_goals
    have d6 := row_fresh H_r3.out H_f6.out
    have p0 := row_cell d6 0
    have p1 := row_cell d6 1
    simp at p0 p1
    have q0 : w6.frozen? ⟨g + 1 + 1, 0, none⟩ = false := frozen_of_row _ _ _ _ _ d6
    have q1 : w6.frozen? ⟨g + 1 + 1, 1, none⟩ = false := frozen_of_row _ _ _ _ _ d6
    have H_d6 := Lib.hid d6; clear d6
    go_wp2_with (fail)
    refine bodyPost_ret (results_cell_row rfl _ _ (g + 1 + 1) 49 #[.pointer (some ⟨c, 0, none⟩), .int .i32 e] (0, 0) _ rfl (row_set (row_set H_d6.out)) Tryz.underlying49 rfl (by kernel_rfl)) rfl ?_
    have hgw := H_hg.out
    have h1s := H_hf.out.size
    have hg3 := H_gc.out
    have hlt2 := lt_of_row H_r3.out
    have kk : ∀ u u', Keep (fun k => k = g + 1 + 1) w6 ((w6.setCell ⟨g + 1 + 1, 0, none⟩ u).setCell ⟨g + 1 + 1, 1, none⟩ u') := fun u u' => ((Keep.refl (fun k => k = g + 1 + 1) w6).setCell (p := ⟨g + 1 + 1, 0, none⟩) (fun _ => rfl) u).setCell (p := ⟨g + 1 + 1, 1, none⟩) (fun _ => rfl) u'
    exact ⟨c, v6, rfl, H_z6.out.keep (kk _ _) (fun h => by omega) (fun k hk h => by have := H_o6.out k hk; omega), Nat.le_trans h1s hg3, fun k hk => Nat.le_trans h1s (H_o6.out k hk),
      ((fresh_trans H_hf.out H_f6.out).setCell (p := ⟨g + 1 + 1, 0, none⟩) (fun h => by change g + 1 + 1 < w.heap.size at h; omega) _).setCell (p := ⟨g + 1 + 1, 1, none⟩) (fun h => by change g + 1 + 1 < w.heap.size at h; omega) _⟩

end Go.Proofs.YtjjolcjeiogdmaaGreatDoor
