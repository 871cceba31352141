/- shopspring: RescalePair: three ways. Printed by gen_rp.py. -/
import Derived.Test.YtjjolcjeiogdmaaGreatDoorK13
import Derived.Test.YtjjolcjeiogdmaaGreatDoorK20
import Derived.Test.YtjjolcjeiogdmaaGreatDoorK21
import Derived.Test.YtjjolcjeiogdmaaGreatDoorK25
namespace Go.Proofs.YtjjolcjeiogdmaaGreatDoor
open Go.RowKit

theorem results_cells2 {P : Program} {fn : Func} {p q : Tmp} {ty ty' : TypeId} (h : fn.results = #[.cell p ty, .cell q ty']) (tmps : Array Value) (w : World) (g g' : Nat) (u v : Value)
    (hp : tmps.getD p undef = .pointer (some ⟨g, 0, none⟩)) (hq : tmps.getD q undef = .pointer (some ⟨g', 0, none⟩))
    (hu : (loadVar ty ⟨g, 0, none⟩).run P w = .ok u w) (hv : (loadVar ty' ⟨g', 0, none⟩).run P w = .ok v w) :
    (results fn tmps).run P w = .ok (.tuple #[u, v]) w := by
  have hp' : tmps[p]?.getD undef = .pointer (some ⟨g, 0, none⟩) := by simpa using hp
  have hq' : tmps[q]?.getD undef = .pointer (some ⟨g', 0, none⟩) := by simpa using hq
  simp [results, h, hp', hq', asAddr, hu, hv, Sem.run_bind, Result.andThen]

set_option maxRecDepth 20000 in
set_option maxHeartbeats 2000000 in
theorem Pair_lt (b1 b2 : Nat) (v1 v2 : Value) (z1 z2 e1 e2 : Int) (w : World) (hG : Glob w) (hz1 : z1.natAbs < wpow 7) (hz2 : z2.natAbs < wpow 7) (hx : ZI w b1 v1 z1) (hy : ZI w b2 v2 z2)
    (he1 : -400 ≤ e1 ∧ e1 ≤ 400) (he2 : -400 ≤ e2 ∧ e2 ≤ 400) (hlt : e1 < e2) (hd : e1 - e2 ≤ 127 ∧ e2 - e1 ≤ 127) :
    Calls Tryz.prog 32 #[sd b1 e1, sd b2 e2] w (fun r w' => ∃ c1 c2 u1 u2, r = .returned (.tuple #[sd c1 e1, sd c2 e1]) ∧ ZI w' c1 u1 (z1) ∧ ZI w' c2 u2 (z2 * ((10 ^ (e2 - e1).toNat : Nat) : Int)) ∧ Fresh w w') := by
  have hrs := fun W (hW : Fresh w W) => rescale_lt b2 v2 z2 e2 e1 W (hG.fresh hW) (Nat.lt_of_lt_of_le hz2 (wpow_mono (by omega))) (hy.fresh hW) he2 he1 hlt hd.2
  generalize z2 * ((10 ^ (e2 - e1).toNat : Nat) : Int) = yy at *
  have t1 : decide (e1 < e2) = true := by simp; omega
  obtain ⟨g, hg⟩ : ∃ g, g = w.heap.size := ⟨_, rfl⟩
  have bx := boxes4 w #[.pointer (some ⟨b1, 0, none⟩), .int .i32 e1] #[.pointer (some ⟨b2, 0, none⟩), .int .i32 e2] #[.pointer none, .int .i32 0] #[.pointer none, .int .i32 0] 49 49 49 49 g hg
  have H_bx := Lib.hid bx; clear bx
  have H_hrs := Lib.hid hrs; clear hrs
  have H_hx := Lib.hid hx; clear hx
  have H_hy := Lib.hid hy; clear hy
  have H_hG := Lib.hid hG; clear hG
  have H_hz1 := Lib.hid hz1; clear hz1
  have H_hz2 := Lib.hid hz2; clear hz2
  have H_he1 := Lib.hid he1; clear he1
  have H_he2 := Lib.hid he2; clear he2
  have H_hd := Lib.hid hd; clear hd
  go_enter Tryz.func32, Tryz.ntmps32
  go_wp2_with (fail)
  generalize hw1 : (((w.alloc _).alloc _).alloc _).alloc _ = w1
  rw [← hg]
  obtain ⟨r1, r2, r3, r4, hf⟩ := H_bx.out w1 hw1
  have hlt4 := lt_of_row r4
  have k0 := row_cell r1 0
  have k1 := row_cell r1 1
  have m0 := row_cell r2 0
  have m1 := row_cell r2 1
  simp at k0 k1 m0 m1
  have H_r1 := Lib.hid r1; clear r1
  have H_r2 := Lib.hid r2; clear r2
  have H_r3 := Lib.hid r3; clear r3
  have H_r4 := Lib.hid r4; clear r4
  have H_hf := Lib.hid hf; clear hf
  have H_hw1 := Lib.hid hw1; clear hw1
  have H_hg := Lib.hid hg; clear hg
  have H_hlt4 := Lib.hid hlt4; clear hlt4
  go_wp2_with (fail)
  refine wp_region_E (S := (fun (w' : World) => w'.cell? ⟨g, 0, none⟩ = some (.pointer (some ⟨b1, 0, none⟩)) ∧ w'.cell? ⟨g, 1, none⟩ = some (.int .i32 e1) ∧ w'.cell? ⟨g + 1, 0, none⟩ = some (.pointer (some ⟨b2, 0, none⟩)) ∧ w'.cell? ⟨g + 1, 1, none⟩ = some (.int .i32 e2))) 6 (by kernel_rfl) (by exact ⟨k0, k1, m0, m1⟩) (fun hHeld => ?_)
  refine wpAnyE_takeL (i := 0) (c := 5) (v := ?v0_1) rfl (by kernel_rfl) (fun _ _ _ h => h) ⟨by rfl, ?y0_1⟩ (by assumption) ?r0_1
  case y0_1 => (intro w hSw; go_split_ands; go_simp; try with_reducible rfl)
  try simp only [Act.put, yA, yB, yD, yE, yF]
  refine wpAnyE_takeL (i := 1) (c := 4) (v := ?v1_1) rfl (by kernel_rfl) (fun _ _ _ h => h) ⟨by rfl, ?y1_1⟩ (by assumption) ?r1_1
  case y1_1 => (intro w hSw; go_split_ands; go_simp; try with_reducible rfl)
  try simp only [Act.put, yA, yB, yC, yD, yE, yF]
  refine wpAnyE_takeP (i := 2) (v := ?v2_1) rfl (by kernel_rfl) (fun _ _ _ h => h) ⟨by rfl, ?y2_1⟩ (by assumption) ?r2_1
  case y2_1 => (intro w; go_simp; try with_reducible rfl)
  try simp only [Act.put, yA, yB, yC, yD, yE, yF]
  refine wpAnyE_takeL (i := 3) (c := 4) (v := ?v3_1) rfl (by kernel_rfl) (fun _ _ _ h => h) ⟨by rfl, ?y3_1⟩ (by assumption) ?r3_1
  case y3_1 => (intro w hSw; go_split_ands; go_simp; try with_reducible rfl)
  try simp only [Act.put, yA, yB, yC, yD, yE, yF]
  refine wpAnyE_one (i := 4) rfl (by kernel_rfl) (fun K hK => ?_)
  go_simp
  refine (H_hrs.out _ H_hf.out.drew).mono ?_; rintro r w2 ⟨b, v, rfl, z3, g3, o3, y⟩; have f2 : Fresh w1 w2 := y.of_drew; have H_g3 := Lib.hid g3; have H_o3 := Lib.hid o3; clear g3 o3; have j0 := cell_fresh k0 f2; have j1 := cell_fresh k1 f2; have l0 := cell_fresh m0 f2; have l1 := cell_fresh m1 f2; have d3 := row_fresh H_r3.out f2; have d4 := row_fresh H_r4.out f2; have p0 := row_cell d3 0; have p1 := row_cell d3 1; have p2 := row_cell d4 0; have p3 := row_cell d4 1; simp at p0 p1 p2 p3; have q0 := frozen_of_row _ _ 0 _ _ d3; have q1 := frozen_of_row _ _ 1 _ _ d3; have q2 := frozen_of_row _ _ 0 _ _ d4; have q3 := frozen_of_row _ _ 1 _ _ d4; have H_z3 := Lib.hid z3; have H_f2 := Lib.hid f2; have H_d3 := Lib.hid d3; have H_d4 := Lib.hid d4; clear y z3 f2 d3 d4
  go_wp2_with (fail)
  have hHeld1 : ((fun (w' : World) => w'.cell? ⟨g, 0, none⟩ = some (.pointer (some ⟨b1, 0, none⟩)) ∧ w'.cell? ⟨g, 1, none⟩ = some (.int .i32 e1) ∧ w'.cell? ⟨g + 1, 0, none⟩ = some (.pointer (some ⟨b2, 0, none⟩)) ∧ w'.cell? ⟨g + 1, 1, none⟩ = some (.int .i32 e2))) _ := ⟨j0, j1, l0, l1⟩
  refine hK.out _ _ (fun _ => hHeld1) ?_
  clear hK K
  try simp only [Act.put, yA, yB, yC, yD, yE, yF]
  refine wpAnyE_one (i := 5) rfl (by kernel_rfl) (fun K hK => ?_)
  go_simp
  skip
  refine hK.out _ _ (fun _ => ?hs5_1) ?_
  case hs5_1 => exact ⟨far_cell (by omega) (far_cell (by omega) j0), far_cell (by omega) (far_cell (by omega) j1), far_cell (by omega) (far_cell (by omega) l0), far_cell (by omega) (far_cell (by omega) l1)⟩
  clear hK K
  try simp only [Act.put, yA, yB, yC, yD, yE, yF]
  refine wpAnyE_one (i := 6) rfl (by kernel_rfl) (fun K hK => ?_)
  go_simp
  refine hK.out _ _ (fun h => Bool.noConfusion (show true = false from h)) ?_
  clear hK K
  try simp only [Act.put, yA, yB, yC, yD, yE, yF]
  refine wpAnyE_done (by kernel_rfl) ?_ _
  go_wp2_with (fail)
  generalize hw7 : (((w2.setCell _ _).setCell _ _).setCell _ _).setCell _ _ = w7
  have s3 : w7.heap[g + 1 + 1]? = some (.cells #[.pointer (some ⟨b1, 0, none⟩), .int .i32 e1] 49 (0, 0)) := by rw [← hw7]; exact row_set_ne (by omega) (row_set_ne (by omega) (row_set (row_set H_d3.out)))
  have s4 : w7.heap[g + 1 + 1 + 1]? = some (.cells #[.pointer (some ⟨b, 0, none⟩), .int .i32 e1] 49 (0, 0)) := by rw [← hw7]; exact row_set (row_set (row_set_ne (by omega) (row_set_ne (by omega) H_d4.out)))
  have hgw := H_hg.out
  have hff : Fresh w w7 := by
    rw [← hw7]
    exact ((((fresh_trans H_hf.out H_f2.out).setCell (p := ⟨g + 1 + 1, 0, none⟩) (fun h => by change g + 1 + 1 < w.heap.size at h; omega) _).setCell (p := ⟨g + 1 + 1, 1, none⟩) (fun h => by change g + 1 + 1 < w.heap.size at h; omega) _).setCell (p := ⟨g + 1 + 1 + 1, 0, none⟩) (fun h => by change g + 1 + 1 + 1 < w.heap.size at h; omega) _).setCell (p := ⟨g + 1 + 1 + 1, 1, none⟩) (fun h => by change g + 1 + 1 + 1 < w.heap.size at h; omega) _
  have hkk : Keep (fun k => k = g + 1 + 1 ∨ k = g + 1 + 1 + 1) w2 w7 := by
    rw [← hw7]
    exact ((((Keep.refl _ w2).setCell (p := ⟨g + 1 + 1, 0, none⟩) (fun _ => .inl rfl) _).setCell (p := ⟨g + 1 + 1, 1, none⟩) (fun _ => .inl rfl) _).setCell (p := ⟨g + 1 + 1 + 1, 0, none⟩) (fun _ => .inr rfl) _).setCell (p := ⟨g + 1 + 1 + 1, 1, none⟩) (fun _ => .inr rfl) _
  have h4 := H_hlt4.out
  have zz := H_z3.out.keep hkk (fun h => by have := H_g3.out; simp at this; omega) (fun k hk h => by have := H_o3.out k hk; simp at this; omega)
  refine bodyPost_ret (results_cells2 rfl _ _ (g + 1 + 1) (g + 1 + 1 + 1) _ _ rfl rfl (run_loadVar_row w7 _ _ _ _ (0, 0) _ s3 Tryz.underlying49 rfl (by kernel_rfl)) (run_loadVar_row w7 _ _ _ _ (0, 0) _ s4 Tryz.underlying49 rfl (by kernel_rfl))) rfl ?_
  exact ⟨b1, b, rfl, ⟨v1, H_hx.out.fresh hff⟩, ⟨v, zz⟩, hff⟩

set_option maxRecDepth 20000 in
set_option maxHeartbeats 2000000 in
theorem Pair_gt (b1 b2 : Nat) (v1 v2 : Value) (z1 z2 e1 e2 : Int) (w : World) (hG : Glob w) (hz1 : z1.natAbs < wpow 7) (hz2 : z2.natAbs < wpow 7) (hx : ZI w b1 v1 z1) (hy : ZI w b2 v2 z2)
    (he1 : -400 ≤ e1 ∧ e1 ≤ 400) (he2 : -400 ≤ e2 ∧ e2 ≤ 400) (hlt : e2 < e1) (hd : e1 - e2 ≤ 127 ∧ e2 - e1 ≤ 127) :
    Calls Tryz.prog 32 #[sd b1 e1, sd b2 e2] w (fun r w' => ∃ c1 c2 u1 u2, r = .returned (.tuple #[sd c1 e2, sd c2 e2]) ∧ ZI w' c1 u1 (z1 * ((10 ^ (e1 - e2).toNat : Nat) : Int)) ∧ ZI w' c2 u2 (z2) ∧ Fresh w w') := by
  have hrs := fun W (hW : Fresh w W) => rescale_lt b1 v1 z1 e1 e2 W (hG.fresh hW) (Nat.lt_of_lt_of_le hz1 (wpow_mono (by omega))) (hx.fresh hW) he1 he2 hlt hd.1
  generalize z1 * ((10 ^ (e1 - e2).toNat : Nat) : Int) = yy at *
  have t1 : decide (e1 < e2) = false := by simp; omega
  have t2 : decide (e2 < e1) = true := by simp; omega
  have t3 : ¬ e1 < e2 := by omega
  obtain ⟨g, hg⟩ : ∃ g, g = w.heap.size := ⟨_, rfl⟩
  have bx := boxes4 w #[.pointer (some ⟨b1, 0, none⟩), .int .i32 e1] #[.pointer (some ⟨b2, 0, none⟩), .int .i32 e2] #[.pointer none, .int .i32 0] #[.pointer none, .int .i32 0] 49 49 49 49 g hg
  have H_bx := Lib.hid bx; clear bx
  have H_hrs := Lib.hid hrs; clear hrs
  have H_hx := Lib.hid hx; clear hx
  have H_hy := Lib.hid hy; clear hy
  have H_hG := Lib.hid hG; clear hG
  have H_hz1 := Lib.hid hz1; clear hz1
  have H_hz2 := Lib.hid hz2; clear hz2
  have H_he1 := Lib.hid he1; clear he1
  have H_he2 := Lib.hid he2; clear he2
  have H_hd := Lib.hid hd; clear hd
  go_enter Tryz.func32, Tryz.ntmps32
  go_wp2_with (fail)
  generalize hw1 : (((w.alloc _).alloc _).alloc _).alloc _ = w1
  rw [← hg]
  obtain ⟨r1, r2, r3, r4, hf⟩ := H_bx.out w1 hw1
  have hlt4 := lt_of_row r4
  have k0 := row_cell r1 0
  have k1 := row_cell r1 1
  have m0 := row_cell r2 0
  have m1 := row_cell r2 1
  simp at k0 k1 m0 m1
  have H_r1 := Lib.hid r1; clear r1
  have H_r2 := Lib.hid r2; clear r2
  have H_r3 := Lib.hid r3; clear r3
  have H_r4 := Lib.hid r4; clear r4
  have H_hf := Lib.hid hf; clear hf
  have H_hw1 := Lib.hid hw1; clear hw1
  have H_hg := Lib.hid hg; clear hg
  have H_hlt4 := Lib.hid hlt4; clear hlt4
  go_wp2_with (fail)
  refine wp_region_E (S := (fun (w' : World) => w'.cell? ⟨g, 0, none⟩ = some (.pointer (some ⟨b1, 0, none⟩)) ∧ w'.cell? ⟨g, 1, none⟩ = some (.int .i32 e1) ∧ w'.cell? ⟨g + 1, 0, none⟩ = some (.pointer (some ⟨b2, 0, none⟩)) ∧ w'.cell? ⟨g + 1, 1, none⟩ = some (.int .i32 e2))) 6 (by kernel_rfl) (by exact ⟨k0, k1, m0, m1⟩) (fun hHeld => ?_)
  refine wpAnyE_takeL (i := 0) (c := 3) (v := ?v0_2) rfl (by kernel_rfl) (fun _ _ _ h => h) ⟨by rfl, ?y0_2⟩ (by assumption) ?r0_2
  case y0_2 => (intro w hSw; go_split_ands; go_simp; try with_reducible rfl)
  try simp only [Act.put, yA, yB, yD, yE, yF]
  refine wpAnyE_takeP (i := 1) (v := ?v1_2) rfl (by kernel_rfl) (fun _ _ _ h => h) ⟨by rfl, ?y1_2⟩ (by assumption) ?r1_2
  case y1_2 => (intro w; go_simp; try with_reducible rfl)
  try simp only [Act.put, yA, yB, yC, yD, yE, yF]
  refine wpAnyE_takeL (i := 2) (c := 3) (v := ?v2_2) rfl (by kernel_rfl) (fun _ _ _ h => h) ⟨by rfl, ?y2_2⟩ (by assumption) ?r2_2
  case y2_2 => (intro w hSw; go_split_ands; go_simp; try with_reducible rfl)
  try simp only [Act.put, yA, yB, yC, yD, yE, yF]
  refine wpAnyE_takeS (i := 4) (v := ?v4_2) rfl (by kernel_rfl) (fun _ _ _ h => h) ⟨by rfl, ?y4_2⟩ (by assumption) ?r4_2
  case y4_2 => (intro w hSw; go_split_ands; go_simp; try with_reducible rfl)
  try simp only [Act.put, yA, yB, yC, yD, yE, yF]
  refine wpAnyE_one (i := 3) rfl (by kernel_rfl) (fun K hK => ?_)
  go_simp
  refine (H_hrs.out _ H_hf.out.drew).mono ?_; rintro r w2 ⟨b, v, rfl, z3, g3, o3, y⟩; have f2 : Fresh w1 w2 := y.of_drew; have H_g3 := Lib.hid g3; have H_o3 := Lib.hid o3; clear g3 o3; have j0 := cell_fresh k0 f2; have j1 := cell_fresh k1 f2; have l0 := cell_fresh m0 f2; have l1 := cell_fresh m1 f2; have d3 := row_fresh H_r3.out f2; have d4 := row_fresh H_r4.out f2; have p0 := row_cell d3 0; have p1 := row_cell d3 1; have p2 := row_cell d4 0; have p3 := row_cell d4 1; simp at p0 p1 p2 p3; have q0 := frozen_of_row _ _ 0 _ _ d3; have q1 := frozen_of_row _ _ 1 _ _ d3; have q2 := frozen_of_row _ _ 0 _ _ d4; have q3 := frozen_of_row _ _ 1 _ _ d4; have H_z3 := Lib.hid z3; have H_f2 := Lib.hid f2; have H_d3 := Lib.hid d3; have H_d4 := Lib.hid d4; clear y z3 f2 d3 d4
  go_wp2_with (fail)
  have hHeld1 : ((fun (w' : World) => w'.cell? ⟨g, 0, none⟩ = some (.pointer (some ⟨b1, 0, none⟩)) ∧ w'.cell? ⟨g, 1, none⟩ = some (.int .i32 e1) ∧ w'.cell? ⟨g + 1, 0, none⟩ = some (.pointer (some ⟨b2, 0, none⟩)) ∧ w'.cell? ⟨g + 1, 1, none⟩ = some (.int .i32 e2))) _ := ⟨j0, j1, l0, l1⟩
  refine hK.out _ _ (fun _ => hHeld1) ?_
  clear hK K
  try simp only [Act.put, yA, yB, yC, yD, yE, yF]
  refine wpAnyE_one (i := 5) rfl (by kernel_rfl) (fun K hK => ?_)
  go_simp
  skip
  refine hK.out _ _ (fun _ => ?hs5_2) ?_
  case hs5_2 => exact ⟨far_cell (by omega) (far_cell (by omega) j0), far_cell (by omega) (far_cell (by omega) j1), far_cell (by omega) (far_cell (by omega) l0), far_cell (by omega) (far_cell (by omega) l1)⟩
  clear hK K
  try simp only [Act.put, yA, yB, yC, yD, yE, yF]
  refine wpAnyE_one (i := 6) rfl (by kernel_rfl) (fun K hK => ?_)
  go_simp
  refine hK.out _ _ (fun h => Bool.noConfusion (show true = false from h)) ?_
  clear hK K
  try simp only [Act.put, yA, yB, yC, yD, yE, yF]
  refine wpAnyE_done (by kernel_rfl) ?_ _
  go_wp2_with (fail)
  generalize hw7 : (((w2.setCell _ _).setCell _ _).setCell _ _).setCell _ _ = w7
  have s3 : w7.heap[g + 1 + 1]? = some (.cells #[.pointer (some ⟨b, 0, none⟩), .int .i32 e2] 49 (0, 0)) := by rw [← hw7]; exact row_set_ne (by omega) (row_set_ne (by omega) (row_set (row_set H_d3.out)))
  have s4 : w7.heap[g + 1 + 1 + 1]? = some (.cells #[.pointer (some ⟨b2, 0, none⟩), .int .i32 e2] 49 (0, 0)) := by rw [← hw7]; exact row_set (row_set (row_set_ne (by omega) (row_set_ne (by omega) H_d4.out)))
  have hgw := H_hg.out
  have hff : Fresh w w7 := by
    rw [← hw7]
    exact ((((fresh_trans H_hf.out H_f2.out).setCell (p := ⟨g + 1 + 1, 0, none⟩) (fun h => by change g + 1 + 1 < w.heap.size at h; omega) _).setCell (p := ⟨g + 1 + 1, 1, none⟩) (fun h => by change g + 1 + 1 < w.heap.size at h; omega) _).setCell (p := ⟨g + 1 + 1 + 1, 0, none⟩) (fun h => by change g + 1 + 1 + 1 < w.heap.size at h; omega) _).setCell (p := ⟨g + 1 + 1 + 1, 1, none⟩) (fun h => by change g + 1 + 1 + 1 < w.heap.size at h; omega) _
  have hkk : Keep (fun k => k = g + 1 + 1 ∨ k = g + 1 + 1 + 1) w2 w7 := by
    rw [← hw7]
    exact ((((Keep.refl _ w2).setCell (p := ⟨g + 1 + 1, 0, none⟩) (fun _ => .inl rfl) _).setCell (p := ⟨g + 1 + 1, 1, none⟩) (fun _ => .inl rfl) _).setCell (p := ⟨g + 1 + 1 + 1, 0, none⟩) (fun _ => .inr rfl) _).setCell (p := ⟨g + 1 + 1 + 1, 1, none⟩) (fun _ => .inr rfl) _
  have h4 := H_hlt4.out
  have zz := H_z3.out.keep hkk (fun h => by have := H_g3.out; simp at this; omega) (fun k hk h => by have := H_o3.out k hk; simp at this; omega)
  refine bodyPost_ret (results_cells2 rfl _ _ (g + 1 + 1) (g + 1 + 1 + 1) _ _ rfl rfl (run_loadVar_row w7 _ _ _ _ (0, 0) _ s3 Tryz.underlying49 rfl (by kernel_rfl)) (run_loadVar_row w7 _ _ _ _ (0, 0) _ s4 Tryz.underlying49 rfl (by kernel_rfl))) rfl ?_
  exact ⟨b, b2, rfl, ⟨v, zz⟩, ⟨v2, H_hy.out.fresh hff⟩, hff⟩

set_option maxRecDepth 20000 in
set_option maxHeartbeats 2000000 in
theorem Pair_eq (b1 b2 : Nat) (v1 v2 : Value) (z1 z2 e1 e2 : Int) (w : World) (hG : Glob w) (hz1 : z1.natAbs < wpow 7) (hz2 : z2.natAbs < wpow 7) (hx : ZI w b1 v1 z1) (hy : ZI w b2 v2 z2)
    (he1 : -400 ≤ e1 ∧ e1 ≤ 400) (he2 : -400 ≤ e2 ∧ e2 ≤ 400) (hlt : e1 = e2) (hd : e1 - e2 ≤ 127 ∧ e2 - e1 ≤ 127) :
    Calls Tryz.prog 32 #[sd b1 e1, sd b2 e2] w (fun r w' => ∃ c1 c2 u1 u2, r = .returned (.tuple #[sd c1 e1, sd c2 e1]) ∧ ZI w' c1 u1 (z1) ∧ ZI w' c2 u2 (z2) ∧ Fresh w w') := by
  subst hlt
  obtain ⟨g, hg⟩ : ∃ g, g = w.heap.size := ⟨_, rfl⟩
  have bx := boxes4 w #[.pointer (some ⟨b1, 0, none⟩), .int .i32 e1] #[.pointer (some ⟨b2, 0, none⟩), .int .i32 e1] #[.pointer none, .int .i32 0] #[.pointer none, .int .i32 0] 49 49 49 49 g hg
  have H_bx := Lib.hid bx; clear bx
  have H_hx := Lib.hid hx; clear hx
  have H_hy := Lib.hid hy; clear hy
  have H_hG := Lib.hid hG; clear hG
  have H_hz1 := Lib.hid hz1; clear hz1
  have H_hz2 := Lib.hid hz2; clear hz2
  have H_he1 := Lib.hid he1; clear he1
  have H_he2 := Lib.hid he2; clear he2
  have H_hd := Lib.hid hd; clear hd
  go_enter Tryz.func32, Tryz.ntmps32
  go_wp2_with (fail)
  generalize hw1 : (((w.alloc _).alloc _).alloc _).alloc _ = w1
  rw [← hg]
  obtain ⟨r1, r2, r3, r4, hf⟩ := H_bx.out w1 hw1
  have hlt4 := lt_of_row r4
  have k0 := row_cell r1 0
  have k1 := row_cell r1 1
  have m0 := row_cell r2 0
  have m1 := row_cell r2 1
  simp at k0 k1 m0 m1
  have p0 := row_cell r3 0
  have p1 := row_cell r3 1
  have p2 := row_cell r4 0
  have p3 := row_cell r4 1
  simp at p0 p1 p2 p3
  have q0 := frozen_of_row _ _ 0 _ _ r3
  have q1 := frozen_of_row _ _ 1 _ _ r3
  have q2 := frozen_of_row _ _ 0 _ _ r4
  have q3 := frozen_of_row _ _ 1 _ _ r4
  have H_r1 := Lib.hid r1; clear r1
  have H_r2 := Lib.hid r2; clear r2
  have H_r3 := Lib.hid r3; clear r3
  have H_r4 := Lib.hid r4; clear r4
  have H_hf := Lib.hid hf; clear hf
  have H_hw1 := Lib.hid hw1; clear hw1
  have H_hg := Lib.hid hg; clear hg
  have H_hlt4 := Lib.hid hlt4; clear hlt4
  go_wp2_with (fail)
  refine wp_region_E (S := (fun (w' : World) => w'.cell? ⟨g, 0, none⟩ = some (.pointer (some ⟨b1, 0, none⟩)) ∧ w'.cell? ⟨g, 1, none⟩ = some (.int .i32 e1) ∧ w'.cell? ⟨g + 1, 0, none⟩ = some (.pointer (some ⟨b2, 0, none⟩)) ∧ w'.cell? ⟨g + 1, 1, none⟩ = some (.int .i32 e1))) 3 (by kernel_rfl) (by exact ⟨k0, k1, m0, m1⟩) (fun hHeld => ?_)
  refine wpAnyE_takeL (i := 0) (c := 2) (v := ?v0_3) rfl (by kernel_rfl) (fun _ _ _ h => h) ⟨by rfl, ?y0_3⟩ (by assumption) ?r0_3
  case y0_3 => (intro w hSw; go_split_ands; go_simp; try with_reducible rfl)
  try simp only [Act.put, yA, yB, yD, yE, yF]
  refine wpAnyE_takeS (i := 1) (v := ?v1_3) rfl (by kernel_rfl) (fun _ _ _ h => h) ⟨by rfl, ?y1_3⟩ (by assumption) ?r1_3
  case y1_3 => (intro w hSw; go_split_ands; go_simp; try with_reducible rfl)
  try simp only [Act.put, yA, yB, yC, yD, yE, yF]
  refine wpAnyE_one (i := 2) rfl (by kernel_rfl) (fun K hK => ?_)
  go_simp
  skip
  refine hK.out _ _ (fun _ => ?hs2_3) ?_
  case hs2_3 => exact ⟨far_cell (by omega) (far_cell (by omega) k0), far_cell (by omega) (far_cell (by omega) k1), far_cell (by omega) (far_cell (by omega) m0), far_cell (by omega) (far_cell (by omega) m1)⟩
  clear hK K
  try simp only [Act.put, yA, yB, yC, yD, yE, yF]
  refine wpAnyE_one (i := 3) rfl (by kernel_rfl) (fun K hK => ?_)
  go_simp
  refine hK.out _ _ (fun h => Bool.noConfusion (show true = false from h)) ?_
  clear hK K
  try simp only [Act.put, yA, yB, yC, yD, yE, yF]
  refine wpAnyE_done (by kernel_rfl) ?_ _
  go_wp2_with (fail)
  generalize hw6 : (((w1.setCell _ _).setCell _ _).setCell _ _).setCell _ _ = w6
  have s3 : w6.heap[g + 1 + 1]? = some (.cells #[.pointer (some ⟨b1, 0, none⟩), .int .i32 e1] 49 (0, 0)) := by rw [← hw6]; exact row_set_ne (by omega) (row_set_ne (by omega) (row_set (row_set H_r3.out)))
  have s4 : w6.heap[g + 1 + 1 + 1]? = some (.cells #[.pointer (some ⟨b2, 0, none⟩), .int .i32 e1] 49 (0, 0)) := by rw [← hw6]; exact row_set (row_set (row_set_ne (by omega) (row_set_ne (by omega) H_r4.out)))
  have hgw := H_hg.out
  have hf6 : Fresh w w6 := by
    rw [← hw6]
    exact (((H_hf.out.setCell (p := ⟨g + 1 + 1, 0, none⟩) (fun h => by change g + 1 + 1 < w.heap.size at h; omega) _).setCell (p := ⟨g + 1 + 1, 1, none⟩) (fun h => by change g + 1 + 1 < w.heap.size at h; omega) _).setCell (p := ⟨g + 1 + 1 + 1, 0, none⟩) (fun h => by change g + 1 + 1 + 1 < w.heap.size at h; omega) _).setCell (p := ⟨g + 1 + 1 + 1, 1, none⟩) (fun h => by change g + 1 + 1 + 1 < w.heap.size at h; omega) _
  have f67 : Fresh w6 w6.drew := (Keep.refl (fun _ => False) w6).drew
  have s3 := row_fresh s3 f67
  have s4 := row_fresh s4 f67
  have hff := fresh_trans hf6 f67
  generalize w6.drew = w7 at *
  refine bodyPost_ret (results_cells2 rfl _ _ (g + 1 + 1) (g + 1 + 1 + 1) _ _ rfl rfl (run_loadVar_row w7 _ _ _ _ (0, 0) _ s3 Tryz.underlying49 rfl (by kernel_rfl)) (run_loadVar_row w7 _ _ _ _ (0, 0) _ s4 Tryz.underlying49 rfl (by kernel_rfl))) rfl ?_
  exact ⟨b1, b2, v1, v2, rfl, H_hx.out.fresh hff, H_hy.out.fresh hff, hff⟩

theorem Pair_any (b1 b2 : Nat) (v1 v2 : Value) (z1 z2 e1 e2 m : Int) (w : World) (hG : Glob w) (hz1 : z1.natAbs < wpow 7) (hz2 : z2.natAbs < wpow 7) (hx : ZI w b1 v1 z1) (hy : ZI w b2 v2 z2)
    (he1 : -60 ≤ e1 ∧ e1 ≤ 60) (he2 : -60 ≤ e2 ∧ e2 ≤ 60) (hm : m = min e1 e2) :
    Calls Tryz.prog 32 #[sd b1 e1, sd b2 e2] w (fun r w' => ∃ c1 c2 u1 u2, r = .returned (.tuple #[sd c1 m, sd c2 m]) ∧ ZI w' c1 u1 (z1 * ((10 ^ (e1 - m).toNat : Nat) : Int)) ∧ ZI w' c2 u2 (z2 * ((10 ^ (e2 - m).toNat : Nat) : Int)) ∧ Fresh w w') := by
  have e0 : ∀ (z e : Int), z * ((10 ^ (e - e).toNat : Nat) : Int) = z := fun z e => by
    rw [Int.sub_self]; exact Int.mul_one z
  rcases Int.lt_trichotomy e1 e2 with h | h | h
  · obtain rfl : m = e1 := by omega
    rw [e0]
    exact Pair_lt b1 b2 v1 v2 z1 z2 m e2 w hG hz1 hz2 hx hy (by omega) (by omega) h (by omega)
  · subst h
    obtain rfl : m = e1 := by omega
    rw [e0, e0]
    exact Pair_eq b1 b2 v1 v2 z1 z2 m m w hG hz1 hz2 hx hy (by omega) (by omega) rfl (by omega)
  · obtain rfl : m = e2 := by omega
    rw [e0]
    exact Pair_gt b1 b2 v1 v2 z1 z2 e1 m w hG hz1 hz2 hx hy (by omega) (by omega) h (by omega)

end Go.Proofs.YtjjolcjeiogdmaaGreatDoor

/- impl.DecRescalePair. Printed by gen_idp.py. -/
namespace Go.Proofs.YtjjolcjeiogdmaaGreatDoor
open Go.RowKit

theorem DecRescalePair1_idle (p q r : Addr) (w : World) :
    CallsD Tryz.prog 31 #[.pointer (some p), .pointer (some q), .pointer (some r)] .returning w fun e u' w' => e = .returned (.tuple #[]) ∧ u' = .returning ∧ w' = w := by
  refine callsD_of_wpS Tryz.func31 rfl fun c₀ cs hu => ?_
  apply wpS_seq
  apply wpS_region
  simp [wpOpsS, go_sem, recoverD, hu, Tryz.ntmps31, Exit.thenS]
  refine wpS_cond (t := false) (by simp [Act.eval, Array.replicate]) ?_
  simp only [Bool.false_eq_true, if_false]
  refine wpS_of_wp (wp_skip ?_)
  cases c₀
  simp_all [bodyPostS, results, Tryz.results31]

theorem results_cells3 {P : Program} {fn : Func} {p1 p2 p3 : Tmp} {ty1 ty2 ty3 : TypeId} {v1 v2 v3 : Value} (h : fn.results = #[.cell p1 ty1, .cell p2 ty2, .cell p3 ty3]) (tmps : Array Value) (w : World) (g1 g2 g3 : Nat)
    (h1 : tmps.getD p1 undef = .pointer (some ⟨g1, 0, none⟩)) (h2 : tmps.getD p2 undef = .pointer (some ⟨g2, 0, none⟩)) (h3 : tmps.getD p3 undef = .pointer (some ⟨g3, 0, none⟩))
    (e1 : (loadVar ty1 ⟨g1, 0, none⟩).run P w = .ok v1 w) (e2 : (loadVar ty2 ⟨g2, 0, none⟩).run P w = .ok v2 w) (e3 : (loadVar ty3 ⟨g3, 0, none⟩).run P w = .ok v3 w) :
    (results fn tmps).run P w = .ok (.tuple #[v1, v2, v3]) w := by
  have h1' : tmps[p1]?.getD undef = .pointer (some ⟨g1, 0, none⟩) := by simpa using h1
  have h2' : tmps[p2]?.getD undef = .pointer (some ⟨g2, 0, none⟩) := by simpa using h2
  have h3' : tmps[p3]?.getD undef = .pointer (some ⟨g3, 0, none⟩) := by simpa using h3
  simp [results, h, h1', h2', h3', asAddr, e1, e2, e3, Sem.run_bind, Result.andThen]

theorem boxes5d (w : World) (c1 c2 c3 c4 c5 : Array Value) (T1 T2 T3 T4 T5 : TypeId) : ∀ g, g = w.heap.size → ∀ w1, ((((w.alloc (.cells c1 T1)).alloc (.cells c2 T2)).alloc (.cells c3 T3)).alloc (.cells c4 T4)).alloc (.cells c5 T5) = w1 →
    w1.heap[g]? = some (.cells c1 T1 (0, 0)) ∧ w1.heap[g + 1]? = some (.cells c2 T2 (0, 0)) ∧ w1.heap[g + 1 + 1]? = some (.cells c3 T3 (0, 0)) ∧ w1.heap[g + 1 + 1 + 1]? = some (.cells c4 T4 (0, 0)) ∧ w1.heap[g + 1 + 1 + 1 + 1]? = some (.cells c5 T5 (0, 0)) ∧ Fresh w w1 := by
  rintro g rfl w1 rfl
  obtain ⟨h1, h2, h3, h4, _⟩ := boxes3 w c1 c2 c3 T1 T2 T3 _ rfl _ rfl
  obtain ⟨s1, s2, s4⟩ := boxes2 (((w.alloc (.cells c1 T1)).alloc (.cells c2 T2)).alloc (.cells c3 T3)) c4 c5 T4 T5 _ rfl _ rfl
  have hs : (((w.alloc (.cells c1 T1)).alloc (.cells c2 T2)).alloc (.cells c3 T3)).heap.size = w.heap.size + 1 + 1 + 1 := by simp
  rw [hs] at s1 s2
  exact ⟨row_fresh h1 s4, row_fresh h2 s4, row_fresh h3 s4, s1, s2, fresh_trans h4 s4⟩

set_option maxRecDepth 20000 in
set_option maxHeartbeats 4000000 in
theorem DecPair_ok (z1 z2 s1 s2 e1 e2 m : Int) (p : Nat) (w : World) (hz1 : (wdig z1).length ≤ 300) (hz2 : (wdig z2).length ≤ 300) (he1 : -400 ≤ e1 ∧ e1 ≤ 400) (he2 : -400 ≤ e2 ∧ e2 ≤ 400) (hem : -2147483648 ≤ m ∧ m ≤ 2147483647)
    (hp : p ≤ 600) (hs1 : s1.natAbs < 10 ^ p) (hs2 : s2.natAbs < 10 ^ p) (hNG : NG ≤ w.heap.size)
    (hm : ∀ b1 v1 b2 v2 W, Fresh w W → ZI W b1 v1 z1 → ZI W b2 v2 z2 → Calls Tryz.prog 32 #[sd b1 e1, sd b2 e2] W (fun r w' => ∃ c1 c2 u1 u2, r = .returned (.tuple #[sd c1 m, sd c2 m]) ∧ ZI w' c1 u1 s1 ∧ ZI w' c2 u2 s2 ∧ Fresh W w')) :
    Calls Tryz.prog 12 #[dd z1 e1, dd z2 e2] w (fun r w' => r = .returned (.tuple #[dd s1 m, dd s2 m, .int .i64 0]) ∧ Fresh w w') := by
  have hmf : ∀ (fn : Fn) (first cap : Array Value) (w : World), (Instr.makeFunc fn first cap).run Tryz.prog w = .ok (.func fn first cap) w := fun _ _ _ _ => rfl
  have hm1 := fun W (hW : Fresh w W) => made_any z1 e1 W hz1 he1 (Nat.le_trans hNG hW.size)
  have hm2 := fun W (hW : Fresh w W) => made_any z2 e2 W hz2 he2 (Nat.le_trans hNG hW.size)
  have hdc1 := fun b v W (hx : ZI W b v s1) => dec_any b v s1 m p W hem hx hp hs1
  have hdc2 := fun b v W (hx : ZI W b v s2) => dec_any b v s2 m p W hem hx hp hs2
  unfold dd
  generalize bstr (wdig z1) = t1 at *
  generalize bstr (wdig z2) = t2 at *
  generalize bstr (wdig s1) = r1' at *
  generalize bstr (wdig s2) = r2' at *
  clear hz1 hz2 he1 he2 hem hs1 hs2 hNG hp
  have H_hm := Lib.hid hm; clear hm
  have H_hm1 := Lib.hid hm1; clear hm1
  have H_hm2 := Lib.hid hm2; clear hm2
  have H_hdc1 := Lib.hid hdc1; clear hdc1
  have H_hdc2 := Lib.hid hdc2; clear hdc2
  go_enter_defers Tryz.func12, Tryz.ntmps12
  go_wp2_with (fail)
  obtain ⟨g, hg⟩ : ∃ g, g = w.heap.size := ⟨_, rfl⟩
  have bx := boxes5d w #[.string t1, .int .i64 e1] #[.string t2, .int .i64 e2] #[.string ⟨#[]⟩, .int .i64 0] #[.string ⟨#[]⟩, .int .i64 0] #[.int .i64 0] 23 23 23 23 3 g hg
  have H_bx := Lib.hid bx; clear bx
  generalize hw1 : ((((w.alloc _).alloc _).alloc _).alloc _).alloc _ = w1
  rw [← hg]
  obtain ⟨d1, d2, d3, d4, d5, fa⟩ := H_bx.out w1 hw1
  have H_d1 := Lib.hid d1; clear d1
  have H_d2 := Lib.hid d2; clear d2
  have H_d3 := Lib.hid d3; clear d3
  have H_d4 := Lib.hid d4; clear d4
  have H_d5 := Lib.hid d5; clear d5
  have H_fa := Lib.hid fa; clear fa
  have H_hw1 := Lib.hid hw1; clear hw1
  have H_hg := Lib.hid hg; clear hg
  refine (H_hm1.out _ H_fa.out).mono ?_
  rintro e w2 ⟨b1, v1, rfl, y1, -, -, f2⟩
  have d1 := row_fresh H_d1.out f2
  have d2 := row_fresh H_d2.out f2
  have d3 := row_fresh H_d3.out f2
  have d4 := row_fresh H_d4.out f2
  have d5 := row_fresh H_d5.out f2
  have fa := fresh_trans H_fa.out f2
  obtain ⟨h1, hh1⟩ : ∃ h, h = w2.heap.size := ⟨_, rfl⟩
  have ak0 := row_cell d2 0
  have ak1 := row_cell d2 1
  simp at ak0 ak1
  have a0 := fun o => cell_fresh ak0 ((Keep.refl (fun _ => False) w2).alloc o)
  have a1 := fun o => cell_fresh ak1 ((Keep.refl (fun _ => False) w2).alloc o)
  clear ak0 ak1
  clear H_d1 H_d2 H_d3 H_d4 H_d5 H_fa
  have H_d1 := Lib.hid d1; clear d1
  have H_d2 := Lib.hid d2; clear d2
  have H_d3 := Lib.hid d3; clear d3
  have H_d4 := Lib.hid d4; clear d4
  have H_d5 := Lib.hid d5; clear d5
  have H_fa := Lib.hid fa; clear fa
  have H_f2 := Lib.hid f2; clear f2
  have H_hh1 := Lib.hid hh1; clear hh1
  have H_y1 := Lib.hid y1; clear y1
  go_wp2_with (fail)
  generalize hw3 : w2.alloc _ = w3
  have f3 : Fresh w2 w3 := by rw [← hw3]; exact (Keep.refl _ _).alloc _
  have r1 : w3.heap[h1]? = some (.cells #[.pointer (some ⟨b1, 0, none⟩), .int .i32 e1] 49 (0, 0)) := by rw [← hw3, H_hh1.out]; exact heap_alloc_new w2 _
  rw [← H_hh1.out]
  have d1 := row_fresh H_d1.out f3
  have d2 := row_fresh H_d2.out f3
  have d3 := row_fresh H_d3.out f3
  have d4 := row_fresh H_d4.out f3
  have d5 := row_fresh H_d5.out f3
  have y1 := H_y1.out.fresh f3
  have fa := fresh_trans H_fa.out f3
  clear a0 a1
  clear H_d1 H_d2 H_d3 H_d4 H_d5 H_fa H_y1
  have H_d1 := Lib.hid d1; clear d1
  have H_d2 := Lib.hid d2; clear d2
  have H_d3 := Lib.hid d3; clear d3
  have H_d4 := Lib.hid d4; clear d4
  have H_d5 := Lib.hid d5; clear d5
  have H_r1 := Lib.hid r1; clear r1
  have H_fa := Lib.hid fa; clear fa
  have H_f3 := Lib.hid f3; clear f3
  have H_hw3 := Lib.hid hw3; clear hw3
  have H_y1 := Lib.hid y1; clear y1
  refine (H_hm2.out _ H_fa.out).mono ?_
  rintro e w4 ⟨b2, v2, rfl, y2, -, -, f4⟩
  have d1 := row_fresh H_d1.out f4
  have d2 := row_fresh H_d2.out f4
  have d3 := row_fresh H_d3.out f4
  have d4 := row_fresh H_d4.out f4
  have d5 := row_fresh H_d5.out f4
  have r1 := row_fresh H_r1.out f4
  have y1 := H_y1.out.fresh f4
  have fa := fresh_trans H_fa.out f4
  obtain ⟨h2, hh2⟩ : ∃ h, h = w4.heap.size := ⟨_, rfl⟩
  have ak0 := row_cell r1 0
  have ak1 := row_cell r1 1
  simp at ak0 ak1
  have a0 := fun o => cell_fresh ak0 ((Keep.refl (fun _ => False) w4).alloc o)
  have a1 := fun o => cell_fresh ak1 ((Keep.refl (fun _ => False) w4).alloc o)
  clear ak0 ak1
  clear H_d1 H_d2 H_d3 H_d4 H_d5 H_r1 H_fa H_y1
  have H_d1 := Lib.hid d1; clear d1
  have H_d2 := Lib.hid d2; clear d2
  have H_d3 := Lib.hid d3; clear d3
  have H_d4 := Lib.hid d4; clear d4
  have H_d5 := Lib.hid d5; clear d5
  have H_r1 := Lib.hid r1; clear r1
  have H_fa := Lib.hid fa; clear fa
  have H_f4 := Lib.hid f4; clear f4
  have H_hh2 := Lib.hid hh2; clear hh2
  have H_y1 := Lib.hid y1; clear y1
  have H_y2 := Lib.hid y2; clear y2
  go_wp2_with (fail)
  generalize hw5 : w4.alloc _ = w5
  have f5 : Fresh w4 w5 := by rw [← hw5]; exact (Keep.refl _ _).alloc _
  rw [← H_hh2.out]
  have d1 := row_fresh H_d1.out f5
  have d2 := row_fresh H_d2.out f5
  have d3 := row_fresh H_d3.out f5
  have d4 := row_fresh H_d4.out f5
  have d5 := row_fresh H_d5.out f5
  have y1 := H_y1.out.fresh f5
  have y2 := H_y2.out.fresh f5
  have fa := fresh_trans H_fa.out f5
  clear a0 a1
  clear H_d1 H_d2 H_d3 H_d4 H_d5 H_r1 H_fa H_y1 H_y2
  have H_d1 := Lib.hid d1; clear d1
  have H_d2 := Lib.hid d2; clear d2
  have H_d3 := Lib.hid d3; clear d3
  have H_d4 := Lib.hid d4; clear d4
  have H_d5 := Lib.hid d5; clear d5
  have H_fa := Lib.hid fa; clear fa
  have H_f5 := Lib.hid f5; clear f5
  have H_hw5 := Lib.hid hw5; clear hw5
  have H_y1 := Lib.hid y1; clear y1
  have H_y2 := Lib.hid y2; clear y2
  refine (H_hm.out _ _ _ _ _ H_fa.out H_y1.out H_y2.out).mono ?_
  rintro e w6 ⟨c1, c2, u1, u2, rfl, y1, y2, f6⟩
  clear H_y1 H_y2
  have d3 := row_fresh H_d3.out f6
  have d4 := row_fresh H_d4.out f6
  have d5 := row_fresh H_d5.out f6
  have fa := fresh_trans H_fa.out f6
  have hlt := lt_of_row d5
  obtain ⟨h, hh⟩ : ∃ h, h = w6.heap.size := ⟨_, rfl⟩
  rw [← hh] at hlt
  have bb := boxes2 w6 #[.pointer (some ⟨c1, 0, none⟩), .int .i32 m] #[.pointer (some ⟨c2, 0, none⟩), .int .i32 m] 49 49 h hh
  clear H_d1 H_d2 H_d3 H_d4 H_d5 H_fa
  have H_d3 := Lib.hid d3; clear d3
  have H_d4 := Lib.hid d4; clear d4
  have H_d5 := Lib.hid d5; clear d5
  have H_fa := Lib.hid fa; clear fa
  have H_f6 := Lib.hid f6; clear f6
  have H_y1 := Lib.hid y1; clear y1
  have H_y2 := Lib.hid y2; clear y2
  have H_hlt := Lib.hid hlt; clear hlt
  have H_hh := Lib.hid hh; clear hh
  have H_bb := Lib.hid bb; clear bb
  go_wp2_with (fail)
  generalize hw7 : (w6.alloc _).alloc _ = w7
  obtain ⟨n1, n2, f7⟩ := H_bb.out w7 hw7
  rw [← H_hh.out]
  have d3 := row_fresh H_d3.out f7
  have d4 := row_fresh H_d4.out f7
  have d5 := row_fresh H_d5.out f7
  have y1 := H_y1.out.fresh f7
  have y2 := H_y2.out.fresh f7
  have fa := fresh_trans H_fa.out f7
  have k0 := row_cell n1 0
  have k1 := row_cell n1 1
  have k2 := row_cell n2 0
  have k3 := row_cell n2 1
  simp at k0 k1 k2 k3
  clear H_d3 H_d4 H_d5 H_fa H_y1 H_y2 n1 n2
  have H_d3 := Lib.hid d3; clear d3
  have H_d4 := Lib.hid d4; clear d4
  have H_d5 := Lib.hid d5; clear d5
  have H_fa := Lib.hid fa; clear fa
  have H_f7 := Lib.hid f7; clear f7
  have H_hw7 := Lib.hid hw7; clear hw7
  have H_y1 := Lib.hid y1; clear y1
  have H_y2 := Lib.hid y2; clear y2
  refine wp_region_noPanic ?_
  refine wp_region_E (S := (fun (w' : World) => w'.cell? ⟨h, 0, none⟩ = some (.pointer (some ⟨c1, 0, none⟩)) ∧ w'.cell? ⟨h, 1, none⟩ = some (.int .i32 m) ∧ w'.cell? ⟨h + 1, 0, none⟩ = some (.pointer (some ⟨c2, 0, none⟩)) ∧ w'.cell? ⟨h + 1, 1, none⟩ = some (.int .i32 m))) 6 (by kernel_rfl) (by exact ⟨k0, k1, k2, k3⟩) (fun hHeld => ?_)
  refine wpAnyE_takeL (i := 0) (c := 1) (v := ?v0_1) rfl (by kernel_rfl) (fun _ _ _ h => h) ⟨by rfl, ?y0_1⟩ (by assumption) ?r0_1
  case y0_1 => (intro w hSw; go_split_ands; go_simp; try with_reducible rfl)
  try simp only [Act.put, yA, yB, yD, yE, yF]
  refine wpAnyE_takeL (i := 2) (c := 3) (v := ?v2_1) rfl (by kernel_rfl) (fun _ _ _ h => h) ⟨by rfl, ?y2_1⟩ (by assumption) ?r2_1
  case y2_1 => (intro w hSw; go_split_ands; go_simp; try with_reducible rfl)
  try simp only [Act.put, yA, yB, yC, yD, yE, yF]
  refine wpAnyE_one (i := 1) rfl (by kernel_rfl) (fun K hK => ?_)
  go_simp
  refine (H_hdc1.out _ _ _ (H_y1.out.fresh ?cc)).mono ?_; (case cc => exact (Keep.refl _ _).drew); rintro r w8 ⟨rfl, y⟩; have f8 : Fresh w7 w8 := y.of_drew; have j0 := cell_fresh k0 f8; have j1 := cell_fresh k1 f8; have j2 := cell_fresh k2 f8; have j3 := cell_fresh k3 f8; have H_f8 := Lib.hid f8; clear y f8
  go_wp2_with (fail)
  have hHeld1 : ((fun (w' : World) => w'.cell? ⟨h, 0, none⟩ = some (.pointer (some ⟨c1, 0, none⟩)) ∧ w'.cell? ⟨h, 1, none⟩ = some (.int .i32 m) ∧ w'.cell? ⟨h + 1, 0, none⟩ = some (.pointer (some ⟨c2, 0, none⟩)) ∧ w'.cell? ⟨h + 1, 1, none⟩ = some (.int .i32 m))) _ := ⟨j0, j1, j2, j3⟩
  refine hK.out _ _ (fun _ => hHeld1) ?_
  clear hK K
  try simp only [Act.put, yA, yB, yC, yD, yE, yF]
  refine wpAnyE_one (i := 3) rfl (by kernel_rfl) (fun K hK => ?_)
  go_simp
  refine (H_hdc2.out _ _ _ (H_y2.out.fresh H_f8.out)).mono ?_; rintro r w9 ⟨rfl, y⟩; have f9 := fresh_trans H_f8.out y; have n0 := cell_fresh k0 f9; have n1 := cell_fresh k1 f9; have n2 := cell_fresh k2 f9; have n3 := cell_fresh k3 f9; have x3 := row_fresh H_d3.out f9; have x4 := row_fresh H_d4.out f9; have x5 := row_fresh H_d5.out f9; have p0 := row_cell x3 0; have p1 := row_cell x3 1; have p2 := row_cell x4 0; have p3 := row_cell x4 1; have p4 := row_cell x5 0; simp at p0 p1 p2 p3 p4; have q0 := frozen_of_row _ _ 0 _ _ x3; have q1 := frozen_of_row _ _ 1 _ _ x3; have q2 := frozen_of_row _ _ 0 _ _ x4; have q3 := frozen_of_row _ _ 1 _ _ x4; have q4 := frozen_of_row _ _ 0 _ _ x5; have H_f9 := Lib.hid f9; have H_x3 := Lib.hid x3; have H_x4 := Lib.hid x4; have H_x5 := Lib.hid x5; clear y f9 x3 x4 x5
  go_wp2_with (fail)
  have hHeld2 : ((fun (w' : World) => w'.cell? ⟨h, 0, none⟩ = some (.pointer (some ⟨c1, 0, none⟩)) ∧ w'.cell? ⟨h, 1, none⟩ = some (.int .i32 m) ∧ w'.cell? ⟨h + 1, 0, none⟩ = some (.pointer (some ⟨c2, 0, none⟩)) ∧ w'.cell? ⟨h + 1, 1, none⟩ = some (.int .i32 m))) _ := ⟨n0, n1, n2, n3⟩
  refine hK.out _ _ (fun _ => hHeld2) ?_
  clear hK K
  try simp only [Act.put, yA, yB, yC, yD, yE, yF]
  refine wpAnyE_one (i := 4) rfl (by kernel_rfl) (fun K hK => ?_)
  go_simp
  skip
  refine hK.out _ _ (fun _ => ?hs4_1) ?_
  case hs4_1 => exact ⟨(far_cell (by have := H_hlt.out; omega) (far_cell (by have := H_hlt.out; omega) n0)), (far_cell (by have := H_hlt.out; omega) (far_cell (by have := H_hlt.out; omega) n1)), (far_cell (by have := H_hlt.out; omega) (far_cell (by have := H_hlt.out; omega) n2)), (far_cell (by have := H_hlt.out; omega) (far_cell (by have := H_hlt.out; omega) n3))⟩
  clear hK K
  try simp only [Act.put, yA, yB, yC, yD, yE, yF]
  refine wpAnyE_one (i := 5) rfl (by kernel_rfl) (fun K hK => ?_)
  go_simp
  skip
  refine hK.out _ _ (fun _ => ?hs5_1) ?_
  case hs5_1 => exact ⟨(far_cell (by have := H_hlt.out; omega) (far_cell (by have := H_hlt.out; omega) (far_cell (by have := H_hlt.out; omega) (far_cell (by have := H_hlt.out; omega) n0)))), (far_cell (by have := H_hlt.out; omega) (far_cell (by have := H_hlt.out; omega) (far_cell (by have := H_hlt.out; omega) (far_cell (by have := H_hlt.out; omega) n1)))), (far_cell (by have := H_hlt.out; omega) (far_cell (by have := H_hlt.out; omega) (far_cell (by have := H_hlt.out; omega) (far_cell (by have := H_hlt.out; omega) n2)))), (far_cell (by have := H_hlt.out; omega) (far_cell (by have := H_hlt.out; omega) (far_cell (by have := H_hlt.out; omega) (far_cell (by have := H_hlt.out; omega) n3))))⟩
  clear hK K
  try simp only [Act.put, yA, yB, yC, yD, yE, yF]
  refine wpAnyE_one (i := 6) rfl (by kernel_rfl) (fun K hK => ?_)
  go_simp
  refine hK.out _ _ (fun h => Bool.noConfusion (show true = false from h)) ?_
  clear hK K
  try simp only [Act.put, yA, yB, yC, yD, yE, yF]
  refine wpAnyE_done (by kernel_rfl) ?_ _
  refine NoPanic.normal ?_
  go_wp2_with (fail)
  refine leaves_cons (f := 31) (args := #[.pointer (some ⟨g + 1 + 1, 0, none⟩), .pointer (some ⟨g + 1 + 1 + 1, 0, none⟩), .pointer (some ⟨g + 1 + 1 + 1 + 1, 0, none⟩)]) (by simp) (by simp [go_sem]) ?_
  refine (DecRescalePair1_idle _ _ _ _).mono ?_
  rintro e u' w'' ⟨rfl, rfl, rfl⟩
  generalize hwz : ((((w9.setCell _ _).setCell _ _).setCell _ _).setCell _ _).setCell _ _ = wz
  have a3 : wz.heap[g + 1 + 1]? = some (.cells #[.string r1', .int .i64 m] 23 (0, 0)) := by rw [← hwz]; exact row_set_ne (by omega) (row_set_ne (by omega) (row_set_ne (by omega) (row_set (row_set H_x3.out))))
  have a4 : wz.heap[g + 1 + 1 + 1]? = some (.cells #[.string r2', .int .i64 m] 23 (0, 0)) := by rw [← hwz]; exact row_set_ne (by omega) (row_set (row_set (row_set_ne (by omega) (row_set_ne (by omega) H_x4.out))))
  have a5 : wz.heap[g + 1 + 1 + 1 + 1]? = some (.cells #[.int .i64 0] 3 (0, 0)) := by rw [← hwz]; exact row_set (row_set_ne (by omega) (row_set_ne (by omega) (row_set_ne (by omega) (row_set_ne (by omega) H_x5.out))))
  have c5 := row_cell a5 0
  simp at c5
  have hgw := H_hg.out
  have hff : Fresh w wz := by
    rw [← hwz]
    exact (((((fresh_trans H_fa.out H_f9.out).setCell (p := ⟨g + 1 + 1, 0, none⟩) (fun h => by change g + 1 + 1 < w.heap.size at h; omega) _).setCell (p := ⟨g + 1 + 1, 1, none⟩) (fun h => by change g + 1 + 1 < w.heap.size at h; omega) _).setCell (p := ⟨g + 1 + 1 + 1, 0, none⟩) (fun h => by change g + 1 + 1 + 1 < w.heap.size at h; omega) _).setCell (p := ⟨g + 1 + 1 + 1, 1, none⟩) (fun h => by change g + 1 + 1 + 1 < w.heap.size at h; omega) _).setCell (p := ⟨g + 1 + 1 + 1 + 1, 0, none⟩) (fun h => by change g + 1 + 1 + 1 + 1 < w.heap.size at h; omega) _
  exact ⟨_, results_cells3 rfl _ _ (g + 1 + 1) (g + 1 + 1 + 1) (g + 1 + 1 + 1 + 1) rfl rfl rfl (run_loadVar_row wz _ _ _ _ (0, 0) _ a3 Tryz.underlying23 rfl (by kernel_rfl)) (run_loadVar_row wz _ _ _ _ (0, 0) _ a4 Tryz.underlying23 rfl (by kernel_rfl)) (by simp [loadVar, go_sem, c5]), rfl, hff⟩

theorem DecPair_fit (z1 z2 e1 e2 m : Int) (w : World) (hG : Glob w) (hz1 : z1.natAbs < 10 ^ 60) (hz2 : z2.natAbs < 10 ^ 60) (he1 : -60 ≤ e1 ∧ e1 ≤ 60) (he2 : -60 ≤ e2 ∧ e2 ≤ 60) (hm : m = min e1 e2) :
    Calls Tryz.prog 12 #[dd z1 e1, dd z2 e2] w (fun r w' => r = .returned (.tuple #[dd (z1 * ((10 ^ (e1 - m).toNat : Nat) : Int)) m, dd (z2 * ((10 ^ (e2 - m).toNat : Nat) : Int)) m, .int .i64 0]) ∧ Fresh w w') :=
  DecPair_ok z1 z2 _ _ e1 e2 m 180 w (Nat.le_trans (wdig_len_le hz1 (by omega)) (by omega)) (Nat.le_trans (wdig_len_le hz2 (by omega)) (by omega)) (by omega) (by omega) (by omega) (by omega)
    (dscaled_lt hz1 (by omega)) (dscaled_lt hz2 (by omega)) hG.1
    (fun b1 v1 b2 v2 W hW hx hy => Pair_any b1 b2 v1 v2 z1 z2 e1 e2 m W (hG.fresh hW) (wpow7_of hz1) (wpow7_of hz2) hx hy he1 he2 hm)

end Go.Proofs.YtjjolcjeiogdmaaGreatDoor
