/- govalues: newFromFint. -/
import Derived.Test.YtmgidnjpkbgmgabGreatDoorK15
import Derived.Test.YtmgidnjpkbgmgabGreatDoorK17
namespace Go.Proofs.YtmgidnjpkbgmgabGreatDoor
open Go.RowKit

theorem ErrIs.lt {w : World} {a : Addr} (h : w.cell? ⟨1, 0, none⟩ = some (.iface 121 (.pointer (some a)))) : 1 < w.heap.size := World.block_lt_of_cell? _ _ h

set_option maxRecDepth 20000 in
set_option maxHeartbeats 2000000 in
theorem newFromFint_mid (neg : Bool) (C S ms : Nat) (w : World) (hP : Pow10s w) (hC : C ≤ 9999999999999999999) (h1 : ms ≤ S) (h2 : S ≤ 19) :
    Calls Tryz.prog 118 #[.bool neg, .int .u64 C, .int .i64 S, .int .i64 ms] w (VRet w (.tuple #[gd (neg && decide (0 < C)) S (C), .nilIface])) := by
  obtain ⟨g, hg⟩ : ∃ g, g = w.heap.size := ⟨_, rfl⟩
  have bx := box1 w #[.bool false, .int .i8 0, .int .u64 0] 60 g hg
  have t1 : decide ((S : Int) < (ms : Int)) = false := by simp; omega
  have t1n : ¬ S < ms := by omega
  have t2 : decide (19 < (S : Int)) = false := by simp; omega
  have hsafe := fun W => newSafe_any neg S C W h2 hC
  have H_bx := Lib.hid bx; clear bx
  have H_hsafe := Lib.hid hsafe; clear hsafe
  have H_hP := Lib.hid hP; clear hP
  go_enter Tryz.func118, Tryz.ntmps118
  go_wp2_with (fail)
  generalize hw1 : w.alloc _ = w1
  rw [← hg]
  obtain ⟨b1, hf⟩ := H_bx.out w1 hw1
  have H_b1 := Lib.hid b1; clear b1
  have H_hf := Lib.hid hf; clear hf
  have H_hw1 := Lib.hid hw1; clear hw1
  have H_hg := Lib.hid hg; clear hg
  go_wp2_with (fail)
  refine (H_hsafe.out _).mono ?_
  rintro e w3 ⟨rfl, f3⟩
  have b1 := row_fresh H_b1.out f3
  have p0 := row_cell b1 0
  have p1 := row_cell b1 1
  have p2 := row_cell b1 2
  simp at p0 p1 p2
  have z0 : w3.frozen? ⟨g, 0, none⟩ = false := frozen_of_row _ _ _ _ _ b1
  have z1 : w3.frozen? ⟨g, 1, none⟩ = false := frozen_of_row _ _ _ _ _ b1
  have z2 : w3.frozen? ⟨g, 2, none⟩ = false := frozen_of_row _ _ _ _ _ b1
  clear H_b1
  obtain ⟨bn, hbn⟩ : ∃ b, b = (neg && decide (0 < C)) := ⟨_, rfl⟩
  rw [← hbn]
  have H_b1 := Lib.hid b1; clear b1
  have H_hbn := Lib.hid hbn; clear hbn
  go_wp2_with (fail)
  refine bodyPost_ret (results_cell_tmp_row rfl _ _ g 60 #[.bool bn, .int .i8 S, .int .u64 C] (0, 0) _ rfl (row_set (row_set (row_set H_b1.out))) Tryz.underlying60 rfl (by kernel_rfl)) rfl ?_
  exact ⟨by rw [← H_hbn.out]; rfl, Fresh.set3 (fresh_trans H_hf.out f3) (by have := H_hg.out; omega)⟩

end Go.Proofs.YtmgidnjpkbgmgabGreatDoor

/- newFromFint: a result, or a fault. -/
namespace Go.Proofs.YtmgidnjpkbgmgabGreatDoor
open Go.RowKit

end Go.Proofs.YtmgidnjpkbgmgabGreatDoor
