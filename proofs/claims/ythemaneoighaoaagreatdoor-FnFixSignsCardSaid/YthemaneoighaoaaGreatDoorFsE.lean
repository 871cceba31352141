/- The contracts of the reference on govalues' decimals: FixAll of two. -/
import Derived.Test.YthemaneoighaoaaGreatDoorFsD
namespace Go.Proofs.YthemaneoighaoaaGreatDoor
open Go.RowKit

set_option maxRecDepth 20000 in
set_option maxHeartbeats 2000000 in
theorem FixAll_two (n1 n2 : Bool) (c1 c2 : Nat) (s1 s2 : Int) (g : Nat) (w : World) (hb : w.heap[g]? = some (.cells #[.bool n1, .int .u64 c1, .int .i64 s1, .bool n2, .int .u64 c2, .int .i64 s2] 24 (0, 0))) :
    Calls Tryz.prog 6 #[.slice (some ⟨g, 0, none⟩) 2 2] w (VRet w (.bool (fixIs c1 s1 && fixIs c2 s2))) := by
  have k0 := row_cell hb 0
  have k1 := row_cell hb 1
  have k2 := row_cell hb 2
  simp at k0 k1 k2
  have H_hb := Lib.hid hb; clear hb
  go_enter Tryz.func6, Tryz.ntmps6
  go_wp2_with (fail)
  refine wp_loop_rounds 3 ?_
  rw [rounds_succ]
  go_wp2_with (fail)
  refine (FixIs_any n1 c1 s1 _).mono ?_
  rintro e w2 ⟨rfl, hf2⟩
  have hfa : Fresh w w2 := fresh_trans ((Keep.refl _ _).alloc _) hf2
  have b2 := row_fresh H_hb.out hfa
  clear k0 k1 k2
  have k3 := row_cell b2 3
  have k4 := row_cell b2 4
  have k5 := row_cell b2 5
  simp at k3 k4 k5
  have H_hf2 := Lib.hid hf2; clear hf2
  have H_hfa := Lib.hid hfa; clear hfa
  have H_b2 := Lib.hid b2; clear b2
  cases h1 : fixIs c1 s1
  · go_wp2_with (fail)
    go_ret
    exact ⟨by rw [h1]; rfl, H_hfa.out⟩
  · go_wp2_with (fail)
    rw [rounds_succ]
    go_wp2_with (fail)
    refine (FixIs_any n2 c2 s2 _).mono ?_
    rintro e w3 ⟨rfl, hf3⟩
    have hfb : Fresh w w3 := fresh_trans H_hfa.out (fresh_trans ((Keep.refl _ _).alloc _) hf3)
    have H_hf3 := Lib.hid hf3; clear hf3
    have H_hfb := Lib.hid hfb; clear hfb
    cases h2 : fixIs c2 s2
    · go_wp2_with (fail)
      go_ret
      exact ⟨by rw [h1, h2]; rfl, H_hfb.out⟩
    · go_wp2_with (fail)
      rw [rounds_succ]
      go_wp2_with (fail)
      go_ret
      exact ⟨by rw [h1, h2]; rfl, H_hfb.out⟩

end Go.Proofs.YthemaneoighaoaaGreatDoor
