/- gvLives: 1.5 and 2 are 3.5. -/
import Derived.Test.YthemaneoighaoaaGreatDoorLvC
namespace Go.Proofs.YthemaneoighaoaaGreatDoor
open Go.RowKit

set_option maxRecDepth 20000 in
set_option maxHeartbeats 2000000 in
theorem gvLives_any (w : World) : Calls Tryz.prog 13 #[] w (VRet w (.bool true)) := by
  go_enter Tryz.func13, Tryz.ntmps13
  go_wp2_with (fail)
  refine (FixAdd_lives _).mono ?_
  rintro e w2 ⟨rfl, hf2⟩
  have hf3 := fun o => fresh_trans hf2 ((Keep.refl (fun _ => False) w2).alloc o)
  have H_hf2 := Lib.hid hf2; clear hf2
  have H_hf3 := Lib.hid hf3; clear hf3
  go_wp2_with (fail)
  go_ret
  exact ⟨rfl, H_hf3.out _⟩

end Go.Proofs.YthemaneoighaoaaGreatDoor
