/- The contracts of govalues' whole numbers of any length: Int.Mul, bpow10, mul, lsh. -/
import Derived.Test.YtjjolcjeiogdmaaGreatDoorK9
import Derived.Test.YtjjolcjeiogdmaaGreatDoorK15
namespace Go.Proofs.YtjjolcjeiogdmaaGreatDoor
open Go.RowKit

end Go.Proofs.YtjjolcjeiogdmaaGreatDoor

/- The contracts of govalues' whole numbers of any length: mul, lsh, cmp. -/
namespace Go.Proofs.YtjjolcjeiogdmaaGreatDoor
open Go.RowKit

set_option maxRecDepth 20000 in
set_option maxHeartbeats 2000000 in
theorem IntCmp_any (g h : Nat) (v u : Value) (n m : Nat) (w : World) (hn : n < wpow 39) (hm : m < wpow 39) (hne : g ≠ h) (hx : BI w g v n) (hy : BI w h u m) :
    Calls Tryz.prog 48 #[.pointer (some ⟨g, 0, none⟩), .pointer (some ⟨h, 0, none⟩)] w (Quiet w (.int .i64 (cmpN n m))) := by
  obtain ⟨l, hx, rfl⟩ := hx
  obtain ⟨k, hy, rfl⟩ := hy
  have h1 := hx.norm.len_lt hn
  have h2 := hy.norm.len_lt hm
  have heq : (binOp .eql 47 (.pointer (some ⟨g, 0, none⟩)) (.pointer (some ⟨h, 0, none⟩))).run Tryz.prog w = .ok (.bool false) w := StrAt.eql_ne hx.str hy.str hne Tryz.underlying47 (by kernel_rfl)
  have cx0 := hx.str.c0; have cx1 := hx.str.c1; have cy0 := hy.str.c0; have cy1 := hy.str.c1
  rw [Nat.zero_add] at cx1 cy1
  clear hn hm
  have H_hx := Lib.hid hx; clear hx
  have H_hy := Lib.hid hy; clear hy
  go_enter Tryz.func48, Tryz.ntmps48
  go_wp2_with (go_quiet (fail))
  have hx2 := H_hx.out.drewN nq
  have hy2 := H_hy.out.drewN nq
  clear H_hx H_hy cx0 cx1 cy0 cy1 heq
  generalize hwq : w.drewN nq = wq at *
  have cx0 := hx2.str.c0; have cx1 := hx2.str.c1; have cy0 := hy2.str.c0; have cy1 := hy2.str.c1
  rw [Nat.zero_add] at cx1 cy1
  have hcmp : ∀ q, Calls Tryz.prog 72 #[v, u] (wq.drewN q) (Quiet (wq.drewN q) (.int .i64 (cmpN (val l) (val k)))) := fun q => nat_cmp v u l k _ (by omega) (by omega) hx2.nat hy2.nat hx2.norm hy2.norm
  generalize cmpN (val l) (val k) = r at *
  have H_hwq := Lib.hid hwq
  clear hwq
  have H_hx2 := Lib.hid hx2; clear hx2
  have H_hy2 := Lib.hid hy2; clear hy2
  have H_hcmp := Lib.hid hcmp; clear hcmp
  go_wp2_with (go_quiet ((go_at_call 72; exact quietOf (H_hcmp.out _))))
  go_ret
  refine ⟨rfl, ?_⟩
  rw [← H_hwq.out, World.drewN_drewN]
  exact ⟨_, rfl⟩

end Go.Proofs.YtjjolcjeiogdmaaGreatDoor
