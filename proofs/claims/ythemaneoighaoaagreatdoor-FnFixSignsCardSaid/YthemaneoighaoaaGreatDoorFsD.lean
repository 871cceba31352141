/- The contracts of the reference on govalues' decimals: FixSame. -/
import Derived.Test.YthemaneoighaoaaGreatDoorFsC
namespace Go.Proofs.YthemaneoighaoaaGreatDoor
open Go.RowKit

theorem FixHas_any (neg : Bool) (c s : Nat) (xw : Value) (w : World) (hs : s ≤ 19) (hc : c ≤ 9999999999999999999) (hcan : neg = true → 0 < c) (hx : SFr w xw (zfix neg c) (10 ^ s)) :
    Calls Tryz.prog 38 #[fx neg c s, xw] w (VRet w (.bool true)) := by
  cases neg
  · exact FixHas_f c s xw w hs hc hx
  · exact FixHas_t c s xw w hs hc (hcan rfl) hx

set_option maxRecDepth 20000 in
set_option maxHeartbeats 2000000 in
theorem FixSame_any (neg : Bool) (c s : Nat) (nb : Bool) (v : Value) (l : List Nat) (w : World) (hs : s ≤ 19) (hc : c ≤ 9999999999999999999) (hcan : neg = true → 0 < c)
    (h : SNat w v l) (hn : Norm l) (hb : l = [] → nb = false) (hz : sint nb l = zfix neg c) (hl : l.length ≤ 1000) :
    Calls Tryz.prog 12 #[fx neg c s, .agg #[.bool nb, v, .int .i64 (-(s : Int))]] w (VRet w (.bool true)) := by
  have t1 : IntKind.i64.wrap (s : Int) = (s : Int) := wrap_nat s (by omega)
  obtain ⟨a, cc, rfl⟩ := h.form
  obtain ⟨g, hg⟩ : ∃ g, g = w.heap.size := ⟨_, rfl⟩
  have bx := boxes2 w #[.bool neg, .int .u64 c, .int .i64 s] #[.bool nb, .slice a l.length cc, .int .i64 (-(s : Int))] 24 31 g hg
  have hcall : ∀ W, Fresh w W → Calls Tryz.prog 39 #[.agg #[.bool nb, .slice a l.length cc, .int .i64 (-(s : Int))]] W (FRet W (zfix neg c) (10 ^ s)) := fun W hW => by
    rw [← hz]; exact DecFrac_any nb _ l s W (h.fresh hW) hn hb (by omega) hl
  have H_bx := Lib.hid bx; clear bx
  have H_h := Lib.hid h; clear h
  have H_hn := Lib.hid hn; clear hn
  have H_hb := Lib.hid hb; clear hb
  have H_hz := Lib.hid hz; clear hz
  have H_hcan := Lib.hid hcan; clear hcan
  have H_hcall := Lib.hid hcall; clear hcall
  go_enter Tryz.func12, Tryz.ntmps12
  go_wp2_with (fail)
  generalize hw1 : (w.alloc _).alloc _ = w1
  rw [← hg]
  obtain ⟨b1, b2, hf⟩ := H_bx.out w1 hw1
  have k0 := row_cell b1 0
  have k1 := row_cell b1 1
  have k2 := row_cell b1 2
  have k3 := row_cell b2 0
  have k4 := row_cell b2 1
  have k5 := row_cell b2 2
  simp at k0 k1 k2 k3 k4 k5
  have hcall := fun (r : Fresh w1 w1.drew) => H_hcall.out w1.drew (fresh_trans hf r)
  have H_b1 := Lib.hid b1; clear b1
  have H_b2 := Lib.hid b2; clear b2
  have H_hf := Lib.hid hf; clear hf
  have H_hw1 := Lib.hid hw1; clear hw1
  have H_hg := Lib.hid hg; clear hg
  have H_hcall := Lib.hid hcall; clear hcall
  go_region_held3 (fun (w' : World) => w'.cell? ⟨g, 0, none⟩ = some (.bool neg) ∧ w'.cell? ⟨g, 1, none⟩ = some (.int .u64 c) ∧ w'.cell? ⟨g, 2, none⟩ = some (.int .i64 s) ∧ w'.cell? ⟨g + 1, 0, none⟩ = some (.bool nb) ∧ w'.cell? ⟨g + 1, 1, none⟩ = some (.slice a l.length cc) ∧ w'.cell? ⟨g + 1, 2, none⟩ = some (.int .i64 (-(s : Int)))) (first | exact ⟨k0, k1, k2, k3, k4, k5⟩ | exact ⟨m0, m1, m2, m3, m4, m5⟩ | exact ⟨n0, n1, n2, n3, n4, n5⟩) (first
    | (go_at_call 39; (with_reducible refine (H_hcall.out ?c1).mono ?_); (case c1 => exact (Keep.refl _ _).drew); rintro e w2 ⟨x, rfl, hx, r⟩; have hf0 : Fresh w1 w2 := (by first | exact r | exact r.of_drew | exact r.of_drewN); have m0 := cell_fresh k0 hf0; have m1 := cell_fresh k1 hf0; have m2 := cell_fresh k2 hf0; have m3 := cell_fresh k3 hf0; have m4 := cell_fresh k4 hf0; have m5 := cell_fresh k5 hf0; have H_hx := Lib.hid hx; have H_hf0 := Lib.hid hf0; clear hx r hf0)
    | (go_at_call 38; (with_reducible refine (FixHas_any neg c s _ _ hs hc H_hcan.out H_hx.out).mono ?_); rintro e w3 ⟨rfl, r⟩; have n0 := cell_fresh m0 r; have n1 := cell_fresh m1 r; have n2 := cell_fresh m2 r; have n3 := cell_fresh m3 r; have n4 := cell_fresh m4 r; have n5 := cell_fresh m5 r; have H_r := Lib.hid r; clear r))
  go_wp2
  go_ret
  exact ⟨by simp, fresh_trans (fresh_trans H_hf.out H_hf0.out) H_r.out⟩

end Go.Proofs.YthemaneoighaoaaGreatDoor
