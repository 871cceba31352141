/- govalues: newFromFint at scales below 0 and above 38. -/
import Derived.Test.YtmgidnjpkbgmgabGreatDoorKB14
import Derived.Test.YtmgidnjpkbgmgabGreatDoorKB44
import Derived.Test.YtmgidnjpkbgmgabGreatDoorKB48
import Derived.Test.YtmgidnjpkbgmgabGreatDoorKB85
import Derived.Test.YtmgidnjpkbgmgabGreatDoorKB86
import Derived.Test.YtmgidnjpkbgmgabGreatDoorKB88
import Derived.Test.YtmgidnjpkbgmgabGreatDoorKB93
namespace Go.Proofs.YtmgidnjpkbgmgabGreatDoor
open Go.RowKit

end Go.Proofs.YtmgidnjpkbgmgabGreatDoor

/- govalues.Decimal.quoFint. -/
namespace Go.Proofs.YtmgidnjpkbgmgabGreatDoor
open Go.RowKit

/-- the fault of a division that does not come out even lies where the program's text lays it -/
def ErrJs (w : World) : Prop := ∃ a : Addr, w.cell? ⟨4, 0, none⟩ = some (.iface 121 (.pointer (some a)))

theorem ErrJs.fresh {w w' : World} (h : ErrJs w) (hf : Fresh w w') : ErrJs w' := by
  obtain ⟨a, h⟩ := h
  exact ⟨a, cell_fresh h hf⟩

theorem ErrJs.lt {w : World} {a : Addr} (h : w.cell? ⟨4, 0, none⟩ = some (.iface 121 (.pointer (some a)))) : 4 < w.heap.size := World.block_lt_of_cell? _ _ h

end Go.Proofs.YtmgidnjpkbgmgabGreatDoor

/- govalues: bint.quo in place, by a number of up to three words. -/
namespace Go.Proofs.YtmgidnjpkbgmgabGreatDoor
open Go.RowKit

set_option maxRecDepth 20000 in
set_option maxHeartbeats 2000000 in
theorem bquo_self (g h n y : Nat) (v u : Value) (w : World) (hG : Glob w) (hn : n < wpow 39) (hy0 : 0 < y) (hyb : y < wpow 3) (_hne : g ≠ h) (hz : BI w g v n) (hy : BI w h u y) :
    Calls Tryz.prog 112 #[.pointer (some ⟨g, 0, none⟩), .pointer (some ⟨g, 0, none⟩), .pointer (some ⟨h, 0, none⟩)] w (fun e w' => e = .returned (.tuple #[]) ∧ BSet w g v (n / y) w') := by
  have hgb := getBint_any w hG.size
  obtain ⟨b, hb⟩ : ∃ b, b = w.heap.size := ⟨_, rfl⟩
  rw [← hb] at hgb
  have hgb0 : g ≠ b := by have := hz.lt; omega
  have hqr := fun W (hW : Fresh w W) (hz : BI W g v n) (hy : BI W h u y) (hr : BI W b (.slice none 0 0) 0) =>
    bquoRem_all g g h b v v u (.slice none 0 0) n n y 0 W (hG.fresh hW) hn hy0 hyb hgb0 hz hz hy hr (.inl rfl) (fun k _ hk => by simp [Value.ownBlock] at hk) (fun k hk => by simp [Value.ownBlock] at hk) (fun k hk => by simp [Value.ownBlock] at hk)
  clear hG hn hy0 hyb _hne
  generalize n / y = q at *
  generalize n % y = r at *
  have H_hz := Lib.hid hz; clear hz
  have H_hy := Lib.hid hy; clear hy
  have H_hgb := Lib.hid hgb; clear hgb
  have H_hb := Lib.hid hb; clear hb
  have H_hgb0 := Lib.hid hgb0; clear hgb0
  have H_hqr := Lib.hid hqr; clear hqr
  go_enter_defers Tryz.func112, Tryz.ntmps112
  go_wp2_with (fail)
  refine H_hgb.out.mono ?_
  rintro e w1 ⟨rfl, b1, f1, s1⟩
  have hq := H_hqr.out w1 f1 (H_hz.out.fresh f1) (H_hy.out.fresh f1) b1
  have H_b1 := Lib.hid b1; clear b1
  have H_f1 := Lib.hid f1; clear f1
  have H_s1 := Lib.hid s1; clear s1
  have H_hq := Lib.hid hq; clear hq
  go_wp2_with (fail)
  refine H_hq.out.mono ?_
  rintro e w3 ⟨rfl, v3, u3, z3, r3, k3, ov, ou, od⟩
  have k03 : Keep (fun k => k = g ∨ v.ownBlock = some k) w w3 := H_f1.out.trans k3 (fun _ _ h => h.elim) (fun k hk h => by
    rcases h with rfl | rfl | h | h
    · exact .inl rfl
    · have := H_hb.out; omega
    · exact .inr h
    · simp [Value.ownBlock] at h)
  have own03 : ∀ k, v3.ownBlock = some k → v.ownBlock = some k ∨ w.heap.size ≤ k := fun k hk => by
    rcases ov k hk with h | h
    · exact .inl h
    · have := H_f1.out.size; exact .inr (by omega)
  clear k3 ov ou od r3
  have H_z3 := Lib.hid z3; clear z3
  have H_k03 := Lib.hid k03; clear k03
  have H_own03 := Lib.hid own03; clear own03
  go_wp2_with (fail)
  refine leaves_cons (f := 94) (args := #[.pointer (some ⟨b, 0, none⟩)]) (by simp) (by simp [go_sem]) ?_
  refine (putBint_idle _ _).mono ?_
  rintro e u' w'' ⟨rfl, rfl, rfl⟩
  refine ⟨.tuple #[], ?_, ?_⟩
  · simp [results, Tryz.results112]
  · exact ⟨rfl, v3, H_z3.out, H_k03.out, H_own03.out⟩

end Go.Proofs.YtmgidnjpkbgmgabGreatDoor

/- govalues.Decimal.quoBint. -/
namespace Go.Proofs.YtmgidnjpkbgmgabGreatDoor
open Go.RowKit

set_option maxRecDepth 20000 in
set_option maxHeartbeats 4000000 in
theorem quoBint_go (m1 m2 : Bool) (c1 s1 c2 s2 k : Nat) (w : World) (hG : Glob w) (hP : Pow10s w) (ms : Nat) (hs1 : s1 ≤ 19) (hs2 : s2 ≤ 19) (hc1 : c1 ≤ 9999999999999999999) (hc2 : c2 ≤ 9999999999999999999) (hc20 : 0 < c2) (hk : k = 41 + s2 - s1)
    (nz : Bool) (sz cz : Nat) (Pv : Value → Prop)
    (hnb : ∀ V v, Fresh w V → (∀ k, v.ownBlock = some k → w.heap.size + 5 ≤ k) → BI V (w.heap.size + 3) v (c1 * 10 ^ k / c2) → Calls Tryz.prog 98 #[.bool (m1 != m2), .pointer (some ⟨w.heap.size + 3, 0, none⟩), .int .i64 41, .int .i64 ms] V (NBOut V (w.heap.size + 3) v nz sz cz Pv)) :
    Calls Tryz.prog 87 #[gd m1 s1 c1, gd m2 s2 c2, .int .i64 ms] w (DOut w nz sz cz Pv) := by
  have hcw1 : c1 < wpow 39 := wpow_big (by omega)
  have hcw2 : c2 < wpow 3 := Nat.lt_of_le_of_lt hc2 (by unfold wpow; decide)
  have hbw : c1 * 10 ^ k < wpow 39 := by
    have h1 : 10 ^ k ≤ 10 ^ 60 := Nat.pow_le_pow_right (by omega) (by omega)
    have h2 : c1 * 10 ^ k ≤ 10 ^ 19 * 10 ^ 60 := Nat.mul_le_mul (Nat.le_trans hc1 (by decide)) h1
    rw [← Nat.pow_add] at h2
    exact Nat.lt_of_le_of_lt h2 (wpow_ten (by omega))
  obtain ⟨T, hT⟩ : ∃ T, T = 41 + s2 := ⟨_, rfl⟩
  have hTI : (41 : Int) + (s2 : Int) = (T : Int) := by omega
  have hTw : IntKind.i64.wrap (T : Int) = (T : Int) := wrap_nat T (by omega)
  have hkI : (T : Int) - (s1 : Int) = (k : Int) := by omega
  have hkw : IntKind.i64.wrap (k : Int) = (k : Int) := wrap_nat k (by omega)
  have hk60 : k ≤ 60 := by omega
  have hlsh := fun g v W (hG : Glob W) (hP : Pow10s W) => lsh_far g v c1 k W hG hP hcw1 hk60
  clear hk hT hk60
  obtain ⟨b, hb⟩ : ∃ b, b = c1 * 10 ^ k := ⟨_, rfl⟩
  rw [← hb] at hbw hnb hlsh
  obtain ⟨q, hq⟩ : ∃ q, q = b / c2 := ⟨_, rfl⟩
  rw [← hq] at hnb
  clear hb
  obtain ⟨g, hg⟩ : ∃ g, g = w.heap.size := ⟨_, rfl⟩
  have hsz0 : NG ≤ w.heap.size := hG.size
  have bx := boxes3 w #[.bool m1, .int .i8 s1, .int .u64 c1] #[.bool m2, .int .i8 s2, .int .u64 c2] #[.bool false, .int .i8 0, .int .u64 0] 60 60 60 g hg
  rw [← hg] at hnb
  have H_bx := Lib.hid bx; clear bx
  have H_hsz0 := Lib.hid hsz0; clear hsz0
  have H_hG := Lib.hid hG; clear hG
  have H_hP := Lib.hid hP; clear hP
  have H_hnb := Lib.hid hnb; clear hnb
  have H_hcw1 := Lib.hid hcw1; clear hcw1
  have H_hcw2 := Lib.hid hcw2; clear hcw2
  have H_hs1 := Lib.hid hs1; clear hs1
  have H_hs2 := Lib.hid hs2; clear hs2
  have H_hc1 := Lib.hid hc1; clear hc1
  have H_hc2 := Lib.hid hc2; clear hc2
  have H_hc20 := Lib.hid hc20; clear hc20
  have H_hbw := Lib.hid hbw; clear hbw
  have H_hlsh := Lib.hid hlsh; clear hlsh
  have H_hq := Lib.hid hq; clear hq
  go_enter_defers Tryz.func87, Tryz.ntmps87
  go_wp2_with (fail)
  generalize hw1 : ((w.alloc _).alloc _).alloc _ = w1
  rw [← hg]
  obtain ⟨r1, r2, r3, fa, _⟩ := H_bx.out w1 hw1
  have sz1 : w1.heap.size = g + 3 := by rw [← hw1, hg]; simp
  have hb1 := getBint_any w1 (by have := H_hsz0.out; omega)
  rw [sz1] at hb1
  have H_r1 := Lib.hid r1; clear r1
  have H_r2 := Lib.hid r2; clear r2
  have H_r3 := Lib.hid r3; clear r3
  have H_fa := Lib.hid fa; clear fa
  have H_hw1 := Lib.hid hw1; clear hw1
  have H_hg := Lib.hid hg; clear hg
  have H_hb1 := Lib.hid hb1; clear hb1
  have H_sz1 := Lib.hid sz1; clear sz1
  go_wp2_with (fail)
  refine H_hb1.out.mono ?_
  rintro e w2 ⟨rfl, z2, f2, sz2⟩
  have sz2' : w2.heap.size = g + 4 := by omega
  have hb2 := getBint_any w2 (by have := H_hsz0.out; have := H_hg.out; omega)
  rw [sz2'] at hb2
  have H_z2 := Lib.hid z2; clear z2
  have H_f2 := Lib.hid f2; clear f2
  have H_sz2 := Lib.hid sz2; clear sz2
  have H_sz2' := Lib.hid sz2'; clear sz2'
  have H_hb2 := Lib.hid hb2; clear hb2
  go_wp2_with (fail)
  refine H_hb2.out.mono ?_
  rintro e w3 ⟨rfl, y3, f3, sz3⟩
  have ff := fresh_trans H_f2.out f3
  have bs : BS w w3 g m1 m2 c1 s1 c2 s2 (.slice none 0 0) (.slice none 0 0) 0 0 := ⟨row_fresh H_r1.out ff, row_fresh H_r2.out ff, row_fresh H_r3.out ff, H_z2.out.fresh f3, y3, fun k h => by simp [Value.ownBlock] at h, fun k h => by simp [Value.ownBlock] at h, fun k h => by simp [Value.ownBlock] at h, fresh_trans H_fa.out ff, H_hg.out, by omega⟩
  clear H_r1 H_r2 H_r3 H_fa H_z2 H_f2 y3 f3 sz3 ff
  obtain ⟨k0, k1, k2, k3, k4, k5⟩ := bs.cells
  have H_bs := Lib.hid bs; clear bs
  go_wp2_with (fail)
  refine (setFint_any (g + 3) _ 0 c1 _ (by have := H_hc1.out; omega) H_bs.out.z).mono ?_
  rintro e w4 ⟨rfl, hbs⟩
  obtain ⟨x4, bs⟩ := H_bs.out.setP hbs
  clear H_bs hbs
  clear k0 k1 k2 k3 k4 k5
  obtain ⟨k0, k1, k2, k3, k4, k5⟩ := bs.cells
  have H_bs := Lib.hid bs; clear bs
  go_wp2_with (fail)
  refine (IsNeg_any m1 s1 c1 _).mono ?_
  rintro e w5 ⟨rfl, f9⟩
  have bs := H_bs.out.fresh f9
  clear H_bs f9
  clear k0 k1 k2 k3 k4 k5
  obtain ⟨k0, k1, k2, k3, k4, k5⟩ := bs.cells
  have H_bs := Lib.hid bs; clear bs
  go_wp2_with (fail)
  refine (setFint_any (g + 4) _ 0 c2 _ (by have := H_hc2.out; omega) H_bs.out.y).mono ?_
  rintro e w6 ⟨rfl, hbs⟩
  obtain ⟨x6, bs⟩ := H_bs.out.setQ hbs
  clear H_bs hbs
  clear k0 k1 k2 k3 k4 k5
  obtain ⟨k0, k1, k2, k3, k4, k5⟩ := bs.cells
  have H_bs := Lib.hid bs; clear bs
  go_wp2_with (fail)
  go_region_held3 (fun (w' : World) => w'.cell? ⟨g, 0, none⟩ = some (.bool m1) ∧ w'.cell? ⟨g, 1, none⟩ = some (.int .i8 s1) ∧ w'.cell? ⟨g, 2, none⟩ = some (.int .u64 c1) ∧ w'.cell? ⟨g + 1, 0, none⟩ = some (.bool m2) ∧ w'.cell? ⟨g + 1, 1, none⟩ = some (.int .i8 s2) ∧ w'.cell? ⟨g + 1, 2, none⟩ = some (.int .u64 c2)) (first | exact ⟨k0, k1, k2, k3, k4, k5⟩ | exact ⟨ka0, ka1, ka2, ka3, ka4, ka5⟩ | exact ⟨kb0, kb1, kb2, kb3, kb4, kb5⟩ | exact ⟨kc0, kc1, kc2, kc3, kc4, kc5⟩) (first
    | (go_at_call 67; (with_reducible refine (Scale_any m2 s2 c2 _ H_hs2.out).mono ?_); rintro e y1 ⟨rfl, r⟩; have hy : Fresh w6 y1 := (by first | exact r | exact r.of_drew | exact r.of_drewN); have bs1 := H_bs.out.fresh hy; obtain ⟨ka0, ka1, ka2, ka3, ka4, ka5⟩ := bs1.cells; have H_bs1 := Lib.hid bs1; clear bs1 hy r)
    | (go_at_call 67; (with_reducible refine (Scale_any m1 s1 c1 _ H_hs1.out).mono ?_); rintro e y2 ⟨rfl, r⟩; have bs2 := H_bs1.out.fresh r; obtain ⟨kb0, kb1, kb2, kb3, kb4, kb5⟩ := bs2.cells; have H_bs2 := Lib.hid bs2; clear bs2 r)
    | (go_at_call 96; (with_reducible refine (H_hlsh.out (g + 3) _ _ (H_hG.out.fresh H_bs2.out.f) (H_hP.out.fresh H_bs2.out.f) H_bs2.out.z).mono ?_); rintro e y3 ⟨rfl, hbs⟩; obtain ⟨x9, bs3⟩ := H_bs2.out.setP hbs; obtain ⟨kc0, kc1, kc2, kc3, kc4, kc5⟩ := bs3.cells; have H_bs3 := Lib.hid bs3; clear bs3 hbs))
  clear H_bs H_bs1 H_bs2 k0 k1 k2 k3 k4 k5
  have bs := H_bs3.out
  clear H_bs3
  try clear ka0 ka1 ka2 ka3 ka4 ka5
  try clear kb0 kb1 kb2 kb3 kb4 kb5
  try clear kc0 kc1 kc2 kc3 kc4 kc5
  obtain ⟨k0, k1, k2, k3, k4, k5⟩ := bs.cells
  have H_bs := Lib.hid bs; clear bs
  go_wp2_with (fail)
  refine (bquo_self (g + 3) (g + 4) b c2 _ _ _ (H_hG.out.fresh H_bs.out.f) H_hbw.out H_hc20.out H_hcw2.out (by omega) H_bs.out.z H_bs.out.y).mono ?_
  rintro e w10 ⟨rfl, hbs⟩
  obtain ⟨x10, bs⟩ := H_bs.out.setP hbs
  clear H_bs hbs
  clear k0 k1 k2 k3 k4 k5
  obtain ⟨k0, k1, k2, k3, k4, k5⟩ := bs.cells
  have H_bs := Lib.hid bs; clear bs
  rw [← H_hq.out] at H_bs
  go_wp2_with (fail)
  refine (IsNeg_any m2 s2 c2 _).mono ?_
  rintro e w11 ⟨rfl, f9⟩
  have bs := H_bs.out.fresh f9
  clear H_bs f9
  clear k0 k1 k2 k3 k4 k5
  obtain ⟨k0, k1, k2, k3, k4, k5⟩ := bs.cells
  have H_bs := Lib.hid bs; clear bs
  go_wp2_with (fail)
  refine (H_hnb.out _ _ H_bs.out.f (fun k h => H_bs.out.ov k h) H_bs.out.z).mono ?_
  rintro e w12 ⟨ev, rfl, hev, k9⟩
  have r3 := row_keep H_bs.out.r3 k9 (fun hh => hh.elim (fun h => by omega) (fun h => by have := H_bs.out.ov _ h; omega))
  have fa : Fresh w w12 := H_bs.out.f.trans k9 (fun _ _ h => h) (fun k hk hh => by
    have := H_bs.out.hg
    rcases hh with rfl | hh
    · omega
    · have := H_bs.out.ov k hh; omega)
  have p0 := row_cell r3 0
  have p1 := row_cell r3 1
  have p2 := row_cell r3 2
  simp at p0 p1 p2
  have z0 : w12.frozen? ⟨g + 1 + 1, 0, none⟩ = false := frozen_of_row _ _ _ _ _ r3
  have z1 : w12.frozen? ⟨g + 1 + 1, 1, none⟩ = false := frozen_of_row _ _ _ _ _ r3
  have z2 : w12.frozen? ⟨g + 1 + 1, 2, none⟩ = false := frozen_of_row _ _ _ _ _ r3
  clear k9 k0 k1 k2 k3 k4 k5
  have H_r3 := Lib.hid r3; clear r3
  have H_fa := Lib.hid fa; clear fa
  have H_hev := Lib.hid hev; clear hev
  go_wp2_with (fail)
  refine leaves_cons (f := 94) (args := #[.pointer (some ⟨g + 4, 0, none⟩)]) (by simp) (by simp [go_sem]) ?_
  refine (putBint_idle _ _).mono ?_
  rintro e u' w'' ⟨rfl, rfl, rfl⟩
  refine leaves_cons (f := 94) (args := #[.pointer (some ⟨g + 3, 0, none⟩)]) (by first | (intro h; cases h; done) | simp [settle]) (by simp [go_sem]) ?_
  refine (putBint_idle _ _).mono ?_
  rintro e u2 wf ⟨rfl, rfl, rfl⟩
  refine ⟨_, results_cell_tmp_row rfl _ _ (g + 1 + 1) 60 #[.bool nz, .int .i8 sz, .int .u64 cz] (0, 0) _ rfl (row_set (row_set (row_set H_r3.out))) Tryz.underlying60 rfl (by kernel_rfl), ?_⟩
  exact ⟨ev, rfl, H_hev.out, Fresh.set3 H_fa.out (by have := H_hg.out; omega)⟩

end Go.Proofs.YtmgidnjpkbgmgabGreatDoor
