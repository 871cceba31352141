/- Inside addMulBint: what lies where. -/
import Derived.Test.YtjjolcjeiogdmabGreatDoorK3
import Derived.Test.YtjjolcjeiogdmabGreatDoorK9
import Derived.Test.YtjjolcjeiogdmabGreatDoorK10
import Derived.Test.YtjjolcjeiogdmabGreatDoorK11
import Derived.Test.YtjjolcjeiogdmabGreatDoorK12
import Derived.Test.YtjjolcjeiogdmabGreatDoorK28
import Derived.Test.YtjjolcjeiogdmabGreatDoorK33
import Derived.Test.YtjjolcjeiogdmabGreatDoorK35
namespace Go.Proofs.YtjjolcjeiogdmabGreatDoor
open Go.RowKit

/-- the three decimals, the result's place, the three whole numbers -/
structure BT (w V : World) (g : Nat) (m1 m2 m3 : Bool) (c1 s1 c2 s2 c3 s3 : Nat) (v u t : Value) (a e x0 : Nat) : Prop where
  r1 : V.heap[g]? = some (.cells #[.bool m1, .int .i8 s1, .int .u64 c1] 40 (0, 0))
  r2 : V.heap[g + 1]? = some (.cells #[.bool m2, .int .i8 s2, .int .u64 c2] 40 (0, 0))
  r3 : V.heap[g + 1 + 1]? = some (.cells #[.bool m3, .int .i8 s3, .int .u64 c3] 40 (0, 0))
  r4 : V.heap[g + 1 + 1 + 1]? = some (.cells #[.bool false, .int .i8 0, .int .u64 0] 40 (0, 0))
  z : BI V (g + 4) v a
  y : BI V (g + 5) u e
  x : BI V (g + 6) t x0
  ov : ∀ k, v.ownBlock = some k → g + 7 ≤ k
  ou : ∀ k, u.ownBlock = some k → g + 7 ≤ k
  ot : ∀ k, t.ownBlock = some k → g + 7 ≤ k
  od : ∀ k, v.ownBlock = some k → u.ownBlock ≠ some k
  oe : ∀ k, v.ownBlock = some k → t.ownBlock ≠ some k
  oq : ∀ k, u.ownBlock = some k → t.ownBlock ≠ some k
  f : Fresh w V
  hg : g = w.heap.size
  hs : g + 7 ≤ V.heap.size

section
variable {w V V' : World} {g : Nat} {m1 m2 m3 : Bool} {c1 s1 c2 s2 c3 s3 : Nat} {v u t : Value} {a e x0 m : Nat}

theorem BT.cells (h : BT w V g m1 m2 m3 c1 s1 c2 s2 c3 s3 v u t a e x0) : V.cell? ⟨g, 0, none⟩ = some (.bool m1) ∧ V.cell? ⟨g, 1, none⟩ = some (.int .i8 s1) ∧ V.cell? ⟨g, 2, none⟩ = some (.int .u64 c1) ∧
    V.cell? ⟨g + 1, 0, none⟩ = some (.bool m2) ∧ V.cell? ⟨g + 1, 1, none⟩ = some (.int .i8 s2) ∧ V.cell? ⟨g + 1, 2, none⟩ = some (.int .u64 c2) ∧
    V.cell? ⟨g + 1 + 1, 0, none⟩ = some (.bool m3) ∧ V.cell? ⟨g + 1 + 1, 1, none⟩ = some (.int .i8 s3) ∧ V.cell? ⟨g + 1 + 1, 2, none⟩ = some (.int .u64 c3) :=
  ⟨row_cell h.r1 0, row_cell h.r1 1, row_cell h.r1 2, row_cell h.r2 0, row_cell h.r2 1, row_cell h.r2 2, row_cell h.r3 0, row_cell h.r3 1, row_cell h.r3 2⟩

theorem BT.fresh (h : BT w V g m1 m2 m3 c1 s1 c2 s2 c3 s3 v u t a e x0) (hf : Fresh V V') : BT w V' g m1 m2 m3 c1 s1 c2 s2 c3 s3 v u t a e x0 :=
  ⟨row_fresh h.r1 hf, row_fresh h.r2 hf, row_fresh h.r3 hf, row_fresh h.r4 hf, h.z.fresh hf, h.y.fresh hf, h.x.fresh hf, h.ov, h.ou, h.ot, h.od, h.oe, h.oq, fresh_trans h.f hf, h.hg, Nat.le_trans h.hs hf.size⟩

theorem BT.drewN (h : BT w V g m1 m2 m3 c1 s1 c2 s2 c3 s3 v u t a e x0) (n : Nat) : BT w (V.drewN n) g m1 m2 m3 c1 s1 c2 s2 c3 s3 v u t a e x0 := h.fresh (fresh_drewN _ _)

theorem BT.setP (h : BT w V g m1 m2 m3 c1 s1 c2 s2 c3 s3 v u t a e x0) (hb : BSet V (g + 4) v m V') : ∃ v', BT w V' g m1 m2 m3 c1 s1 c2 s2 c3 s3 v' u t m e x0 := by
  obtain ⟨v', h1, h2, h3⟩ := hb
  have no : ∀ k, k ≤ g + 3 → ¬ (k = g + 4 ∨ v.ownBlock = some k) := fun k hk hh => by
    rcases hh with hh | hh
    · omega
    · have := h.ov k hh; omega
  have own : ∀ k, v'.ownBlock = some k → g + 7 ≤ k := fun k hk => by
    rcases h3 k hk with hh | hh
    · exact h.ov k hh
    · have := h.hs; omega
  have kpy : ∀ k, u.ownBlock = some k → ¬ (k = g + 4 ∨ v.ownBlock = some k) := fun k hk hh => by
    rcases hh with hh | hh
    · have := h.ou k hk; omega
    · exact h.od k hh hk
  have kgy : ¬ (g + 5 = g + 4 ∨ v.ownBlock = some (g + 5)) := fun hh => by
    rcases hh with hh | hh
    · omega
    · have := h.ov _ hh; omega
  have apy : ∀ k, v'.ownBlock = some k → u.ownBlock ≠ some k := fun k hk hh => by
    rcases h3 k hk with h' | h'
    · exact kpy k hh (.inr h')
    · have := h.y.own_lt hh; omega
  have kpx : ∀ k, t.ownBlock = some k → ¬ (k = g + 4 ∨ v.ownBlock = some k) := fun k hk hh => by
    rcases hh with hh | hh
    · have := h.ot k hk; omega
    · exact h.oe k hh hk
  have kgx : ¬ (g + 6 = g + 4 ∨ v.ownBlock = some (g + 6)) := fun hh => by
    rcases hh with hh | hh
    · omega
    · have := h.ov _ hh; omega
  have apx : ∀ k, v'.ownBlock = some k → t.ownBlock ≠ some k := fun k hk hh => by
    rcases h3 k hk with h' | h'
    · exact kpx k hh (.inr h')
    · have := h.x.own_lt hh; omega
  refine ⟨v', row_keep h.r1 h2 (no _ (by omega)), row_keep h.r2 h2 (no _ (by omega)), row_keep h.r3 h2 (no _ (by omega)), row_keep h.r4 h2 (no _ (by omega)), h1, h.y.keep h2 kgy kpy, h.x.keep h2 kgx kpx, own, h.ou, h.ot, apy, apx, h.oq, h.f.trans h2 (fun _ _ h => h) ?_, h.hg, Nat.le_trans h.hs h2.size⟩
  intro k hk hh
  have := h.hg
  rcases hh with rfl | hh
  · omega
  · have := h.ov k hh; omega

theorem BT.setQ (h : BT w V g m1 m2 m3 c1 s1 c2 s2 c3 s3 v u t a e x0) (hb : BSet V (g + 5) u m V') : ∃ u', BT w V' g m1 m2 m3 c1 s1 c2 s2 c3 s3 v u' t a m x0 := by
  obtain ⟨u', h1, h2, h3⟩ := hb
  have no : ∀ k, k ≤ g + 3 → ¬ (k = g + 5 ∨ u.ownBlock = some k) := fun k hk hh => by
    rcases hh with hh | hh
    · omega
    · have := h.ou k hh; omega
  have own : ∀ k, u'.ownBlock = some k → g + 7 ≤ k := fun k hk => by
    rcases h3 k hk with hh | hh
    · exact h.ou k hh
    · have := h.hs; omega
  have kpz : ∀ k, v.ownBlock = some k → ¬ (k = g + 5 ∨ u.ownBlock = some k) := fun k hk hh => by
    rcases hh with hh | hh
    · have := h.ov k hk; omega
    · exact h.od k hk hh
  have kgz : ¬ (g + 4 = g + 5 ∨ u.ownBlock = some (g + 4)) := fun hh => by
    rcases hh with hh | hh
    · omega
    · have := h.ou _ hh; omega
  have apz : ∀ k, u'.ownBlock = some k → v.ownBlock ≠ some k := fun k hk hh => by
    rcases h3 k hk with h' | h'
    · exact kpz k hh (.inr h')
    · have := h.z.own_lt hh; omega
  have kpx : ∀ k, t.ownBlock = some k → ¬ (k = g + 5 ∨ u.ownBlock = some k) := fun k hk hh => by
    rcases hh with hh | hh
    · have := h.ot k hk; omega
    · exact h.oq k hh hk
  have kgx : ¬ (g + 6 = g + 5 ∨ u.ownBlock = some (g + 6)) := fun hh => by
    rcases hh with hh | hh
    · omega
    · have := h.ou _ hh; omega
  have apx : ∀ k, u'.ownBlock = some k → t.ownBlock ≠ some k := fun k hk hh => by
    rcases h3 k hk with h' | h'
    · exact kpx k hh (.inr h')
    · have := h.x.own_lt hh; omega
  refine ⟨u', row_keep h.r1 h2 (no _ (by omega)), row_keep h.r2 h2 (no _ (by omega)), row_keep h.r3 h2 (no _ (by omega)), row_keep h.r4 h2 (no _ (by omega)), h.z.keep h2 kgz kpz, h1, h.x.keep h2 kgx kpx, h.ov, own, h.ot, fun k hk hh => apz k hh hk, h.oe, apx, h.f.trans h2 (fun _ _ h => h) ?_, h.hg, Nat.le_trans h.hs h2.size⟩
  intro k hk hh
  have := h.hg
  rcases hh with rfl | hh
  · omega
  · have := h.ou k hh; omega

end

theorem lsh_far (g : Nat) (v : Value) (n s : Nat) (w : World) (hG : Glob w) (hP : Pow10s w) (hn : n < wpow 39) (hs : s ≤ 60) (hz : BI w g v n) :
    Calls Tryz.prog 61 #[.pointer (some ⟨g, 0, none⟩), .pointer (some ⟨g, 0, none⟩), .int .i64 s] w (fun e w' => e = .returned (.tuple #[]) ∧ BSet w g v (n * 10 ^ s) w') := by
  have t1 : decide ((s : Int) < 100) = true := by simp; omega
  have hxl : 10 ^ s < wpow 39 := wpow_ten (by omega)
  have H_hG := Lib.hid hG; clear hG
  have H_hP := Lib.hid hP; clear hP
  have H_hz := Lib.hid hz; clear hz
  have H_hxl := Lib.hid hxl; clear hxl
  go_enter_defers Tryz.func61, Tryz.ntmps61
  go_wp2_with (fail)
  refine (bpow10_all s _ H_hG.out H_hP.out (by omega)).mono ?_
  rintro e w1 ⟨h, u, rfl, b1, l1, o1, f1⟩
  have z1 := H_hz.out.fresh f1
  have hG1 := H_hG.out.fresh f1
  have hne : g ≠ h := by have := H_hz.out.lt; omega
  have sp : Sep v u := .inr (fun k hk e => by have := H_hz.out.own_lt hk; have := o1 k e; omega)
  have H_b1 := Lib.hid b1; clear b1
  have H_l1 := Lib.hid l1; clear l1
  have H_o1 := Lib.hid o1; clear o1
  have H_f1 := Lib.hid f1; clear f1
  have H_z1 := Lib.hid z1; clear z1
  have H_hG1 := Lib.hid hG1; clear hG1
  have H_sp := Lib.hid sp; clear sp
  go_wp2_with (fail)
  refine (mul_self g h v u n (10 ^ s) _ H_hG1.out hn H_hxl.out hne H_z1.out H_b1.out H_sp.out).mono ?_
  rintro e w2 ⟨rfl, v2, b2, k2, o2⟩
  have k20 : Keep (fun k => k = g ∨ v.ownBlock = some k) w w2 := H_f1.out.trans k2 (fun _ _ h => h.elim) (fun _ _ h => h)
  have o20 : ∀ k, v2.ownBlock = some k → v.ownBlock = some k ∨ w.heap.size ≤ k := fun k hk => by
    rcases o2 k hk with h | h
    · exact .inl h
    · exact .inr (Nat.le_trans H_f1.out.size h)
  clear k2 o2
  have H_b2 := Lib.hid b2; clear b2
  have H_k20 := Lib.hid k20; clear k20
  have H_o20 := Lib.hid o20; clear o20
  go_wp2_with (fail)
  refine ⟨.tuple #[], ?_, ?_⟩
  · simp [results, Tryz.results61]
  · exact ⟨rfl, v2, H_b2.out, H_k20.out, H_o20.out⟩

end Go.Proofs.YtjjolcjeiogdmabGreatDoor

/- govalues: bint.quo in place, by a number of up to three words. -/
namespace Go.Proofs.YtjjolcjeiogdmabGreatDoor
open Go.RowKit

set_option maxRecDepth 20000 in
set_option maxHeartbeats 2000000 in
theorem bquo_self (g h n y : Nat) (v u : Value) (w : World) (hG : Glob w) (hn : n < wpow 39) (hy0 : 0 < y) (hyb : y < wpow 3) (_hne : g ≠ h) (hz : BI w g v n) (hy : BI w h u y) :
    Calls Tryz.prog 62 #[.pointer (some ⟨g, 0, none⟩), .pointer (some ⟨g, 0, none⟩), .pointer (some ⟨h, 0, none⟩)] w (fun e w' => e = .returned (.tuple #[]) ∧ BSet w g v (n / y) w') := by
  have hgb := getBint_any w hG.size
  obtain ⟨b, hb⟩ : ∃ b, b = w.heap.size := ⟨_, rfl⟩
  rw [← hb] at hgb
  have hgb0 : g ≠ b := by have := hz.lt; omega
  have hqr := fun W (hW : Fresh w W) (hz : BI W g v n) (hy : BI W h u y) (hr : BI W b (.slice none 0 0) 0) =>
    bquoRem_all g g h b v v u (.slice none 0 0) n n y 0 W (hG.fresh hW) hn hy0 hyb hgb0 hz hz hy hr (.inl rfl) (fun k _ hk => by simp [Value.ownBlock] at hk) (fun k hk => by simp [Value.ownBlock] at hk) (fun k hk => by simp [Value.ownBlock] at hk)
  clear hG hn hy0 hyb _hne
  generalize n / y = q at *
  generalize n % y = r at *
  have H_hz := Lib.hid hz; clear hz
  have H_hy := Lib.hid hy; clear hy
  have H_hgb := Lib.hid hgb; clear hgb
  have H_hb := Lib.hid hb; clear hb
  have H_hgb0 := Lib.hid hgb0; clear hgb0
  have H_hqr := Lib.hid hqr; clear hqr
  go_enter_defers Tryz.func62, Tryz.ntmps62
  go_wp2_with (fail)
  refine H_hgb.out.mono ?_
  rintro e w1 ⟨rfl, b1, f1, s1⟩
  have hq := H_hqr.out w1 f1 (H_hz.out.fresh f1) (H_hy.out.fresh f1) b1
  have H_b1 := Lib.hid b1; clear b1
  have H_f1 := Lib.hid f1; clear f1
  have H_s1 := Lib.hid s1; clear s1
  have H_hq := Lib.hid hq; clear hq
  go_wp2_with (fail)
  refine H_hq.out.mono ?_
  rintro e w3 ⟨rfl, v3, u3, z3, r3, k3, ov, ou, od⟩
  have k03 : Keep (fun k => k = g ∨ v.ownBlock = some k) w w3 := H_f1.out.trans k3 (fun _ _ h => h.elim) (fun k hk h => by
    rcases h with rfl | rfl | h | h
    · exact .inl rfl
    · have := H_hb.out; omega
    · exact .inr h
    · simp [Value.ownBlock] at h)
  have own03 : ∀ k, v3.ownBlock = some k → v.ownBlock = some k ∨ w.heap.size ≤ k := fun k hk => by
    rcases ov k hk with h | h
    · exact .inl h
    · have := H_f1.out.size; exact .inr (by omega)
  clear k3 ov ou od r3
  have H_z3 := Lib.hid z3; clear z3
  have H_k03 := Lib.hid k03; clear k03
  have H_own03 := Lib.hid own03; clear own03
  go_wp2_with (fail)
  refine leaves_cons (f := 59) (args := #[.pointer (some ⟨b, 0, none⟩)]) (by simp) (by simp [go_sem]) ?_
  refine (putBint_idle _ _).mono ?_
  rintro e u' w'' ⟨rfl, rfl, rfl⟩
  refine ⟨.tuple #[], ?_, ?_⟩
  · simp [results, Tryz.results62]
  · exact ⟨rfl, v3, H_z3.out, H_k03.out, H_own03.out⟩

end Go.Proofs.YtjjolcjeiogdmabGreatDoor

/- govalues.Decimal.quoBint. -/
namespace Go.Proofs.YtjjolcjeiogdmabGreatDoor
open Go.RowKit

set_option maxRecDepth 20000 in
set_option maxHeartbeats 4000000 in
theorem quoBint_go (m1 m2 : Bool) (c1 s1 c2 s2 k : Nat) (w : World) (hG : Glob w) (hP : Pow10s w) (ms : Nat) (hs1 : s1 ≤ 19) (hs2 : s2 ≤ 19) (hc1 : c1 ≤ 9999999999999999999) (hc2 : c2 ≤ 9999999999999999999) (hc20 : 0 < c2) (hk : k = 41 + s2 - s1)
    (nz : Bool) (sz cz : Nat) (Pv : Value → Prop)
    (hnb : ∀ V v, Fresh w V → (∀ k, v.ownBlock = some k → w.heap.size + 5 ≤ k) → BI V (w.heap.size + 3) v (c1 * 10 ^ k / c2) → Calls Tryz.prog 63 #[.bool (m1 != m2), .pointer (some ⟨w.heap.size + 3, 0, none⟩), .int .i64 41, .int .i64 ms] V (NBOut V (w.heap.size + 3) v nz sz cz Pv)) :
    Calls Tryz.prog 47 #[gd m1 s1 c1, gd m2 s2 c2, .int .i64 ms] w (DOut w nz sz cz Pv) := by
  have hcw1 : c1 < wpow 39 := wpow_big (by omega)
  have hcw2 : c2 < wpow 3 := Nat.lt_of_le_of_lt hc2 (by unfold wpow; decide)
  have hbw : c1 * 10 ^ k < wpow 39 := by
    have h1 : 10 ^ k ≤ 10 ^ 60 := Nat.pow_le_pow_right (by omega) (by omega)
    have h2 : c1 * 10 ^ k ≤ 10 ^ 19 * 10 ^ 60 := Nat.mul_le_mul (Nat.le_trans hc1 (by decide)) h1
    rw [← Nat.pow_add] at h2
    exact Nat.lt_of_le_of_lt h2 (wpow_ten (by omega))
  obtain ⟨T, hT⟩ : ∃ T, T = 41 + s2 := ⟨_, rfl⟩
  have hTI : (41 : Int) + (s2 : Int) = (T : Int) := by omega
  have hTw : IntKind.i64.wrap (T : Int) = (T : Int) := wrap_nat T (by omega)
  have hkI : (T : Int) - (s1 : Int) = (k : Int) := by omega
  have hkw : IntKind.i64.wrap (k : Int) = (k : Int) := wrap_nat k (by omega)
  have hk60 : k ≤ 60 := by omega
  have hlsh := fun g v W (hG : Glob W) (hP : Pow10s W) => lsh_far g v c1 k W hG hP hcw1 hk60
  clear hk hT hk60
  obtain ⟨b, hb⟩ : ∃ b, b = c1 * 10 ^ k := ⟨_, rfl⟩
  rw [← hb] at hbw hnb hlsh
  obtain ⟨q, hq⟩ : ∃ q, q = b / c2 := ⟨_, rfl⟩
  rw [← hq] at hnb
  clear hb
  obtain ⟨g, hg⟩ : ∃ g, g = w.heap.size := ⟨_, rfl⟩
  have hsz0 : NG ≤ w.heap.size := hG.size
  have bx := boxes3 w #[.bool m1, .int .i8 s1, .int .u64 c1] #[.bool m2, .int .i8 s2, .int .u64 c2] #[.bool false, .int .i8 0, .int .u64 0] 40 40 40 g hg
  rw [← hg] at hnb
  have H_bx := Lib.hid bx; clear bx
  have H_hsz0 := Lib.hid hsz0; clear hsz0
  have H_hG := Lib.hid hG; clear hG
  have H_hP := Lib.hid hP; clear hP
  have H_hnb := Lib.hid hnb; clear hnb
  have H_hcw1 := Lib.hid hcw1; clear hcw1
  have H_hcw2 := Lib.hid hcw2; clear hcw2
  have H_hs1 := Lib.hid hs1; clear hs1
  have H_hs2 := Lib.hid hs2; clear hs2
  have H_hc1 := Lib.hid hc1; clear hc1
  have H_hc2 := Lib.hid hc2; clear hc2
  have H_hc20 := Lib.hid hc20; clear hc20
  have H_hbw := Lib.hid hbw; clear hbw
  have H_hlsh := Lib.hid hlsh; clear hlsh
  have H_hq := Lib.hid hq; clear hq
  go_enter_defers Tryz.func47, Tryz.ntmps47
  go_wp2_with (fail)
  generalize hw1 : ((w.alloc _).alloc _).alloc _ = w1
  rw [← hg]
  obtain ⟨r1, r2, r3, fa, _⟩ := H_bx.out w1 hw1
  have sz1 : w1.heap.size = g + 3 := by rw [← hw1, hg]; simp
  have hb1 := getBint_any w1 (by have := H_hsz0.out; omega)
  rw [sz1] at hb1
  have H_r1 := Lib.hid r1; clear r1
  have H_r2 := Lib.hid r2; clear r2
  have H_r3 := Lib.hid r3; clear r3
  have H_fa := Lib.hid fa; clear fa
  have H_hw1 := Lib.hid hw1; clear hw1
  have H_hg := Lib.hid hg; clear hg
  have H_hb1 := Lib.hid hb1; clear hb1
  have H_sz1 := Lib.hid sz1; clear sz1
  go_wp2_with (fail)
  refine H_hb1.out.mono ?_
  rintro e w2 ⟨rfl, z2, f2, sz2⟩
  have sz2' : w2.heap.size = g + 4 := by omega
  have hb2 := getBint_any w2 (by have := H_hsz0.out; have := H_hg.out; omega)
  rw [sz2'] at hb2
  have H_z2 := Lib.hid z2; clear z2
  have H_f2 := Lib.hid f2; clear f2
  have H_sz2 := Lib.hid sz2; clear sz2
  have H_sz2' := Lib.hid sz2'; clear sz2'
  have H_hb2 := Lib.hid hb2; clear hb2
  go_wp2_with (fail)
  refine H_hb2.out.mono ?_
  rintro e w3 ⟨rfl, y3, f3, sz3⟩
  have ff := fresh_trans H_f2.out f3
  have bs : BS w w3 g m1 m2 c1 s1 c2 s2 (.slice none 0 0) (.slice none 0 0) 0 0 := ⟨row_fresh H_r1.out ff, row_fresh H_r2.out ff, row_fresh H_r3.out ff, H_z2.out.fresh f3, y3, fun k h => by simp [Value.ownBlock] at h, fun k h => by simp [Value.ownBlock] at h, fun k h => by simp [Value.ownBlock] at h, fresh_trans H_fa.out ff, H_hg.out, by omega⟩
  clear H_r1 H_r2 H_r3 H_fa H_z2 H_f2 y3 f3 sz3 ff
  obtain ⟨k0, k1, k2, k3, k4, k5⟩ := bs.cells
  have H_bs := Lib.hid bs; clear bs
  go_wp2_with (fail)
  refine (setFint_any (g + 3) _ 0 c1 _ (by have := H_hc1.out; omega) H_bs.out.z).mono ?_
  rintro e w4 ⟨rfl, hbs⟩
  obtain ⟨x4, bs⟩ := H_bs.out.setP hbs
  clear H_bs hbs
  clear k0 k1 k2 k3 k4 k5
  obtain ⟨k0, k1, k2, k3, k4, k5⟩ := bs.cells
  have H_bs := Lib.hid bs; clear bs
  go_wp2_with (fail)
  refine (IsNeg_any m1 s1 c1 _).mono ?_
  rintro e w5 ⟨rfl, f9⟩
  have bs := H_bs.out.fresh f9
  clear H_bs f9
  clear k0 k1 k2 k3 k4 k5
  obtain ⟨k0, k1, k2, k3, k4, k5⟩ := bs.cells
  have H_bs := Lib.hid bs; clear bs
  go_wp2_with (fail)
  refine (setFint_any (g + 4) _ 0 c2 _ (by have := H_hc2.out; omega) H_bs.out.y).mono ?_
  rintro e w6 ⟨rfl, hbs⟩
  obtain ⟨x6, bs⟩ := H_bs.out.setQ hbs
  clear H_bs hbs
  clear k0 k1 k2 k3 k4 k5
  obtain ⟨k0, k1, k2, k3, k4, k5⟩ := bs.cells
  have H_bs := Lib.hid bs; clear bs
  go_wp2_with (fail)
  go_region_held3 (fun (w' : World) => w'.cell? ⟨g, 0, none⟩ = some (.bool m1) ∧ w'.cell? ⟨g, 1, none⟩ = some (.int .i8 s1) ∧ w'.cell? ⟨g, 2, none⟩ = some (.int .u64 c1) ∧ w'.cell? ⟨g + 1, 0, none⟩ = some (.bool m2) ∧ w'.cell? ⟨g + 1, 1, none⟩ = some (.int .i8 s2) ∧ w'.cell? ⟨g + 1, 2, none⟩ = some (.int .u64 c2)) (first | exact ⟨k0, k1, k2, k3, k4, k5⟩ | exact ⟨ka0, ka1, ka2, ka3, ka4, ka5⟩ | exact ⟨kb0, kb1, kb2, kb3, kb4, kb5⟩ | exact ⟨kc0, kc1, kc2, kc3, kc4, kc5⟩) (first
    | (go_at_call 24; (with_reducible refine (Scale_any m2 s2 c2 _ H_hs2.out).mono ?_); rintro e y1 ⟨rfl, r⟩; have hy : Fresh w6 y1 := (by first | exact r | exact r.of_drew | exact r.of_drewN); have bs1 := H_bs.out.fresh hy; obtain ⟨ka0, ka1, ka2, ka3, ka4, ka5⟩ := bs1.cells; have H_bs1 := Lib.hid bs1; clear bs1 hy r)
    | (go_at_call 24; (with_reducible refine (Scale_any m1 s1 c1 _ H_hs1.out).mono ?_); rintro e y2 ⟨rfl, r⟩; have bs2 := H_bs1.out.fresh r; obtain ⟨kb0, kb1, kb2, kb3, kb4, kb5⟩ := bs2.cells; have H_bs2 := Lib.hid bs2; clear bs2 r)
    | (go_at_call 61; (with_reducible refine (H_hlsh.out (g + 3) _ _ (H_hG.out.fresh H_bs2.out.f) (H_hP.out.fresh H_bs2.out.f) H_bs2.out.z).mono ?_); rintro e y3 ⟨rfl, hbs⟩; obtain ⟨x9, bs3⟩ := H_bs2.out.setP hbs; obtain ⟨kc0, kc1, kc2, kc3, kc4, kc5⟩ := bs3.cells; have H_bs3 := Lib.hid bs3; clear bs3 hbs))
  clear H_bs H_bs1 H_bs2 k0 k1 k2 k3 k4 k5
  have bs := H_bs3.out
  clear H_bs3
  try clear ka0 ka1 ka2 ka3 ka4 ka5
  try clear kb0 kb1 kb2 kb3 kb4 kb5
  try clear kc0 kc1 kc2 kc3 kc4 kc5
  obtain ⟨k0, k1, k2, k3, k4, k5⟩ := bs.cells
  have H_bs := Lib.hid bs; clear bs
  go_wp2_with (fail)
  refine (bquo_self (g + 3) (g + 4) b c2 _ _ _ (H_hG.out.fresh H_bs.out.f) H_hbw.out H_hc20.out H_hcw2.out (by omega) H_bs.out.z H_bs.out.y).mono ?_
  rintro e w10 ⟨rfl, hbs⟩
  obtain ⟨x10, bs⟩ := H_bs.out.setP hbs
  clear H_bs hbs
  clear k0 k1 k2 k3 k4 k5
  obtain ⟨k0, k1, k2, k3, k4, k5⟩ := bs.cells
  have H_bs := Lib.hid bs; clear bs
  rw [← H_hq.out] at H_bs
  go_wp2_with (fail)
  refine (IsNeg_any m2 s2 c2 _).mono ?_
  rintro e w11 ⟨rfl, f9⟩
  have bs := H_bs.out.fresh f9
  clear H_bs f9
  clear k0 k1 k2 k3 k4 k5
  obtain ⟨k0, k1, k2, k3, k4, k5⟩ := bs.cells
  have H_bs := Lib.hid bs; clear bs
  go_wp2_with (fail)
  refine (H_hnb.out _ _ H_bs.out.f (fun k h => H_bs.out.ov k h) H_bs.out.z).mono ?_
  rintro e w12 ⟨ev, rfl, hev, k9⟩
  have r3 := row_keep H_bs.out.r3 k9 (fun hh => hh.elim (fun h => by omega) (fun h => by have := H_bs.out.ov _ h; omega))
  have fa : Fresh w w12 := H_bs.out.f.trans k9 (fun _ _ h => h) (fun k hk hh => by
    have := H_bs.out.hg
    rcases hh with rfl | hh
    · omega
    · have := H_bs.out.ov k hh; omega)
  have p0 := row_cell r3 0
  have p1 := row_cell r3 1
  have p2 := row_cell r3 2
  simp at p0 p1 p2
  have z0 : w12.frozen? ⟨g + 1 + 1, 0, none⟩ = false := frozen_of_row _ _ _ _ _ r3
  have z1 : w12.frozen? ⟨g + 1 + 1, 1, none⟩ = false := frozen_of_row _ _ _ _ _ r3
  have z2 : w12.frozen? ⟨g + 1 + 1, 2, none⟩ = false := frozen_of_row _ _ _ _ _ r3
  clear k9 k0 k1 k2 k3 k4 k5
  have H_r3 := Lib.hid r3; clear r3
  have H_fa := Lib.hid fa; clear fa
  have H_hev := Lib.hid hev; clear hev
  go_wp2_with (fail)
  refine leaves_cons (f := 59) (args := #[.pointer (some ⟨g + 4, 0, none⟩)]) (by simp) (by simp [go_sem]) ?_
  refine (putBint_idle _ _).mono ?_
  rintro e u' w'' ⟨rfl, rfl, rfl⟩
  refine leaves_cons (f := 59) (args := #[.pointer (some ⟨g + 3, 0, none⟩)]) (by first | (intro h; cases h; done) | simp [settle]) (by simp [go_sem]) ?_
  refine (putBint_idle _ _).mono ?_
  rintro e u2 wf ⟨rfl, rfl, rfl⟩
  refine ⟨_, results_cell_tmp_row rfl _ _ (g + 1 + 1) 40 #[.bool nz, .int .i8 sz, .int .u64 cz] (0, 0) _ rfl (row_set (row_set (row_set H_r3.out))) Tryz.underlying40 rfl (by kernel_rfl), ?_⟩
  exact ⟨ev, rfl, H_hev.out, Fresh.set3 H_fa.out (by have := H_hg.out; omega)⟩

end Go.Proofs.YtjjolcjeiogdmabGreatDoor

/- The plain law of a quotient that is cut off at 41 places and then rounded half to even: as if it had been rounded at once. -/
namespace Go.Proofs.YtjjolcjeiogdmabGreatDoor
open Go.RowKit

theorem rhe_trunc {X D H : Nat} (hD : 0 < D) (hK : D ≤ H) : rhe (X * (2 * H) / D) (2 * H) = rhe X D := by
  have hr := Nat.mod_lt X hD
  have hx := Nat.div_add_mod X D
  obtain ⟨q, hq⟩ : ∃ q, q = X / D := ⟨_, rfl⟩
  obtain ⟨r, hrr⟩ : ∃ r, r = X % D := ⟨_, rfl⟩
  rw [← hq, ← hrr] at hx
  rw [← hrr] at hr
  obtain ⟨f, hf⟩ : ∃ f, f = r * (2 * H) / D := ⟨_, rfl⟩
  have e1 : X * (2 * H) / D = q * (2 * H) + f := by
    rw [← hx, hf, Nat.add_mul, Nat.mul_assoc, Nat.mul_add_div hD]
  have f1 : f * D ≤ r * (2 * H) := by rw [hf]; exact Nat.div_mul_le_self _ _
  have f2 : r * (2 * H) < (f + 1) * D := by rw [hf, Nat.mul_comm (_ + 1) D]; exact Nat.lt_mul_div_succ _ hD
  have hfl : f < 2 * H := by
    have h1 : r * (2 * H) < D * (2 * H) := Nat.mul_lt_mul_of_pos_right hr (by omega)
    have h2 : f * D < 2 * H * D := by rw [Nat.mul_comm (2 * H) D]; omega
    exact Nat.lt_of_mul_lt_mul_right h2
  have e2 : (q * (2 * H) + f) / (2 * H) = q := by
    rw [Nat.mul_comm q, Nat.mul_add_div (by omega), Nat.div_eq_of_lt hfl]; omega
  have e3 : (q * (2 * H) + f) % (2 * H) = f := by
    rw [Nat.mul_comm q, Nat.mul_add_mod, Nat.mod_eq_of_lt hfl]
  unfold rhe
  rw [e1, e2, e3, ← hq, ← hrr]
  have k1 : r * (2 * H) = 2 * (r * H) := by rw [Nat.mul_left_comm]
  rw [k1] at f1 f2
  have a1 : (2 * H < 2 * f) ↔ (D < 2 * r) := by
    constructor
    · intro h
      have h1 : (H + 1) * D ≤ f * D := Nat.mul_le_mul_right D (by omega)
      rw [Nat.add_mul, Nat.one_mul, Nat.mul_comm H D] at h1
      have h2 : D * H < 2 * r * H := by rw [Nat.mul_assoc]; omega
      exact Nat.lt_of_mul_lt_mul_right h2
    · intro h
      have h1 : (D + 1) * H ≤ 2 * r * H := Nat.mul_le_mul_right H (by omega)
      rw [Nat.add_mul, Nat.one_mul, Nat.mul_assoc] at h1
      have h2 : (H + 1) * D < (f + 1) * D := by rw [Nat.add_mul, Nat.one_mul, Nat.mul_comm H D]; omega
      have h3 := Nat.lt_of_mul_lt_mul_right h2
      omega
  have a2 : (2 * f = 2 * H) ↔ (2 * r = D) := by
    constructor
    · intro h
      have hfe : f = H := by omega
      subst hfe
      have h0 : ¬ D < 2 * r := fun h => by have := a1.2 h; omega
      have h1 : D * f ≤ 2 * r * f := by rw [Nat.mul_assoc, Nat.mul_comm D f]; exact f1
      have h2 := Nat.le_of_mul_le_mul_right h1 (by omega)
      omega
    · intro h
      have h0 : ¬ 2 * H < 2 * f := fun h' => by have := a1.1 h'; omega
      have h1 : H * D < (f + 1) * D := by
        have : 2 * (r * H) = D * H := by rw [← Nat.mul_assoc, h]
        rw [Nat.mul_comm H D]
        omega
      have h2 := Nat.lt_of_mul_lt_mul_right h1
      omega
  simp only [a1, a2]

/-- cut off at 41 places, rounded k places before that: as if rounded at once -/
theorem quo_rhe {c1 s1 c2 s2 k : Nat} (hs1 : s1 ≤ 19) (hc20 : 0 < c2) (hc2 : c2 ≤ 9999999999999999999) (hk : 22 ≤ k) (hk2 : k ≤ 41) :
    rhe (c1 * 10 ^ s2 * 10 ^ (41 - k)) (10 ^ s1 * c2) = rhe (c1 * 10 ^ s2 * 10 ^ 41 / (10 ^ s1 * c2)) (10 ^ k) := by
  obtain ⟨m, hm⟩ : ∃ m, m = min (s2 + (41 - k)) s1 := ⟨_, rfl⟩
  have hp : 0 < 10 ^ m := Nat.pow_pos (by omega)
  have e1 : c1 * 10 ^ s2 * 10 ^ (41 - k) = c1 * 10 ^ (s2 + (41 - k) - m) * 10 ^ m := by
    rw [Nat.mul_assoc, Nat.mul_assoc, ← Nat.pow_add, ← Nat.pow_add]; congr 2; omega
  have e2 : 10 ^ s1 * c2 = c2 * 10 ^ (s1 - m) * 10 ^ m := by
    rw [Nat.mul_assoc, ← Nat.pow_add, Nat.mul_comm]; congr 2; omega
  have e3 : c1 * 10 ^ s2 * 10 ^ 41 = c1 * 10 ^ (s2 + (41 - k) - m) * 10 ^ k * 10 ^ m := by
    rw [show 10 ^ 41 = 10 ^ (41 - k) * 10 ^ k by rw [← Nat.pow_add]; congr 1; omega, ← Nat.mul_assoc, e1, Nat.mul_right_comm]
  rw [e1, e2, rhe_mul hp, e3, Nat.mul_div_mul_right _ _ hp]
  generalize c1 * 10 ^ (s2 + (41 - k) - m) = X
  obtain ⟨j, hj⟩ : ∃ j, k = j + 1 := ⟨k - 1, by omega⟩
  have hk5 : 10 ^ k = 2 * (5 * 10 ^ j) := by rw [hj, Nat.pow_succ]; omega
  rw [hk5]
  refine (rhe_trunc (Nat.mul_pos hc20 (Nat.pow_pos (by omega))) ?_).symm
  have h1 : c2 * 10 ^ (s1 - m) ≤ 10 ^ 19 * 10 ^ (s1 - m) := Nat.mul_le_mul_right _ (Nat.le_trans hc2 (by decide))
  rw [← Nat.pow_add] at h1
  have h2 : 10 ^ (19 + (s1 - m)) ≤ 10 ^ j := Nat.pow_le_pow_right (by omega) (by omega)
  omega

theorem shift_geT {N d C S n m : Nat} (h : C * d ≤ N * 10 ^ S) (hd : 0 < d) (hC : 10 ^ (m + S) ≤ C * 10 ^ n) : 10 ^ m ≤ rhe (N * 10 ^ n) d := by
  refine Nat.le_trans ?_ (rhe_ge _ _)
  rw [Nat.le_div_iff_mul_le hd]
  have hp : 0 < 10 ^ S := Nat.pow_pos (by omega)
  refine Nat.le_of_mul_le_mul_right ?_ hp
  have e1 : N * 10 ^ n * 10 ^ S = N * 10 ^ S * 10 ^ n := by rw [Nat.mul_right_comm]
  have e2 : 10 ^ m * d * 10 ^ S = 10 ^ (m + S) * d := by rw [Nat.pow_add, Nat.mul_right_comm]
  rw [e1, e2]
  refine Nat.le_trans (Nat.mul_le_mul_right _ hC) ?_
  rw [Nat.mul_right_comm]
  exact Nat.mul_le_mul_right _ h

section
variable {N d C p ms : Nat}

theorem nbT_none (h : C * d ≤ N * 10 ^ 41) (hd : 0 < d) (hp : IsPrec C p) (hms : ms ≤ 19) (hlt : 60 < p + ms) : ¬ okN N d ms := by
  have h1 := hp.2 (by omega)
  have h2 : 10 ^ 19 ≤ rhe (N * 10 ^ ms) d := shift_geT h hd (by
    refine Nat.le_trans ?_ (Nat.mul_le_mul_right _ h1)
    rw [← Nat.pow_add]
    exact Nat.pow_le_pow_right (by omega) (by omega))
  unfold okN
  omega

theorem nbStepT_some {c s : Nat} (h : C * d ≤ N * 10 ^ 41) (hr : ∀ k, 22 ≤ k → k ≤ 41 → rhe (N * 10 ^ (41 - k)) d = rhe C (10 ^ k)) (hd : 0 < d) (hp : IsPrec C p) (hms : ms ≤ 19) (hn : nbStep C p 41 ms = some (c, s)) :
    ms ≤ s ∧ s ≤ 19 ∧ c ≤ 10000000000000000000 ∧ (c < 10000000000000000000 → Good N d c s) ∧ (c = 10000000000000000000 → rhe (N * 10 ^ s) d = 10000000000000000000) := by
  unfold nbStep at hn
  split at hn
  · cases hn
  · rename_i h0
    rw [if_neg (by omega)] at hn
    split at hn
    · rename_i h2
      cases hn
      have e := hr 22 (by omega) (by omega)
      have hC : C < 10 ^ 41 := hp.lt_iff.2 h2.1
      have hle : rhe C (10 ^ (41 - 19)) ≤ 10 ^ 19 := by
        refine Nat.le_trans (rhe_le _ _) ?_
        have : C / 10 ^ (41 - 19) < 10 ^ 19 := by
          rw [Nat.div_lt_iff_lt_mul (Nat.pow_pos (by omega)), ← Nat.pow_add]
          exact hC
        omega
      refine ⟨hms, Nat.le_refl _, by omega, fun hc => ⟨by omega, by omega, .inr ⟨⟨by omega, ?_, .inl rfl⟩, e.symm⟩⟩, fun hc => by rw [e]; exact hc⟩
      unfold okN
      rw [e]
      exact hc
    · rename_i h2
      rw [if_pos (by omega)] at hn
      cases hn
      have e := hr (p - 19) (by omega) (by omega)
      rw [show 41 - (p - 19) = 19 + 41 - p by omega] at e
      have hle : rhe C (10 ^ (p - 19)) ≤ 10 ^ 19 := by
        refine Nat.le_trans (rhe_le _ _) ?_
        have : C / 10 ^ (p - 19) < 10 ^ 19 := by
          rw [Nat.div_lt_iff_lt_mul (Nat.pow_pos (by omega)), ← Nat.pow_add, show 19 + (p - 19) = p by omega]
          exact hp.1
        omega
      refine ⟨by omega, by omega, by omega, fun hc => ⟨by omega, by omega, .inr ⟨⟨by omega, ?_, .inr ?_⟩, e.symm⟩⟩, fun hc => by rw [e, hc]⟩
      · unfold okN
        rw [e]
        exact hc
      · have h1 := hp.2 (by omega)
        have h2 : 10 ^ 19 ≤ rhe (N * 10 ^ (19 + 41 - p + 1)) d := shift_geT h hd (by
          refine Nat.le_trans ?_ (Nat.mul_le_mul_right _ h1)
          rw [← Nat.pow_add]
          exact Nat.pow_le_pow_right (by omega) (by omega))
        unfold okN
        omega

theorem nbT_out_none (h : C * d ≤ N * 10 ^ 41) (hr : ∀ k, 22 ≤ k → k ≤ 41 → rhe (N * 10 ^ (41 - k)) d = rhe C (10 ^ k)) (hd : 0 < d) (hp : IsPrec C p) (hms : ms ≤ 19) (hn : nbOut C p 41 ms = none) : ¬ okN N d ms := by
  unfold nbOut at hn
  split at hn
  · rename_i h1
    have hlt : 60 < p + ms := by
      unfold nbStep at h1
      split at h1
      · omega
      · split at h1
        · cases h1
        · split at h1
          · cases h1
          · split at h1 <;> cases h1
    exact nbT_none h hd hp hms hlt
  · rename_i c s h1
    obtain ⟨a1, a2, a3, a4, a5⟩ := nbStepT_some h hr hd hp hms h1
    split at hn
    · cases hn
    · have hc : c = 10000000000000000000 := by omega
      have hr := a5 hc
      subst hc
      unfold nbStep at hn
      split at hn
      · have : ms = s := by omega
        subst this
        unfold okN
        omega
      · split at hn
        · cases hn
        · split at hn
          · cases hn
          · split at hn <;> cases hn

theorem nbT_out_some {c s : Nat} (h : C * d ≤ N * 10 ^ 41) (hr : ∀ k, 22 ≤ k → k ≤ 41 → rhe (N * 10 ^ (41 - k)) d = rhe C (10 ^ k)) (hd : 0 < d) (hp : IsPrec C p) (hms : ms ≤ 19) (hn : nbOut C p 41 ms = some (c, s)) : Good N d c s ∧ ms ≤ s := by
  unfold nbOut at hn
  split at hn
  · cases hn
  · rename_i c' s' h1
    obtain ⟨a1, a2, a3, a4, a5⟩ := nbStepT_some h hr hd hp hms h1
    split at hn
    · cases hn
      rename_i h2
      exact ⟨a4 h2, a1⟩
    · have hc : c' = 10000000000000000000 := by omega
      have hr := a5 hc
      subst hc
      unfold nbStep at hn
      split at hn
      · cases hn
      · rw [if_neg (by omega), if_neg (by omega), if_pos (by omega)] at hn
        cases hn
        have e10 : rhe 10000000000000000000 (10 ^ (20 - 19)) = 1000000000000000000 := rhe_exact (by decide) (by decide)
        obtain ⟨t, rfl⟩ : ∃ t, s' = t + 1 := ⟨s' - 1, by omega⟩
        rw [e10, show 19 + (t + 1) - 20 = t by omega]
        have hr2 : rhe (N * 10 ^ t) d = 1000000000000000000 := rhe_ten hd (by rw [Nat.mul_assoc, ← Nat.pow_succ, hr])
        refine ⟨⟨by omega, by omega, .inr ⟨⟨by omega, ?_, .inr ?_⟩, hr2.symm⟩⟩, by omega⟩
        · unfold okN
          omega
        · unfold okN
          omega

end

end Go.Proofs.YtjjolcjeiogdmabGreatDoor

/- Quotients: a result, or no room, or not even. -/
namespace Go.Proofs.YtjjolcjeiogdmabGreatDoor
open Go.RowKit

theorem quo_abs (m1 m2 : Bool) (c1 x : Nat) : (zfix m1 c1 * zfix m2 x).natAbs = c1 * x := by
  have a1 : (zfix m1 c1).natAbs = c1 := by unfold zfix; split <;> simp
  have a2 : (zfix m2 x).natAbs = x := by unfold zfix; split <;> simp
  rw [Int.natAbs_mul, a1, a2]

theorem quoBint_law (m1 m2 : Bool) (c1 s1 c2 s2 ms : Nat) (hms : ms ≤ 19) (hs1 : s1 ≤ 19) (hs2 : s2 ≤ 19) (hc1 : c1 ≤ 9999999999999999999) (hc2 : c2 ≤ 9999999999999999999) (hc20 : 0 < c2) :
    (¬ okN (zfix m1 c1 * zfix m2 (10 ^ s2)).natAbs (10 ^ s1 * c2) ms ∧ ∀ w, Glob w → Pow10s w → Calls Tryz.prog 47 #[gd m1 s1 c1, gd m2 s2 c2, .int .i64 ms] w (ClampErr w)) ∨
    ∃ nz sz cz, (∀ w, Glob w → Pow10s w → Calls Tryz.prog 47 #[gd m1 s1 c1, gd m2 s2 c2, .int .i64 ms] w (VRet w (.tuple #[gd nz sz cz, .nilIface]))) ∧ ResOK (zfix m1 c1 * zfix m2 (10 ^ s2)) (10 ^ s1 * c2) ms nz sz cz := by
  have hd : 0 < 10 ^ s1 * c2 := Nat.mul_pos (Nat.pow_pos (by omega)) hc20
  have hsn := mul_sign m1 m2 c1 (10 ^ s2)
  obtain ⟨k, hk⟩ : ∃ k, k = 41 + s2 - s1 := ⟨_, rfl⟩
  have hCe : c1 * 10 ^ s2 * 10 ^ 41 / (10 ^ s1 * c2) = c1 * 10 ^ k / c2 := by
    have e1 : c1 * 10 ^ s2 * 10 ^ 41 = c1 * 10 ^ k * 10 ^ s1 := by
      rw [Nat.mul_assoc, Nat.mul_assoc, ← Nat.pow_add, ← Nat.pow_add]; congr 2; omega
    rw [e1, Nat.mul_comm (10 ^ s1) c2, Nat.mul_div_mul_right _ _ (Nat.pow_pos (by omega))]
  have hr : ∀ j, 22 ≤ j → j ≤ 41 → rhe ((zfix m1 c1 * zfix m2 (10 ^ s2)).natAbs * 10 ^ (41 - j)) (10 ^ s1 * c2) = rhe (c1 * 10 ^ k / c2) (10 ^ j) := fun j h1 h2 => by
    rw [quo_abs, ← hCe]
    exact quo_rhe hs1 hc20 hc2 h1 h2
  have hfl : c1 * 10 ^ k / c2 * (10 ^ s1 * c2) ≤ (zfix m1 c1 * zfix m2 (10 ^ s2)).natAbs * 10 ^ 41 := by
    rw [quo_abs, ← hCe]
    exact Nat.div_mul_le_self _ _
  have hC80 : c1 * 10 ^ k / c2 < 10 ^ 80 := by
    refine Nat.lt_of_le_of_lt (Nat.div_le_self _ _) ?_
    have h1 : 10 ^ k ≤ 10 ^ 60 := Nat.pow_le_pow_right (by omega) (by omega)
    have h2 : c1 * 10 ^ k ≤ 10 ^ 19 * 10 ^ 60 := Nat.mul_le_mul (Nat.le_trans hc1 (by decide)) h1
    rw [← Nat.pow_add] at h2
    exact Nat.lt_of_le_of_lt h2 (Nat.pow_lt_pow_right (by omega) (by omega))
  obtain ⟨p, hp80, hp⟩ := isPrec_ex 80 _ hC80
  have hnb : ∀ w, Glob w → Pow10s w → ∀ V v, Fresh w V → (∀ k, v.ownBlock = some k → w.heap.size + 5 ≤ k) → BI V (w.heap.size + 3) v (c1 * 10 ^ k / c2) →
      Calls Tryz.prog 63 #[.bool (m1 != m2), .pointer (some ⟨w.heap.size + 3, 0, none⟩), .int .i64 41, .int .i64 ms] V (NBRet V (w.heap.size + 3) v (m1 != m2) (nbOut (c1 * 10 ^ k / c2) p 41 ms)) :=
    fun w hG hP V v hf hv hz => newFromBintL_any w V (m1 != m2) (w.heap.size + 3) _ p 41 ms v hG hP hf (by omega) (fun k h => by have := hv k h; omega) hp hp80 (by omega) hms hz
  have go := fun w hG hP nz sz cz Pv h => quoBint_go m1 m2 c1 s1 c2 s2 k w hG hP ms hs1 hs2 hc1 hc2 hc20 hk nz sz cz Pv h
  rcases ho : nbOut (c1 * 10 ^ k / c2) p 41 ms with _ | ⟨c, s⟩
  · rw [ho] at hnb
    exact .inl ⟨nbT_out_none hfl hr hd hp hms ho, fun w hG hP => (go w hG hP false 0 0 AnErr (hnb w hG hP)).mono (fun _ _ h => h.err)⟩
  · rw [ho] at hnb
    obtain ⟨g1, g2⟩ := nbT_out_some hfl hr hd hp hms ho
    exact .inr ⟨_, s, c, fun w hG hP => (go w hG hP ((m1 != m2) && decide (0 < c)) s c NoErr (hnb w hG hP)).mono (fun _ _ h => h.ok), res_ok hd g1 g2 hsn.1 hsn.2⟩

theorem ntz_ex : ∀ (n c : Nat), 0 < c → c < 10 ^ n → ∃ k, 10 ^ k ∣ c ∧ ¬ 10 ^ (k + 1) ∣ c
  | 0, c, h0, h => by simp at h; omega
  | n + 1, c, h0, h => by
    by_cases h1 : c % 10 = 0
    · have hc : c = c / 10 * 10 := by omega
      obtain ⟨k, h2, h3⟩ := ntz_ex n (c / 10) (by omega) (by rw [Nat.pow_succ] at h; omega)
      refine ⟨k + 1, ?_, ?_⟩
      · rw [hc, Nat.pow_succ]; exact Nat.mul_dvd_mul_right h2 10
      · rw [hc, Nat.pow_succ]
        intro h4
        exact h3 (Nat.dvd_of_mul_dvd_mul_right (by omega) h4)
    · exact ⟨0, by simp, by rw [Nat.pow_succ, Nat.pow_zero, Nat.one_mul]; omega⟩

theorem quoFint_law (m1 m2 : Bool) (c1 s1 c2 s2 ms : Nat) (hms : ms ≤ 19) (hs1 : s1 ≤ 19) (hs2 : s2 ≤ 19) (hc1 : c1 ≤ 9999999999999999999) (hc2 : c2 ≤ 9999999999999999999) (hc20 : 0 < c2) :
    (∀ w, Pow10s w → ErrIs w → ErrJs w → Calls Tryz.prog 46 #[gd m1 s1 c1, gd m2 s2 c2, .int .i64 ms] w (ClampErr w)) ∨
    ∃ nz sz cz, (∀ w, Pow10s w → ErrIs w → ErrJs w → Calls Tryz.prog 46 #[gd m1 s1 c1, gd m2 s2 c2, .int .i64 ms] w (VRet w (.tuple #[gd nz sz cz, .nilIface]))) ∧ ResOK (zfix m1 c1 * zfix m2 (10 ^ s2)) (10 ^ s1 * c2) ms nz sz cz := by
  have hd : 0 < 10 ^ s1 * c2 := Nat.mul_pos (Nat.pow_pos (by omega)) hc20
  have hsn := mul_sign m1 m2 c1 (10 ^ s2)
  obtain ⟨p, hp19, hp⟩ := isPrec_ex 19 c1 (by omega)
  obtain ⟨k, hk1, hk2⟩ := ntz_ex 20 c2 hc20 (by omega)
  have hk19 : k ≤ 19 := by
    rcases Nat.lt_or_ge 19 k with h | h
    · have h1 : 10 ^ 20 ≤ 10 ^ k := Nat.pow_le_pow_right (by omega) h
      have h2 := Nat.le_of_dvd hc20 hk1
      omega
    · exact h
  obtain ⟨S, hS⟩ : ∃ S : Int, S = (s1 : Int) + ((19 - p : Nat) : Int) + (k : Int) - (s2 : Int) := ⟨_, rfl⟩
  have go := fun w hJ hP nz sz cz Pv h => quoFint_go m1 m2 c1 s1 c2 s2 ms p k w hJ hP hs1 hs2 hc1 hc2 hc20 hp hk1 hk2 nz sz cz Pv _ _ rfl rfl S hS h
  by_cases hex : c1 * 10 ^ (19 - p) % (c2 / 10 ^ k) = 0
  · have hXl : c1 * 10 ^ (19 - p) ≤ 9999999999999999999 := by
      have h1 : c1 * 10 ^ (19 - p) < 10 ^ p * 10 ^ (19 - p) := Nat.mul_lt_mul_of_pos_right hp.1 (Nat.pow_pos (by omega))
      rw [← Nat.pow_add, show p + (19 - p) = 19 by omega] at h1
      omega
    have hQ := Nat.div_mul_cancel (Nat.dvd_of_mod_eq_zero hex)
    have hY := Nat.div_mul_cancel hk1
    have hQl : c1 * 10 ^ (19 - p) / (c2 / 10 ^ k) ≤ 9999999999999999999 := Nat.le_trans (Nat.div_le_self _ _) hXl
    rcases nfI_law (m1 != m2) (c1 * 10 ^ (19 - p) / (c2 / 10 ^ k)) ms S hQl (by omega) (by omega) hms with herr | ⟨s, c, hok, hle, hgood⟩
    · exact .inl fun w hP hE hJ => (go w hJ hP false 0 0 AnErr (fun _ W hW => (herr W (hP.fresh hW) (hE.fresh hW)).mono (fun _ _ h => DOut.of_err h))).mono (fun _ _ h => h.elim (fun h => h.2.err) (fun h => absurd hex h.1))
    · refine .inr ⟨_, s, c, fun w hP hE hJ => (go w hJ hP _ s c NoErr (fun _ W hW => (hok W (hP.fresh hW)).mono (fun _ _ h => DOut.of_ok h))).mono (fun _ _ h => h.elim (fun h => h.2.ok) (fun h => absurd hex h.1)), res_ok hd (hgood _ _ hd ?_) hle hsn.1 hsn.2⟩
      rw [quo_abs]
      generalize c1 * 10 ^ (19 - p) / (c2 / 10 ^ k) = Q at *
      generalize c2 / 10 ^ k = Y at *
      have e1 : Q * 10 ^ (-S).toNat * (10 ^ s1 * c2) = Q * Y * (10 ^ (-S).toNat * (10 ^ s1 * 10 ^ k)) := by
        rw [← hY, Nat.mul_assoc, Nat.mul_assoc]
        congr 1
        rw [Nat.mul_left_comm (10 ^ s1) Y, Nat.mul_left_comm _ Y]
      rw [e1, hQ, Nat.mul_assoc, Nat.mul_assoc, ← Nat.pow_add, ← Nat.pow_add, ← Nat.pow_add, ← Nat.pow_add]
      congr 2
      omega
  · exact .inl fun w hP hE hJ => (go w hJ hP false 0 0 AnErr (fun h => absurd h hex)).mono (fun _ _ h => h.elim (fun h => absurd h.1 hex) (fun h => h.2))

end Go.Proofs.YtjjolcjeiogdmabGreatDoor

/- A block that is. -/
namespace Go.Proofs.YtjjolcjeiogdmabGreatDoor
open Go.RowKit

theorem row_lt3 {w : World} {g : Nat} {o : Obj} (h : w.heap[g]? = some o) : g < w.heap.size := by
  rcases Nat.lt_or_ge g w.heap.size with hlt | hge
  · exact hlt
  · rw [Array.getElem?_eq_none hge] at h; cases h

end Go.Proofs.YtjjolcjeiogdmabGreatDoor
