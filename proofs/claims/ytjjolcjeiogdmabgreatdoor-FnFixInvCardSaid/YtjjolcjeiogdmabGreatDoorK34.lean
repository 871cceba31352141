/- bint.rshHalfEven by up to 57 places. -/
import Derived.Test.YtjjolcjeiogdmabGreatDoorK25
import Derived.Test.YtjjolcjeiogdmabGreatDoorK26
import Derived.Test.YtjjolcjeiogdmabGreatDoorK29
import Derived.Test.YtjjolcjeiogdmabGreatDoorK33
namespace Go.Proofs.YtjjolcjeiogdmabGreatDoor
open Go.RowKit

set_option maxRecDepth 20000 in
set_option maxHeartbeats 4000000 in
theorem brsh_posL (w0 w : World) (g n s : Nat) (v : Value) (hG : Glob w0) (hP : Pow10s w0) (hf : Fresh w0 w) (hgl : w0.heap.size ≤ g) (hvl : ∀ k, v.ownBlock = some k → w0.heap.size ≤ k)
    (hn : n < wpow 39) (h0 : 0 < n) (hs1 : 1 ≤ s) (hs : s ≤ 57) (hz : BI w g v n) :
    Calls Tryz.prog 75 #[.pointer (some ⟨g, 0, none⟩), .pointer (some ⟨g, 0, none⟩), .int .i64 s] w (fun e w' => e = .returned (.tuple #[]) ∧ BSet w g v (rhe n (10 ^ s)) w') := by
  have hsg := bsign_any g n v w hz
  rw [if_neg (by omega)] at hsg
  have t1 : decide (s = 0) = false := by simp; omega
  have t2 : decide ((s : Int) < 100) = true := by simp; omega
  have hy2 : 0 < 10 ^ s := Nat.pow_pos (by omega)
  have hyb : 10 ^ s < wpow 3 := Nat.lt_of_le_of_lt (Nat.pow_le_pow_right (by omega) hs) (by unfold wpow; decide : 10 ^ 57 < wpow 3)
  have hbp : ∀ W, Fresh w0 W → Calls Tryz.prog 69 #[.int .i64 s] W (BRet W (10 ^ s)) := fun W h => bpow10_all s W (hG.fresh h) (hP.fresh h) (by omega)
  have hgs : NG ≤ w.heap.size := Nat.le_trans hG.size hf.size
  have hqn : n / 10 ^ s < wpow 39 := Nat.lt_of_le_of_lt (Nat.div_le_self _ _) hn
  have hrn : n % 10 ^ s < 10 ^ s := Nat.mod_lt _ (by omega)
  have hyw : 10 ^ s < wpow 39 := wpow_ten (by omega)
  have hrw : 2 * (n % 10 ^ s) < wpow 39 := by
    have h1 : 10 ^ (s + 1) < wpow 39 := wpow_ten (by omega)
    rw [Nat.pow_succ] at h1
    omega
  have hinc : ∀ W V, Fresh w0 W → BI W g V (n / 10 ^ s) → Calls Tryz.prog 89 #[.pointer (some ⟨g, 0, none⟩), .pointer (some ⟨g, 0, none⟩)] W (fun e w' => e = .returned (.tuple #[]) ∧ BSet W g V (n / 10 ^ s + 1) w') :=
    fun W V h hV => inc_self g (n / 10 ^ s) V W (hG.fresh h) (hP.fresh h) hqn hV
  have hres : rhe n (10 ^ s) = n / 10 ^ s + (if 10 ^ s < 2 * (n % 10 ^ s) ∨ (2 * (n % 10 ^ s) = 10 ^ s ∧ n / 10 ^ s % 2 = 1) then 1 else 0) := rfl
  have hqr := fun bY br (vy vr : Value) (nr : Nat) (W : World) (hne : g ≠ br) (hz : BI W g v n) (hy : BI W bY vy (10 ^ s)) (hr : BI W br vr nr) (ha : ∀ k, v.ownBlock = some k → vr.ownBlock ≠ some k) (hw : Fresh w0 W) (hax : ∀ k, vr.ownBlock = some k → v.ownBlock ≠ some k) (hay : ∀ k, vr.ownBlock = some k → vy.ownBlock ≠ some k) =>
    bquoRem_all g g bY br v v vy vr n n (10 ^ s) nr W (hG.fresh hw) hn hy2 hyb hne hz hz hy hr (.inl rfl) ha hax hay
  obtain ⟨b, hb⟩ : ∃ b, b = w.heap.size := ⟨_, rfl⟩
  have hgb := getBint_any w hgs
  rw [← hb] at hgb
  rw [hres]
  generalize n / 10 ^ s = q at *
  generalize n % 10 ^ s = r at *
  generalize 10 ^ s = y at *
  obtain ⟨R, hR⟩ : ∃ R, R = q + (if y < 2 * r ∨ (2 * r = y ∧ q % 2 = 1) then 1 else 0) := ⟨_, rfl⟩
  rw [← hR]
  clear hres hG hP hn h0 hs1 hs hy2
  have H_hR := Lib.hid hR; clear hR
  have H_hf := Lib.hid hf; clear hf
  have H_hgl := Lib.hid hgl; clear hgl
  have H_hvl := Lib.hid hvl; clear hvl
  have H_hz := Lib.hid hz; clear hz
  have H_hsg := Lib.hid hsg; clear hsg
  have H_hyb := Lib.hid hyb; clear hyb
  have H_hbp := Lib.hid hbp; clear hbp
  have H_hgs := Lib.hid hgs; clear hgs
  have H_hqn := Lib.hid hqn; clear hqn
  have H_hrn := Lib.hid hrn; clear hrn
  have H_hyw := Lib.hid hyw; clear hyw
  have H_hrw := Lib.hid hrw; clear hrw
  have H_hinc := Lib.hid hinc; clear hinc
  have H_hqr := Lib.hid hqr; clear hqr
  have H_hb := Lib.hid hb; clear hb
  have H_hgb := Lib.hid hgb; clear hgb
  go_enter_defers Tryz.func75, Tryz.ntmps75
  go_wp2_with (fail)
  refine H_hsg.out.mono ?_
  rintro e w1 ⟨rfl, ew⟩
  subst w1
  go_wp2_with (fail)
  refine H_hgb.out.mono ?_
  rintro e w1 ⟨rfl, b1, f1, s1⟩
  have f01 : Fresh w0 w1 := H_hf.out.trans f1 (fun _ _ h => h) (fun _ _ h => h)
  have hgb : g ≠ b := by have := H_hz.out.lt; have := H_hb.out; omega
  have H_b1 := Lib.hid b1; clear b1
  have H_f1 := Lib.hid f1; clear f1
  have H_s1 := Lib.hid s1; clear s1
  have H_f01 := Lib.hid f01; clear f01
  have H_hgb := Lib.hid hgb; clear hgb
  go_wp2_with (fail)
  refine (H_hbp.out _ H_f01.out).mono ?_
  rintro e w2 ⟨h, u, rfl, b2, l2, o2, f2⟩
  have f02 : Fresh w0 w2 := H_f01.out.trans f2 (fun _ _ h => h) (fun _ _ h => h)
  have z2 := (H_hz.out.fresh H_f1.out).fresh f2
  have r2 := H_b1.out.fresh f2
  have hq := H_hqr.out h b u _ 0 w2 H_hgb.out z2 b2 r2 (fun k _ h => by simp [Value.ownBlock] at h) f02 (fun k h => by simp [Value.ownBlock] at h) (fun k h => by simp [Value.ownBlock] at h)
  have hl1 : w.heap.size < w1.heap.size := by have := H_s1.out; have := H_hb.out; omega
  have hhg : h ≠ g := by have := H_hz.out.lt; omega
  have hhb : h ≠ b := by have := H_hb.out; omega
  have u2 : ∀ k, u.ownBlock = some k → k ≠ g ∧ k ≠ b ∧ v.ownBlock ≠ some k := fun k hk => by
    have a1 := o2 k hk
    have a2 := H_hz.out.lt
    have a3 := H_hb.out
    exact ⟨by omega, by omega, fun e => by have := H_hz.out.own_lt e; omega⟩
  have H_b2 := Lib.hid b2; clear b2
  have H_l2 := Lib.hid l2; clear l2
  have H_o2 := Lib.hid o2; clear o2
  have H_f2 := Lib.hid f2; clear f2
  have H_f02 := Lib.hid f02; clear f02
  have H_z2 := Lib.hid z2; clear z2
  have H_r2 := Lib.hid r2; clear r2
  have H_hq := Lib.hid hq; clear hq
  have H_hl1 := Lib.hid hl1; clear hl1
  have H_hhg := Lib.hid hhg; clear hhg
  have H_hhb := Lib.hid hhb; clear hhb
  have H_u2 := Lib.hid u2; clear u2
  go_wp2_with (fail)
  refine H_hq.out.mono ?_
  rintro e w3 ⟨rfl, v3, u3, z3, r3, k3, ov, ou, od⟩
  have f03 : Fresh w0 w3 := H_f02.out.trans k3 (fun _ _ h => h) (fun k hk h => by
    rcases h with rfl | rfl | h | h
    · have := H_hgl.out; omega
    · have := H_hb.out; have := H_hf.out.size; omega
    · have := H_hvl.out k h; omega
    · simp [Value.ownBlock] at h)
  have y3 : BI w3 h u y := H_b2.out.keep k3 (fun hh => by
    rcases hh with hh | hh | hh | hh
    · exact H_hhg.out hh
    · exact H_hhb.out hh
    · have := H_hz.out.own_lt hh; have := H_l2.out; have := H_f1.out.size; omega
    · simp [Value.ownBlock] at hh) (fun k hk hh => by
    obtain ⟨a1, a2, a3⟩ := H_u2.out k hk
    rcases hh with hh | hh | hh | hh
    · exact a1 hh
    · exact a2 hh
    · exact a3 hh
    · simp [Value.ownBlock] at hh)
  have ov3 : ∀ k, v3.ownBlock = some k → w0.heap.size ≤ k := fun k hk => by
    rcases ov k hk with h | h
    · exact H_hvl.out k h
    · have := H_f02.out.size; omega
  have ou3 : ∀ k, u3.ownBlock = some k → w2.heap.size ≤ k := fun k hk => by
    rcases ou k hk with h | h
    · simp [Value.ownBlock] at h
    · exact h
  have k03 : Keep (fun k => k = g ∨ v.ownBlock = some k) w w3 := (H_f1.out.trans H_f2.out (fun _ _ h => h) (fun _ _ h => h)).trans k3 (fun _ _ h => h.elim) (fun k hk h => by
    rcases h with rfl | rfl | h | h
    · exact .inl rfl
    · have := H_hb.out; omega
    · exact .inr h
    · simp [Value.ownBlock] at h)
  have own03 : ∀ k, v3.ownBlock = some k → v.ownBlock = some k ∨ w.heap.size ≤ k := fun k hk => by
    rcases ov k hk with h | h
    · exact .inl h
    · have := H_f1.out.size; have := H_f2.out.size; exact .inr (by omega)
  have H_k03 := Lib.hid k03; clear k03
  have H_own03 := Lib.hid own03; clear own03
  have hdbl := dbl_all b r u3 w3 (by have := H_hrn.out; have := H_hyw.out; omega) r3
  have H_z3 := Lib.hid z3; clear z3
  have H_r3 := Lib.hid r3; clear r3
  have H_k3 := Lib.hid k3; clear k3
  have H_ov := Lib.hid ov; clear ov
  have H_ou := Lib.hid ou; clear ou
  have H_od := Lib.hid od; clear od
  have H_f03 := Lib.hid f03; clear f03
  have H_y3 := Lib.hid y3; clear y3
  have H_ov3 := Lib.hid ov3; clear ov3
  have H_ou3 := Lib.hid ou3; clear ou3
  have H_hdbl := Lib.hid hdbl; clear hdbl
  go_wp2_with (fail)
  refine H_hdbl.out.mono ?_
  rintro e w4 ⟨rfl, u4, r4, k4, o4⟩
  have f04 : Fresh w0 w4 := H_f03.out.trans k4 (fun _ _ h => h) (fun k hk h => by
    rcases h with rfl | h
    · have := H_hb.out; have := H_hf.out.size; omega
    · have := H_ou3.out k h; have := H_f02.out.size; omega)
  have k04 : Keep (fun k => k = g ∨ v.ownBlock = some k) w w4 := H_k03.out.trans k4 (fun _ _ h => h) (fun k hk h => by
    rcases h with rfl | h
    · have := H_hb.out; omega
    · have := H_ou3.out k h; have := H_f1.out.size; have := H_f2.out.size; omega)
  have H_k04 := Lib.hid k04; clear k04
  have z4 : BI w4 g v3 q := H_z3.out.keep k4 (fun hh => by
    rcases hh with hh | hh
    · exact H_hgb.out hh
    · have := H_ou3.out g hh; have := H_z2.out.lt; omega) (fun k hk hh => by
    rcases hh with rfl | hh
    · exact BI.ne_own H_r3.out H_z3.out hk rfl
    · exact H_od.out k hk hh)
  have y4 : BI w4 h u y := H_y3.out.keep k4 (fun hh => by
    rcases hh with hh | hh
    · exact H_hhb.out hh
    · have := H_ou3.out h hh; have := H_b2.out.lt; omega) (fun k hk hh => by
    rcases hh with hh | hh
    · exact (H_u2.out k hk).2.1 hh
    · have := H_ou3.out k hh; have := H_b2.out.own_lt hk; omega)
  have hcmp := bcmp_any h b u u4 y (2 * r) w4 H_hyw.out H_hrw.out H_hhb.out y4 r4
  have hcv := cmpN_three y (2 * r)
  have H_r4 := Lib.hid r4; clear r4
  have H_k4 := Lib.hid k4; clear k4
  have H_o4 := Lib.hid o4; clear o4
  have H_f04 := Lib.hid f04; clear f04
  have H_z4 := Lib.hid z4; clear z4
  have H_y4 := Lib.hid y4; clear y4
  rcases hcv with ⟨c1, c2⟩ | ⟨c1, c2⟩ | ⟨c1, c2⟩
  · rw [c1] at hcmp
    have hR1 : R = q + 1 := by rw [H_hR.out, if_pos (.inl c2)]
    clear c1
    have H_c2 := Lib.hid c2; clear c2
    have H_hcmp := Lib.hid hcmp; clear hcmp
    have H_hR1 := Lib.hid hR1; clear hR1
    go_wp2_with (fail)
    refine H_hcmp.out.mono ?_
    rintro e w5 ⟨rfl, qn, rfl⟩
    have f05 := H_f04.out.drewN qn
    have H_k05 := Lib.hid (H_k04.out.drewN qn)
    have z5 := H_z4.out.fresh (fresh_drewN w4 qn)
    generalize w4.drewN qn = w5 at *
    have hi := H_hinc.out w5 v3 f05 z5
    have H_f05 := Lib.hid f05; clear f05
    have H_z5 := Lib.hid z5; clear z5
    have H_hi := Lib.hid hi; clear hi
    go_wp2_with (fail)
    refine H_hi.out.mono ?_
    rintro e w6 ⟨rfl, hb6⟩
    have H_hb6 := Lib.hid hb6; clear hb6
    go_wp2_with (fail)
    refine leaves_cons (f := 59) (args := #[.pointer (some ⟨b, 0, none⟩)]) (by simp) (by simp [go_sem]) ?_
    refine (putBint_idle _ _).mono ?_
    rintro e u' w'' ⟨rfl, rfl, rfl⟩
    refine ⟨.tuple #[], ?_, ?_⟩
    · simp [results, Tryz.results75]
    · exact ⟨rfl, by rw [H_hR1.out]; exact BSet.trans H_z5.out H_k05.out H_own03.out H_hb6.out⟩
  · rw [c1] at hcmp
    rcases Nat.mod_two_eq_zero_or_one q with ho | ho
    · have hR1 : R = q := by rw [H_hR.out, if_neg (by omega), Nat.add_zero]
      have hod := fun W V (hV : BI W g V q) => bisOdd_any g q V W hV
      rw [decide_eq_false (show ¬ q % 2 = 1 by omega)] at hod
      clear c1
      have H_c2 := Lib.hid c2; clear c2
      have H_ho := Lib.hid ho; clear ho
      have H_hcmp := Lib.hid hcmp; clear hcmp
      have H_hod := Lib.hid hod; clear hod
      have H_hR1 := Lib.hid hR1; clear hR1
      go_wp2_with (fail)
      refine H_hcmp.out.mono ?_
      rintro e w5 ⟨rfl, qn, rfl⟩
      have f05 := H_f04.out.drewN qn
      have H_k05 := Lib.hid (H_k04.out.drewN qn)
      have z5 := H_z4.out.fresh (fresh_drewN w4 qn)
      generalize w4.drewN qn = w5 at *
      have ho2 := H_hod.out w5 v3 z5
      have H_f05 := Lib.hid f05; clear f05
      have H_z5 := Lib.hid z5; clear z5
      have H_ho2 := Lib.hid ho2; clear ho2
      go_wp2_with (fail)
      refine H_ho2.out.mono ?_
      rintro e w6 ⟨rfl, rfl⟩
      go_wp2_with (fail)
      refine leaves_cons (f := 59) (args := #[.pointer (some ⟨b, 0, none⟩)]) (by simp) (by simp [go_sem]) ?_
      refine (putBint_idle _ _).mono ?_
      rintro e u' w'' ⟨rfl, rfl, rfl⟩
      refine ⟨.tuple #[], ?_, ?_⟩
      · simp [results, Tryz.results75]
      · exact ⟨rfl, by rw [H_hR1.out]; exact ⟨v3, H_z5.out, H_k05.out, H_own03.out⟩⟩
    · have hR1 : R = q + 1 := by rw [H_hR.out, if_pos (.inr ⟨c2.symm, ho⟩)]
      have hod := fun W V (hV : BI W g V q) => bisOdd_any g q V W hV
      rw [decide_eq_true ho] at hod
      clear c1
      have H_c2 := Lib.hid c2; clear c2
      have H_ho := Lib.hid ho; clear ho
      have H_hcmp := Lib.hid hcmp; clear hcmp
      have H_hod := Lib.hid hod; clear hod
      have H_hR1 := Lib.hid hR1; clear hR1
      go_wp2_with (fail)
      refine H_hcmp.out.mono ?_
      rintro e w5 ⟨rfl, qn, rfl⟩
      have f05 := H_f04.out.drewN qn
      have H_k05 := Lib.hid (H_k04.out.drewN qn)
      have z5 := H_z4.out.fresh (fresh_drewN w4 qn)
      generalize w4.drewN qn = w5 at *
      have hi := H_hinc.out w5 v3 f05 z5
      have ho2 := H_hod.out w5 v3 z5
      have H_f05 := Lib.hid f05; clear f05
      have H_z5 := Lib.hid z5; clear z5
      have H_hi := Lib.hid hi; clear hi
      have H_ho2 := Lib.hid ho2; clear ho2
      go_wp2_with (fail)
      refine H_ho2.out.mono ?_
      rintro e w6 ⟨rfl, rfl⟩
      go_wp2_with (fail)
      refine H_hi.out.mono ?_
      rintro e w7 ⟨rfl, hb6⟩
      have H_hb6 := Lib.hid hb6; clear hb6
      go_wp2_with (fail)
      refine leaves_cons (f := 59) (args := #[.pointer (some ⟨b, 0, none⟩)]) (by simp) (by simp [go_sem]) ?_
      refine (putBint_idle _ _).mono ?_
      rintro e u' w'' ⟨rfl, rfl, rfl⟩
      refine ⟨.tuple #[], ?_, ?_⟩
      · simp [results, Tryz.results75]
      · exact ⟨rfl, by rw [H_hR1.out]; exact BSet.trans H_z5.out H_k05.out H_own03.out H_hb6.out⟩
  · rw [c1] at hcmp
    have hR1 : R = q := by rw [H_hR.out, if_neg (by omega), Nat.add_zero]
    clear c1
    have H_c2 := Lib.hid c2; clear c2
    have H_hcmp := Lib.hid hcmp; clear hcmp
    have H_hR1 := Lib.hid hR1; clear hR1
    go_wp2_with (fail)
    refine H_hcmp.out.mono ?_
    rintro e w5 ⟨rfl, qn, rfl⟩
    have f05 := H_f04.out.drewN qn
    have H_k05 := Lib.hid (H_k04.out.drewN qn)
    have z5 := H_z4.out.fresh (fresh_drewN w4 qn)
    generalize w4.drewN qn = w5 at *
    have H_f05 := Lib.hid f05; clear f05
    have H_z5 := Lib.hid z5; clear z5
    go_wp2_with (fail)
    refine leaves_cons (f := 59) (args := #[.pointer (some ⟨b, 0, none⟩)]) (by simp) (by simp [go_sem]) ?_
    refine (putBint_idle _ _).mono ?_
    rintro e u' w'' ⟨rfl, rfl, rfl⟩
    refine ⟨.tuple #[], ?_, ?_⟩
    · simp [results, Tryz.results75]
    · exact ⟨rfl, by rw [H_hR1.out]; exact ⟨v3, H_z5.out, H_k05.out, H_own03.out⟩⟩

theorem brsh_all (w0 w : World) (g n s : Nat) (v : Value) (hG : Glob w0) (hP : Pow10s w0) (hf : Fresh w0 w) (hgl : w0.heap.size ≤ g) (hvl : ∀ k, v.ownBlock = some k → w0.heap.size ≤ k)
    (hn : n < wpow 39) (hs1 : 1 ≤ s) (hs : s ≤ 57) (hz : BI w g v n) :
    Calls Tryz.prog 75 #[.pointer (some ⟨g, 0, none⟩), .pointer (some ⟨g, 0, none⟩), .int .i64 s] w (fun e w' => e = .returned (.tuple #[]) ∧ BSet w g v (rhe n (10 ^ s)) w') := by
  rcases Nat.eq_zero_or_pos n with h0 | h0
  · subst h0
    have e : rhe 0 (10 ^ s) = 0 := rhe_exact (Nat.pow_pos (by omega)) (by rw [Nat.zero_mul])
    rw [e]
    exact brsh_zero g s v w hz
  · exact brsh_posL w0 w g n s v hG hP hf hgl hvl hn h0 hs1 hs hz

end Go.Proofs.YtjjolcjeiogdmabGreatDoor
