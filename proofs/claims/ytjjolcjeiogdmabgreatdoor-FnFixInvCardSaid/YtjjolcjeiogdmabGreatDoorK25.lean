/- The contracts of govalues' whole numbers of any length: Int.Mul, bpow10, mul, lsh. -/
import Derived.Test.YtjjolcjeiogdmabGreatDoorK6
import Derived.Test.YtjjolcjeiogdmabGreatDoorK10
import Derived.Test.YtjjolcjeiogdmabGreatDoorK22
import Derived.Test.YtjjolcjeiogdmabGreatDoorK23
import Derived.Test.YtjjolcjeiogdmabGreatDoorK24
namespace Go.Proofs.YtjjolcjeiogdmabGreatDoor
open Go.RowKit

theorem IntSet.ret {w : World} {b o : Nat} {vz : Value} {n : Int} {e : Ending} {w' : World} (h : IntSet w b o vz n e w') : IntRet w b o vz n (.returned (.pointer (some ⟨b, o, none⟩))) w' := ⟨rfl, h.2⟩

theorem Int_Mul (bz bx bY : Nat) (vz vx vy : Value) (nz nx ny : Nat) (w : World) (hG : Glob w) (hlx : nx < wpow 39) (hly : ny < wpow 39) (hne : bx ≠ bY)
    (hz : BI w bz vz nz) (hx : BI w bx vx nx) (hy : BI w bY vy ny) (hsx : Sep vz vx) (hsy : Sep vz vy) :
    Calls Tryz.prog 80 #[.pointer (some ⟨bz, 0, none⟩), .pointer (some ⟨bx, 0, none⟩), .pointer (some ⟨bY, 0, none⟩)] w (IntRet w bz 0 vz ((nx * ny : Nat) : Int)) := by
  obtain ⟨lz, hz, _⟩ := hz
  obtain ⟨lx, hx, rfl⟩ := hx
  obtain ⟨ly, hy, rfl⟩ := hy
  have h1 := hx.norm.len_lt hlx
  have h2 := hy.norm.len_lt hly
  have hc := Int_mul bz 0 bx 0 bY 0 false false false vz vx vy lz lx ly none w hG (by omega) (by omega) hne hz hx hy hsx hsy
  have e : ival false lx * ival false ly = ((val lx * val ly : Nat) : Int) := by simp [ival]
  rw [e] at hc
  clear hz hx hy hG hsx hsy hlx hly
  generalize ((val lx * val ly : Nat) : Int) = m at *
  have H_hc := Lib.hid hc; clear hc
  go_enter Tryz.func80, Tryz.ntmps80
  go_wp2_with (fail)
  refine H_hc.out.mono ?_
  intro e w1 hr
  have he := hr.1
  subst he
  have hr2 := hr.ret
  clear hr
  have H_hr2 := Lib.hid hr2; clear hr2
  go_wp2
  go_ret
  exact H_hr2.out

/-- the call returns a whole number of its own -/
def BRet (w : World) (n : Nat) (e : Ending) (w' : World) : Prop := ∃ g v, e = .returned (.pointer (some ⟨g, 0, none⟩)) ∧ BI w' g v n ∧ w.heap.size ≤ g ∧ (∀ k, v.ownBlock = some k → w.heap.size ≤ k) ∧ Fresh w w'

theorem BSet.fresh_of {w w1 w' : World} {g n : Nat} {vz : Value} (h : BSet w1 g vz n w') (hf : Fresh w w1) (hg : w.heap.size ≤ g) (hv : ∀ k, vz.ownBlock = some k → w.heap.size ≤ k) :
    ∃ v, BI w' g v n ∧ (∀ k, v.ownBlock = some k → w.heap.size ≤ k) ∧ Fresh w w' := by
  obtain ⟨v, h1, h2, h3⟩ := h
  refine ⟨v, h1, fun k hk => ?_, hf.trans h2 (fun _ _ h => h.elim) (fun k hk hs => ?_)⟩
  · rcases h3 k hk with h | h
    · exact hv k h
    · exact Nat.le_trans hf.size h
  · rcases hs with h | h
    · omega
    · have := hv k h; omega

theorem wpow_big {n : Nat} (h : n < 100000000000000000000000000000000000000000) : n < wpow 39 := by
  have h1 : 100000000000000000000000000000000000000000 ≤ wpow 3 := by unfold wpow; decide
  have h2 : wpow 3 ≤ wpow 39 := by unfold wpow; exact Nat.pow_le_pow_right (by omega) (by omega)
  omega

set_option maxRecDepth 20000 in
set_option maxHeartbeats 2000000 in
theorem bpow10_any (n : Nat) (w : World) (hG : Glob w) (hP : Pow10s w) (hn : n ≤ 19) : Calls Tryz.prog 69 #[.int .i64 n] w (BRet w (10 ^ n)) := by
  have t1 : decide ((n : Int) < 0) = false := by simp
  have t2 : decide ((100 : Int) ≤ (n : Int)) = false := by simp; omega
  have t3 : decide ((19 : Int) < (n : Int)) = false := by simp; omega
  have hcl := hP n (by omega)
  have hxl : 10 ^ n < 18446744073709551616 := by
    have : 10 ^ n ≤ 10 ^ 19 := Nat.pow_le_pow_right (by omega) hn
    omega
  obtain ⟨x, hx⟩ : ∃ x, x = 10 ^ n := ⟨_, rfl⟩
  rw [← hx] at hcl hxl ⊢
  obtain ⟨g, hg⟩ : ∃ g, g = w.heap.size := ⟨_, rfl⟩
  have bx := box1 w #[.bool false, .slice none 0 0] 107 g hg
  have hGs := hG.size
  have H_bx := Lib.hid bx; clear bx
  have H_hG := Lib.hid hG; clear hG
  have H_hP := Lib.hid hP; clear hP
  have H_hx := Lib.hid hx; clear hx
  have H_hcl := Lib.hid hcl; clear hcl
  have H_hGs := Lib.hid hGs; clear hGs
  go_enter Tryz.func69, Tryz.ntmps69
  go_wp2_with (fail)
  generalize hw1 : w.alloc _ = w1
  rw [← hg]
  obtain ⟨b1, hf⟩ := H_bx.out w1 hw1
  have hb0 := IntIs.new b1 (by have := H_hGs.out; omega)
  have H_b1 := Lib.hid b1; clear b1
  have H_hw1 := Lib.hid hw1; clear hw1
  have H_hg := Lib.hid hg; clear hg
  have H_hf := Lib.hid hf; clear hf
  refine (SetUint64_any g false _ [] 1 _ (by omega) hb0).mono ?_
  clear hb0
  intro e w2 hr
  obtain ⟨rfl, hb⟩ := hr.bset
  clear hr
  obtain ⟨v, b2, ov, f2⟩ := hb.fresh_of H_hf.out (by have := H_hg.out; omega) (fun k h => by simp [Value.ownBlock] at h)
  clear hb
  have H_b2 := Lib.hid b2; clear b2
  have H_ov := Lib.hid ov; clear ov
  have H_f2 := Lib.hid f2; clear f2
  go_wp2_with (fail)
  go_loopw [0] (fun i wr => i = .int .i64 n ∧ wr = w2) (fun _ _ => 0)
  case atStart => exact ⟨rfl, rfl⟩
  case round =>
    obtain ⟨rfl, rfl⟩ := hrel
    obtain ⟨h, hh⟩ : ∃ h, h = wr.heap.size := ⟨_, rfl⟩
    have by_ := box1 wr #[.bool false, .slice none 0 0] 107 h hh
    have hc2 := cell_fresh (cell_fresh H_hcl.out H_f2.out) ((Keep.refl (fun _ => False) wr).alloc (.cells #[.bool false, .slice none 0 0] 107))
    have H_by_ := Lib.hid by_; clear by_
    go_wp2_with (fail)
    generalize hw3 : wr.alloc _ = w3
    rw [← hh]
    obtain ⟨b3, hf3⟩ := H_by_.out w3 hw3
    have hb0 := IntIs.new b3 (by have := H_hGs.out; have := H_f2.out.size; omega)
    have b2' := H_b2.out.fresh hf3
    have H_b3 := Lib.hid b3; clear b3
    have H_hw3 := Lib.hid hw3; clear hw3
    have H_hh := Lib.hid hh; clear hh
    have H_hf3 := Lib.hid hf3; clear hf3
    have H_b2' := Lib.hid b2'; clear b2'
    clear hc2
    refine (SetUint64_any h false _ [] x _ hxl hb0).mono ?_
    clear hb0
    intro e w4 hr
    obtain ⟨rfl, hb4⟩ := hr.bset
    clear hr
    have hne : g ≠ h := by have := H_b2.out.lt; have := H_hh.out; omega
    obtain ⟨v4, b4, o4, f4⟩ := hb4.fresh_of H_hf3.out (by have := H_hh.out; omega) (fun k h => by simp [Value.ownBlock] at h)
    have c4 := H_b2.out.fresh f4
    have hsep : Sep v v4 := .inr (fun k hk e => by have := H_b2.out.own_lt hk; have := o4 k e; omega)
    have hG4 := (H_hG.out.fresh H_f2.out).fresh f4
    have f24 := fresh_trans H_f2.out f4
    clear hb4
    have H_b4 := Lib.hid b4; clear b4
    have H_o4 := Lib.hid o4; clear o4
    have H_f4 := Lib.hid f4; clear f4
    have H_c4 := Lib.hid c4; clear c4
    have H_hsep := Lib.hid hsep; clear hsep
    have H_hG4 := Lib.hid hG4; clear hG4
    have H_f24 := Lib.hid f24; clear f24
    go_wp2_with (fail)
    refine (Int_Mul g g h v v v4 1 1 x _ H_hG4.out (wpow_big (by omega)) (wpow_big (by omega)) hne H_c4.out H_c4.out H_b4.out (.inl rfl) H_hsep.out).mono ?_
    intro e w5 hr
    obtain ⟨rfl, hb5⟩ := hr.bset
    clear hr
    rw [Nat.one_mul] at hb5
    obtain ⟨v5, b5, o5, f5⟩ := hb5.fresh_of H_f24.out (by have := H_hg.out; omega) H_ov.out
    clear hb5
    have H_b5 := Lib.hid b5; clear b5
    have H_o5 := Lib.hid o5; clear o5
    have H_f5 := Lib.hid f5; clear f5
    go_wp2_with (fail)
    go_ret
    exact ⟨g, v5, rfl, H_b5.out, by have := H_hg.out; omega, H_o5.out, H_f5.out⟩

end Go.Proofs.YtjjolcjeiogdmabGreatDoor

/- The contracts of govalues' whole numbers of any length: mul, lsh, cmp. -/
namespace Go.Proofs.YtjjolcjeiogdmabGreatDoor
open Go.RowKit

theorem putBint_idle (v : Value) (w : World) :
    CallsD Tryz.prog 59 #[v] .returning w fun e u' w' => e = .returned (.tuple #[]) ∧ u' = .returning ∧ w' = w := by
  refine callsD_of_wpS Tryz.func59 rfl fun c₀ cs hu => ?_
  refine wpS_of_wp (wp_skip ?_)
  cases c₀
  simp_all [bodyPostS, results, Tryz.results59]

set_option maxRecDepth 20000 in
theorem setBint_any (g h : Nat) (vz vx : Value) (m n : Nat) (w : World) (hn : n < wpow 39) (hne : g ≠ h) (hz : BI w g vz m) (hx : BI w h vx n) (hs : Sep vz vx) :
    Calls Tryz.prog 83 #[.pointer (some ⟨g, 0, none⟩), .pointer (some ⟨h, 0, none⟩)] w (fun e w' => e = .returned (.tuple #[]) ∧ BSet w g vz n w') := by
  obtain ⟨lz, hz, _⟩ := hz
  obtain ⟨lx, hx, rfl⟩ := hx
  have h1 := hx.norm.len_lt hn
  have hc := Set_any g h vz vx lz lx w (by omega) hne hz hx hs
  clear hz hx hs
  have H_hc := Lib.hid hc; clear hc
  go_enter Tryz.func83, Tryz.ntmps83
  go_wp2_with (fail)
  refine H_hc.out.mono ?_
  intro e w1 hr
  obtain ⟨rfl, hb⟩ := hr.bset
  clear hr
  have H_hb := Lib.hid hb; clear hb
  go_wp2
  go_end0
  exact ⟨rfl, H_hb.out⟩

theorem BI.eql_ne {w : World} {g h m n : Nat} {v u : Value} (h1 : BI w g v m) (h2 : BI w h u n) (hne : g ≠ h) :
    (binOp .eql 95 (.pointer (some ⟨g, 0, none⟩)) (.pointer (some ⟨h, 0, none⟩))).run Tryz.prog w = .ok (.bool false) w := by
  obtain ⟨l, h1, _⟩ := h1
  obtain ⟨k, h2, _⟩ := h2
  exact StrAt.eql_ne h1.str h2.str hne Tryz.underlying95 (by kernel_rfl)

theorem bint_eql_self (w : World) (a : Addr) : (binOp .eql 95 (.pointer (some a)) (.pointer (some a))).run Tryz.prog w = .ok (.bool true) w := by
  cases hq : Tryz.prog.info? 241 with
  | none => exact absurd hq (by intro h; have : (Tryz.prog.info? 241).isSome = true := by kernel_rfl
                                rw [h] at this; cases this)
  | some i => exact run_eql_ptr_same w a Tryz.underlying95 hq

set_option maxRecDepth 20000 in
set_option maxHeartbeats 2000000 in
theorem mul_self (g h : Nat) (v u : Value) (n m : Nat) (w : World) (hG : Glob w) (hn : n < wpow 39) (hm : m < wpow 39) (hne : g ≠ h) (hz : BI w g v n) (hy : BI w h u m) (hs : Sep v u) :
    Calls Tryz.prog 71 #[.pointer (some ⟨g, 0, none⟩), .pointer (some ⟨g, 0, none⟩), .pointer (some ⟨h, 0, none⟩)] w (fun e w' => e = .returned (.tuple #[]) ∧ BSet w g v (n * m) w') := by
  have heq := bint_eql_self w ⟨g, 0, none⟩
  have hGs := hG.size
  obtain ⟨b, hb⟩ : ∃ b, b = w.heap.size := ⟨_, rfl⟩
  have hgb := getBint_any w hGs
  rw [← hb] at hgb
  have H_hG := Lib.hid hG; clear hG
  have H_hz := Lib.hid hz; clear hz
  have H_hy := Lib.hid hy; clear hy
  have H_hs := Lib.hid hs; clear hs
  have H_hGs := Lib.hid hGs; clear hGs
  have H_hgb := Lib.hid hgb; clear hgb
  have H_hb := Lib.hid hb; clear hb
  go_enter_defers Tryz.func71, Tryz.ntmps71
  go_wp2_with (fail)
  clear heq
  refine H_hgb.out.mono ?_
  rintro e w1 ⟨rfl, b1, f1, s1⟩
  have z1 := H_hz.out.fresh f1
  have y1 := H_hy.out.fresh f1
  have hgb1 : b ≠ g := by have := H_hz.out.lt; have := H_hb.out; omega
  have hgb2 : b ≠ h := by have := H_hy.out.lt; have := H_hb.out; omega
  have H_b1 := Lib.hid b1; clear b1
  have H_f1 := Lib.hid f1; clear f1
  have H_s1 := Lib.hid s1; clear s1
  have H_z1 := Lib.hid z1; clear z1
  have H_y1 := Lib.hid y1; clear y1
  go_wp2_with (fail)
  refine (setBint_any b g _ v 0 n _ hn hgb1 H_b1.out H_z1.out (Sep.nil v)).mono ?_
  rintro e w2 ⟨rfl, hb2⟩
  obtain ⟨vb, b2, o2, f2⟩ := hb2.fresh_of H_f1.out (by have := H_hb.out; omega) (fun k h => by simp [Value.ownBlock] at h)
  clear hb2
  have z2 := H_hz.out.fresh f2
  have y2 := H_hy.out.fresh f2
  have heq2 := z2.eql_ne y2 hne
  have hGa := H_hG.out.fresh f2
  have sp1 : Sep v vb := .inr (fun k hk e => by have := H_hz.out.own_lt hk; have := o2 k e; omega)
  have H_b2 := Lib.hid b2; clear b2
  have H_o2 := Lib.hid o2; clear o2
  have H_f2 := Lib.hid f2; clear f2
  have H_z2 := Lib.hid z2; clear z2
  have H_y2 := Lib.hid y2; clear y2
  have H_hGa := Lib.hid hGa; clear hGa
  have H_sp1 := Lib.hid sp1; clear sp1
  go_wp2_with (fail)
  clear heq2
  refine (Int_Mul g b h v vb u n n m _ H_hGa.out hn hm hgb2 H_z2.out H_b2.out H_y2.out H_sp1.out H_hs.out).mono ?_
  intro e w3 hr
  obtain ⟨rfl, v3, b3, k3, o3⟩ := hr.bset
  clear hr
  have k30 : Keep (fun k => k = g ∨ v.ownBlock = some k) w w3 := H_f2.out.trans k3 (fun _ _ h => h.elim) (fun _ _ h => h)
  have o30 : ∀ k, v3.ownBlock = some k → v.ownBlock = some k ∨ w.heap.size ≤ k := fun k hk => by
    rcases o3 k hk with h | h
    · exact .inl h
    · exact .inr (Nat.le_trans H_f2.out.size h)
  clear k3 o3
  have H_b3 := Lib.hid b3; clear b3
  have H_k30 := Lib.hid k30; clear k30
  have H_o30 := Lib.hid o30; clear o30
  go_wp2_with (fail)
  refine leaves_cons (f := 59) (args := #[.pointer (some ⟨b, 0, none⟩)]) (by simp) (by simp [go_sem]) ?_
  refine (putBint_idle _ _).mono ?_
  rintro e u' w'' ⟨rfl, rfl, rfl⟩
  refine ⟨.tuple #[], ?_, ?_⟩
  · simp [results, Tryz.results71]
  · exact ⟨rfl, v3, H_b3.out, H_k30.out, H_o30.out⟩

set_option maxRecDepth 20000 in
theorem lsh_self (g : Nat) (v : Value) (n s : Nat) (w : World) (hG : Glob w) (hP : Pow10s w) (hn : n < wpow 39) (hs : s ≤ 19) (hz : BI w g v n) :
    Calls Tryz.prog 61 #[.pointer (some ⟨g, 0, none⟩), .pointer (some ⟨g, 0, none⟩), .int .i64 s] w (fun e w' => e = .returned (.tuple #[]) ∧ BSet w g v (n * 10 ^ s) w') := by
  have t1 : decide ((s : Int) < 100) = true := by simp; omega
  have hxl : 10 ^ s < wpow 39 := wpow_big (by have : 10 ^ s ≤ 10 ^ 19 := Nat.pow_le_pow_right (by omega) hs; omega)
  have H_hG := Lib.hid hG; clear hG
  have H_hP := Lib.hid hP; clear hP
  have H_hz := Lib.hid hz; clear hz
  have H_hxl := Lib.hid hxl; clear hxl
  go_enter_defers Tryz.func61, Tryz.ntmps61
  go_wp2_with (fail)
  refine (bpow10_any s _ H_hG.out H_hP.out hs).mono ?_
  rintro e w1 ⟨h, u, rfl, b1, l1, o1, f1⟩
  have z1 := H_hz.out.fresh f1
  have hG1 := H_hG.out.fresh f1
  have hne : g ≠ h := by have := H_hz.out.lt; omega
  have sp : Sep v u := .inr (fun k hk e => by have := H_hz.out.own_lt hk; have := o1 k e; omega)
  have H_b1 := Lib.hid b1; clear b1
  have H_l1 := Lib.hid l1; clear l1
  have H_o1 := Lib.hid o1; clear o1
  have H_f1 := Lib.hid f1; clear f1
  have H_z1 := Lib.hid z1; clear z1
  have H_hG1 := Lib.hid hG1; clear hG1
  have H_sp := Lib.hid sp; clear sp
  go_wp2_with (fail)
  refine (mul_self g h v u n (10 ^ s) _ H_hG1.out hn H_hxl.out hne H_z1.out H_b1.out H_sp.out).mono ?_
  rintro e w2 ⟨rfl, v2, b2, k2, o2⟩
  have k20 : Keep (fun k => k = g ∨ v.ownBlock = some k) w w2 := H_f1.out.trans k2 (fun _ _ h => h.elim) (fun _ _ h => h)
  have o20 : ∀ k, v2.ownBlock = some k → v.ownBlock = some k ∨ w.heap.size ≤ k := fun k hk => by
    rcases o2 k hk with h | h
    · exact .inl h
    · exact .inr (Nat.le_trans H_f1.out.size h)
  clear k2 o2
  have H_b2 := Lib.hid b2; clear b2
  have H_k20 := Lib.hid k20; clear k20
  have H_o20 := Lib.hid o20; clear o20
  go_wp2_with (fail)
  refine ⟨.tuple #[], ?_, ?_⟩
  · simp [results, Tryz.results61]
  · exact ⟨rfl, v2, H_b2.out, H_k20.out, H_o20.out⟩

set_option maxRecDepth 20000 in
set_option maxHeartbeats 2000000 in
theorem IntCmp_any (g h : Nat) (v u : Value) (n m : Nat) (w : World) (hn : n < wpow 39) (hm : m < wpow 39) (hne : g ≠ h) (hx : BI w g v n) (hy : BI w h u m) :
    Calls Tryz.prog 99 #[.pointer (some ⟨g, 0, none⟩), .pointer (some ⟨h, 0, none⟩)] w (Quiet w (.int .i64 (cmpN n m))) := by
  obtain ⟨l, hx, rfl⟩ := hx
  obtain ⟨k, hy, rfl⟩ := hy
  have h1 := hx.norm.len_lt hn
  have h2 := hy.norm.len_lt hm
  have heq : (binOp .eql 103 (.pointer (some ⟨g, 0, none⟩)) (.pointer (some ⟨h, 0, none⟩))).run Tryz.prog w = .ok (.bool false) w := StrAt.eql_ne hx.str hy.str hne Tryz.underlying103 (by kernel_rfl)
  have cx0 := hx.str.c0; have cx1 := hx.str.c1; have cy0 := hy.str.c0; have cy1 := hy.str.c1
  rw [Nat.zero_add] at cx1 cy1
  clear hn hm
  have H_hx := Lib.hid hx; clear hx
  have H_hy := Lib.hid hy; clear hy
  go_enter Tryz.func99, Tryz.ntmps99
  go_wp2_with (go_quiet (fail))
  have hx2 := H_hx.out.drewN nq
  have hy2 := H_hy.out.drewN nq
  clear H_hx H_hy cx0 cx1 cy0 cy1 heq
  generalize hwq : w.drewN nq = wq at *
  have cx0 := hx2.str.c0; have cx1 := hx2.str.c1; have cy0 := hy2.str.c0; have cy1 := hy2.str.c1
  rw [Nat.zero_add] at cx1 cy1
  have hcmp : ∀ q, Calls Tryz.prog 111 #[v, u] (wq.drewN q) (Quiet (wq.drewN q) (.int .i64 (cmpN (val l) (val k)))) := fun q => nat_cmp v u l k _ (by omega) (by omega) hx2.nat hy2.nat hx2.norm hy2.norm
  generalize cmpN (val l) (val k) = r at *
  have H_hwq := Lib.hid hwq
  clear hwq
  have H_hx2 := Lib.hid hx2; clear hx2
  have H_hy2 := Lib.hid hy2; clear hy2
  have H_hcmp := Lib.hid hcmp; clear hcmp
  go_wp2_with (go_quiet ((go_at_call 111; exact quietOf (H_hcmp.out _))))
  go_ret
  refine ⟨rfl, ?_⟩
  rw [← H_hwq.out, World.drewN_drewN]
  exact ⟨_, rfl⟩

theorem bcmp_any (g h : Nat) (v u : Value) (n m : Nat) (w : World) (hn : n < wpow 39) (hm : m < wpow 39) (hne : g ≠ h) (hx : BI w g v n) (hy : BI w h u m) :
    Calls Tryz.prog 85 #[.pointer (some ⟨g, 0, none⟩), .pointer (some ⟨h, 0, none⟩)] w (Quiet w (.int .i64 (cmpN n m))) := by
  have hc := IntCmp_any g h v u n m w hn hm hne hx hy
  clear hx hy hn hm
  generalize cmpN n m = r at *
  have H_hc := Lib.hid hc; clear hc
  go_enter Tryz.func85, Tryz.ntmps85
  go_wp2_with (fail)
  refine H_hc.out.mono ?_
  rintro e w1 ⟨rfl, q, rfl⟩
  go_wp2
  go_ret
  exact ⟨rfl, q, rfl⟩

end Go.Proofs.YtjjolcjeiogdmabGreatDoor

/- bpow10 for all powers that are kept, and the number of digits of a bint. -/
namespace Go.Proofs.YtjjolcjeiogdmabGreatDoor
open Go.RowKit

theorem wpow_ten {n : Nat} (h : n ≤ 120) : 10 ^ n < wpow 39 := by
  have h1 : 10 ^ n ≤ 10 ^ 120 := Nat.pow_le_pow_right (by omega) h
  have h2 : 10 ^ 120 < wpow 39 := by unfold wpow; decide
  omega

set_option maxRecDepth 20000 in
set_option maxHeartbeats 4000000 in
theorem bpow10_all (n : Nat) (w : World) (hG : Glob w) (hP : Pow10s w) (hn : n < 100) : Calls Tryz.prog 69 #[.int .i64 n] w (BRet w (10 ^ n)) := by
  have t1 : decide ((n : Int) < 0) = false := by simp
  have t2 : decide ((100 : Int) ≤ (n : Int)) = false := by simp; omega
  obtain ⟨g, hg⟩ : ∃ g, g = w.heap.size := ⟨_, rfl⟩
  have bx := box1 w #[.bool false, .slice none 0 0] 107 g hg
  have hGs := hG.size
  have H_bx := Lib.hid bx; clear bx
  have H_hG := Lib.hid hG; clear hG
  have H_hP := Lib.hid hP; clear hP
  have H_hGs := Lib.hid hGs; clear hGs
  go_enter Tryz.func69, Tryz.ntmps69
  go_wp2_with (fail)
  generalize hw1 : w.alloc _ = w1
  rw [← hg]
  obtain ⟨b1, hf⟩ := H_bx.out w1 hw1
  have hb0 := IntIs.new b1 (by have := H_hGs.out; omega)
  have H_b1 := Lib.hid b1; clear b1
  have H_hw1 := Lib.hid hw1; clear hw1
  have H_hg := Lib.hid hg; clear hg
  have H_hf := Lib.hid hf; clear hf
  refine (SetUint64_any g false _ [] 1 _ (by omega) hb0).mono ?_
  clear hb0
  intro e w2 hr
  obtain ⟨rfl, hb⟩ := hr.bset
  clear hr
  obtain ⟨v, b2, ov, f2⟩ := hb.fresh_of H_hf.out (by have := H_hg.out; omega) (fun k h => by simp [Value.ownBlock] at h)
  clear hb
  have H_b2 := Lib.hid b2; clear b2
  have H_ov := Lib.hid ov; clear ov
  have H_f2 := Lib.hid f2; clear f2
  go_wp2_with (fail)
  go_loopw [0] (fun i wr => ∃ (k m : Nat) (v : Value), i = .int .i64 k ∧ m + k = n ∧ Hid (BI wr g v (10 ^ m)) ∧ Hid (∀ k, v.ownBlock = some k → w.heap.size ≤ k) ∧ Hid (Fresh w wr)) (fun i _ => (intOf i).toNat)
  case atStart => exact ⟨n, 0, v, rfl, by omega, H_b2, H_ov, H_f2⟩
  case round =>
    obtain ⟨k, m, v, rfl, hmk, hb2, hov, hf2⟩ := hrel
    have hcl := H_hP.out (if 19 < k then 19 else k) (by split <;> omega)
    have hxl : 10 ^ (if 19 < k then 19 else k) < 18446744073709551616 := by
      have : 10 ^ (if 19 < k then 19 else k) ≤ 10 ^ 19 := Nat.pow_le_pow_right (by omega) (by split <;> omega)
      omega
    have hm120 : 10 ^ m < wpow 39 := wpow_ten (by omega)
    have hmul : 10 ^ m * 10 ^ (if 19 < k then 19 else k) = 10 ^ (m + (if 19 < k then 19 else k)) := by rw [← Nat.pow_add]
    obtain ⟨h, hh⟩ : ∃ h, h = wr.heap.size := ⟨_, rfl⟩
    have by_ := box1 wr #[.bool false, .slice none 0 0] 107 h hh
    have hc2 := cell_fresh (cell_fresh hcl hf2.out) ((Keep.refl (fun _ => False) wr).alloc (.cells #[.bool false, .slice none 0 0] 107))
    by_cases hk : 19 < k
    · rw [if_pos hk] at hcl hxl hmul hc2
      obtain ⟨x, hx⟩ : ∃ x, x = 10 ^ 19 := ⟨_, rfl⟩
      obtain ⟨q, hq⟩ : ∃ q, q = k - 19 := ⟨_, rfl⟩
      have hqI : (k : Int) - 19 = (q : Int) := by omega
      have t3 : decide ((19 : Int) < (k : Int)) = true := by simp; omega
      rw [← hx] at hcl hxl hmul hc2
      clear hcl
      have H_by_ := Lib.hid by_; clear by_
      have H_hxl := Lib.hid hxl; clear hxl
      have H_hmul := Lib.hid hmul; clear hmul
      have H_hx := Lib.hid hx; clear hx
      have H_hq := Lib.hid hq; clear hq
      have H_hm120 := Lib.hid hm120; clear hm120
      go_wp2_with (fail)
      generalize hw3 : wr.alloc _ = w3
      rw [← hh]
      obtain ⟨b3, hf3⟩ := H_by_.out w3 hw3
      have hb0 := IntIs.new b3 (by have := H_hGs.out; have := hf2.out.size; omega)
      have H_b3 := Lib.hid b3; clear b3
      have H_hw3 := Lib.hid hw3; clear hw3
      have H_hh := Lib.hid hh; clear hh
      have H_hf3 := Lib.hid hf3; clear hf3
      clear hc2
      refine (SetUint64_any h false _ [] x _ H_hxl.out hb0).mono ?_
      clear hb0
      intro e w4 hr
      obtain ⟨rfl, hb4⟩ := hr.bset
      clear hr
      have hne : g ≠ h := by have := hb2.out.lt; have := H_hh.out; omega
      obtain ⟨v4, b4, o4, f4⟩ := hb4.fresh_of H_hf3.out (by have := H_hh.out; omega) (fun k h => by simp [Value.ownBlock] at h)
      have c4 := hb2.out.fresh f4
      have hsep : Sep v v4 := .inr (fun k hk e => by have := hb2.out.own_lt hk; have := o4 k e; omega)
      have hG4 := (H_hG.out.fresh hf2.out).fresh f4
      have f24 := fresh_trans hf2.out f4
      clear hb4
      have H_b4 := Lib.hid b4; clear b4
      have H_o4 := Lib.hid o4; clear o4
      have H_f4 := Lib.hid f4; clear f4
      have H_c4 := Lib.hid c4; clear c4
      have H_hsep := Lib.hid hsep; clear hsep
      have H_hG4 := Lib.hid hG4; clear hG4
      have H_f24 := Lib.hid f24; clear f24
      go_wp2_with (fail)
      refine (Int_Mul g g h v v v4 (10 ^ m) (10 ^ m) x _ H_hG4.out H_hm120.out (wpow_big (by have := H_hxl.out; omega)) hne H_c4.out H_c4.out H_b4.out (.inl rfl) H_hsep.out).mono ?_
      intro e w5 hr
      obtain ⟨rfl, hb5⟩ := hr.bset
      clear hr
      rw [H_hmul.out] at hb5
      obtain ⟨v5, b5, o5, f5⟩ := hb5.fresh_of H_f24.out (by have := H_hg.out; omega) hov.out
      clear hb5
      have H_b5 := Lib.hid b5; clear b5
      have H_o5 := Lib.hid o5; clear o5
      have H_f5 := Lib.hid f5; clear f5
      go_wp2_with (fail)
      go_roundw
      case rel => exact ⟨q, m + 19, v5, by simp, by have := H_hq.out; omega, H_b5, H_o5, H_f5⟩
      case measure => simp [intOf]; have := H_hq.out; omega
    · rw [if_neg hk] at hcl hxl hmul hc2
      obtain ⟨x, hx⟩ : ∃ x, x = 10 ^ k := ⟨_, rfl⟩
      have t3 : decide ((19 : Int) < (k : Int)) = false := by simp; omega
      rw [hmk] at hmul
      rw [← hx] at hcl hxl hmul hc2
      clear hcl
      have H_by_ := Lib.hid by_; clear by_
      have H_hxl := Lib.hid hxl; clear hxl
      have H_hmul := Lib.hid hmul; clear hmul
      have H_hx := Lib.hid hx; clear hx
      have H_hm120 := Lib.hid hm120; clear hm120
      go_wp2_with (fail)
      generalize hw3 : wr.alloc _ = w3
      rw [← hh]
      obtain ⟨b3, hf3⟩ := H_by_.out w3 hw3
      have hb0 := IntIs.new b3 (by have := H_hGs.out; have := hf2.out.size; omega)
      have H_b3 := Lib.hid b3; clear b3
      have H_hw3 := Lib.hid hw3; clear hw3
      have H_hh := Lib.hid hh; clear hh
      have H_hf3 := Lib.hid hf3; clear hf3
      clear hc2
      refine (SetUint64_any h false _ [] x _ H_hxl.out hb0).mono ?_
      clear hb0
      intro e w4 hr
      obtain ⟨rfl, hb4⟩ := hr.bset
      clear hr
      have hne : g ≠ h := by have := hb2.out.lt; have := H_hh.out; omega
      obtain ⟨v4, b4, o4, f4⟩ := hb4.fresh_of H_hf3.out (by have := H_hh.out; omega) (fun k h => by simp [Value.ownBlock] at h)
      have c4 := hb2.out.fresh f4
      have hsep : Sep v v4 := .inr (fun k hk e => by have := hb2.out.own_lt hk; have := o4 k e; omega)
      have hG4 := (H_hG.out.fresh hf2.out).fresh f4
      have f24 := fresh_trans hf2.out f4
      clear hb4
      have H_b4 := Lib.hid b4; clear b4
      have H_o4 := Lib.hid o4; clear o4
      have H_f4 := Lib.hid f4; clear f4
      have H_c4 := Lib.hid c4; clear c4
      have H_hsep := Lib.hid hsep; clear hsep
      have H_hG4 := Lib.hid hG4; clear hG4
      have H_f24 := Lib.hid f24; clear f24
      go_wp2_with (fail)
      refine (Int_Mul g g h v v v4 (10 ^ m) (10 ^ m) x _ H_hG4.out H_hm120.out (wpow_big (by have := H_hxl.out; omega)) hne H_c4.out H_c4.out H_b4.out (.inl rfl) H_hsep.out).mono ?_
      intro e w5 hr
      obtain ⟨rfl, hb5⟩ := hr.bset
      clear hr
      rw [H_hmul.out] at hb5
      obtain ⟨v5, b5, o5, f5⟩ := hb5.fresh_of H_f24.out (by have := H_hg.out; omega) hov.out
      clear hb5
      have H_b5 := Lib.hid b5; clear b5
      have H_o5 := Lib.hid o5; clear o5
      have H_f5 := Lib.hid f5; clear f5
      go_wp2_with (fail)
      go_ret
      exact ⟨g, v5, rfl, H_b5.out, by have := H_hg.out; omega, H_o5.out, H_f5.out⟩

end Go.Proofs.YtjjolcjeiogdmabGreatDoor

/- bint: sign, isOdd, fint, quoRem, add, sub, subAbs, inc. -/
namespace Go.Proofs.YtjjolcjeiogdmabGreatDoor
open Go.RowKit

/-- a number's words: none, or one at least, of which the first lies in a block -/
theorem BI.words {w : World} {g n : Nat} {v : Value} (h : BI w g v n) :
    (n = 0 ∧ ∃ a c, v = .slice a 0 c) ∨ (0 < n ∧ ∃ gx ox cx m, v = .slice (some ⟨gx, ox, none⟩) (m + 1 : Nat) cx ∧ w.cell? ⟨gx, ox, none⟩ = some (wd .u64 (n % 18446744073709551616)) ∧ (n < 18446744073709551616 → m = 0)) := by
  obtain ⟨l, hi, rfl⟩ := h
  by_cases h0 : l.length = 0
  · obtain ⟨a, c, hv⟩ := hi.nat.form
    rw [h0] at hv
    exact .inl ⟨by rw [List.eq_nil_of_length_eq_zero h0]; rfl, a, c, hv⟩
  · obtain ⟨gx, ox, cx, M, rfl, bx, h1, h2, h3, h4⟩ := hi.nat.open_pos (by omega)
    right
    obtain ⟨m, hm⟩ : ∃ m, l.length = m + 1 := ⟨l.length - 1, by omega⟩
    have hp : 0 < val l := by
      rcases Nat.eq_zero_or_pos (val l) with h | h
      · have := val_nil_of hi.norm h
        rw [this] at h0; simp at h0
      · exact h
    refine ⟨hp, gx, ox, cx, m, by rw [hm], ?_, ?_⟩
    · have hc := bx.cell (o := ox) (by omega)
      have hs : l = M.getD ox 0 :: seg M (ox + 1) m := by
        conv => lhs; rw [h3, hm]
        exact seg_head (by omega)
      have hlt := getD_lt h4 pos64 ox
      have hv : val l % 18446744073709551616 = M.getD ox 0 := by
        rw [hs]
        simp only [val]
        rw [Nat.add_mul_mod_self_left, Nat.mod_eq_of_lt hlt]
      rw [hv]; exact hc
    · intro hlt
      have := hi.norm.len_le (k := 1) (by unfold wpow; omega)
      omega

set_option maxRecDepth 20000 in
theorem IntSign_any (g n : Nat) (v : Value) (w : World) (hx : BI w g v n) :
    Calls Tryz.prog 101 #[.pointer (some ⟨g, 0, none⟩)] w (fun e w' => e = .returned (.int .i64 (if n = 0 then 0 else 1)) ∧ w' = w) := by
  have hw := hx.words
  obtain ⟨l, hi, _⟩ := hx
  have c0 := hi.str.c0
  have c1 : w.cell? ⟨g, 1, none⟩ = some v := hi.str.c1
  clear hi
  rcases hw with ⟨h0, a, c, rfl⟩ | ⟨h0, gx, ox, cx, m, rfl, hc, _⟩
  · rw [if_pos h0]
    clear h0
    go_enter Tryz.func101, Tryz.ntmps101
    go_wp2
    go_ret
    exact ⟨rfl, rfl⟩
  · have t1 : (((m + 1 : Nat) : Int) == 0) = false := by rw [beq_eq_false_iff_ne]; omega
    rw [if_neg (by omega)]
    generalize ((m + 1 : Nat) : Int) = k at *
    clear h0 hc
    go_enter Tryz.func101, Tryz.ntmps101
    go_wp2
    go_ret
    exact ⟨rfl, rfl⟩

theorem bsign_any (g n : Nat) (v : Value) (w : World) (hx : BI w g v n) :
    Calls Tryz.prog 87 #[.pointer (some ⟨g, 0, none⟩)] w (fun e w' => e = .returned (.int .i64 (if n = 0 then 0 else 1)) ∧ w' = w) := by
  have h := IntSign_any g n v w hx
  generalize (if n = 0 then (0 : Int) else 1) = r at *
  have H_h := Lib.hid h; clear h
  have H_hx := Lib.hid hx; clear hx
  go_enter Tryz.func87, Tryz.ntmps87
  go_wp2_with (fail)
  refine H_h.out.mono ?_
  rintro e w2 ⟨rfl, rfl⟩
  go_wp2
  go_ret
  exact ⟨rfl, rfl⟩

set_option maxRecDepth 20000 in
theorem Bit_any (g n : Nat) (v : Value) (w : World) (hx : BI w g v n) :
    Calls Tryz.prog 104 #[.pointer (some ⟨g, 0, none⟩), .int .i64 0] w (fun e w' => e = .returned (.int .u64 ((n % 2 : Nat) : Int)) ∧ w' = w) := by
  have hw := hx.words
  obtain ⟨l, hi, _⟩ := hx
  have c1 : w.cell? ⟨g, 1, none⟩ = some v := hi.str.c1
  clear hi
  rcases hw with ⟨rfl, a, c, rfl⟩ | ⟨h0, gx, ox, cx, m, rfl, hc, _⟩
  · go_enter Tryz.func104, Tryz.ntmps104
    go_wp2
    go_ret
    exact ⟨rfl, rfl⟩
  · have t1 : decide ((0 : Int) < ((m + 1 : Nat) : Int)) = true := decide_eq_true (by omega)
    have t2 : (0 : Int) < ((m + 1 : Nat) : Int) := by omega
    have hb : bits BinOp.and IntKind.u64 ((n % 18446744073709551616 : Nat) : Int) 1 = ((n % 18446744073709551616 % 2 : Nat) : Int) := by rw [and_one_u64 _ (by omega) (by omega)]; omega
    have e2 : n % 18446744073709551616 % 2 = n % 2 := Nat.mod_mod_of_dvd _ ⟨9223372036854775808, rfl⟩
    rw [e2] at hb
    generalize n % 18446744073709551616 = x at *
    generalize n % 2 = r at *
    generalize ((m + 1 : Nat) : Int) = k at *
    clear h0 e2
    go_enter Tryz.func104, Tryz.ntmps104
    go_wp2
    go_ret
    exact ⟨rfl, rfl⟩

theorem bisOdd_any (g n : Nat) (v : Value) (w : World) (hx : BI w g v n) :
    Calls Tryz.prog 90 #[.pointer (some ⟨g, 0, none⟩)] w (fun e w' => e = .returned (.bool (decide (n % 2 = 1))) ∧ w' = w) := by
  have h := Bit_any g n v w hx
  have hb : ((((n % 2 : Nat) : Int)) != 0) = decide (n % 2 = 1) := by
    rcases Nat.mod_two_eq_zero_or_one n with h | h <;> rw [h] <;> rfl
  generalize decide (n % 2 = 1) = b at *
  generalize ((n % 2 : Nat) : Int) = r at *
  have H_h := Lib.hid h; clear h
  have H_hx := Lib.hid hx; clear hx
  go_enter Tryz.func90, Tryz.ntmps90
  go_wp2_with (fail)
  refine H_h.out.mono ?_
  rintro e w2 ⟨rfl, rfl⟩
  go_wp2
  go_ret
  exact ⟨rfl, rfl⟩

set_option maxRecDepth 20000 in
theorem Uint64_any (g n : Nat) (v : Value) (w : World) (hn : n < 18446744073709551616) (hx : BI w g v n) :
    Calls Tryz.prog 91 #[.pointer (some ⟨g, 0, none⟩)] w (fun e w' => e = .returned (.int .u64 n) ∧ w' = w) := by
  have hw := hx.words
  obtain ⟨l, hi, _⟩ := hx
  have c1 : w.cell? ⟨g, 1, none⟩ = some v := hi.str.c1
  clear hi
  have hlow : Calls Tryz.prog 105 #[v] w (fun e w' => e = .returned (.int .u64 n) ∧ w' = w) := by
    rcases hw with ⟨rfl, a, c, rfl⟩ | ⟨h0, gx, ox, cx, m, rfl, hc, hm⟩
    · clear c1
      go_enter Tryz.func105, Tryz.ntmps105
      go_wp2
      go_ret
      exact ⟨rfl, rfl⟩
    · obtain rfl := hm hn
      rw [Nat.mod_eq_of_lt hn] at hc
      clear hm h0 c1 hn
      go_enter Tryz.func105, Tryz.ntmps105
      go_wp2
      go_ret
      exact ⟨rfl, rfl⟩
  clear hw hn
  have H_hlow := Lib.hid hlow; clear hlow
  go_enter Tryz.func91, Tryz.ntmps91
  go_wp2_with (fail)
  refine H_hlow.out.mono ?_
  rintro e w2 ⟨rfl, rfl⟩
  go_wp2
  go_ret
  exact ⟨rfl, rfl⟩

theorem bfint_any (g n : Nat) (v : Value) (w : World) (hn : n < 18446744073709551616) (hx : BI w g v n) :
    Calls Tryz.prog 77 #[.pointer (some ⟨g, 0, none⟩)] w (fun e w' => e = .returned (.int .u64 n) ∧ w' = w) := by
  have h := Uint64_any g n v w hn hx
  clear hn
  have H_h := Lib.hid h; clear h
  have H_hx := Lib.hid hx; clear hx
  go_enter Tryz.func77, Tryz.ntmps77
  go_wp2_with (fail)
  refine H_h.out.mono ?_
  rintro e w2 ⟨rfl, rfl⟩
  go_wp2
  go_ret
  exact ⟨rfl, rfl⟩

theorem badd_any (bz bx bY : Nat) (vz vx vy : Value) (nz nx ny : Nat) (w : World) (hn : nx < wpow 39) (hm : ny < wpow 39)
    (hz : BI w bz vz nz) (hx : BI w bx vx nx) (hy : BI w bY vy ny) (hsx : Sep vz vx) (hsy : Sep vz vy) :
    Calls Tryz.prog 103 #[.pointer (some ⟨bz, 0, none⟩), .pointer (some ⟨bx, 0, none⟩), .pointer (some ⟨bY, 0, none⟩)] w (fun e w' => e = .returned (.tuple #[]) ∧ BSet w bz vz (nx + ny) w') := by
  obtain ⟨lz, hz, _⟩ := hz
  obtain ⟨lx, hx, rfl⟩ := hx
  obtain ⟨ly, hy, rfl⟩ := hy
  have h1 := hx.norm.len_le hn
  have h2 := hy.norm.len_le hm
  have h := Int_Add bz 0 bx 0 bY 0 false false false vz vx vy lz lx ly w (by omega) (by omega) hz hx hy hsx hsy
  have e : ival false lx + ival false ly = ((val lx + val ly : Nat) : Int) := by simp [ival]
  rw [e] at h
  clear hn hm hz hx hy hsx hsy h1 h2 e
  generalize val lx + val ly = r at *
  have H_h := Lib.hid h; clear h
  go_enter Tryz.func103, Tryz.ntmps103
  go_wp2_with (fail)
  refine H_h.out.mono ?_
  intro e w2 hr
  obtain ⟨rfl, hb⟩ := hr.bset
  clear hr
  have H_hb := Lib.hid hb; clear hb
  go_wp2
  go_end0
  exact ⟨rfl, H_hb.out⟩

end Go.Proofs.YtjjolcjeiogdmabGreatDoor

/- big: nat.lsh by 1 of a number of one word; Int.Lsh, bint.dbl. -/
namespace Go.Proofs.YtjjolcjeiogdmabGreatDoor
open Go.RowKit

/-- clear, over no cell -/
theorem wpList_clear_none {P : Program} {w : World} {ops : Array Oper} {rest : List Oper} {o : Oper} {a : Act} {Q : Exit → Act → World → Prop} (hgd : o.guard = none) (d : Operand) (dT : TypeId)
    (ho : o.op = .call { callee := .builtin .clear, args := #[d], argTypes := #[dT] }) (elem : TypeId) (hu : P.underlying dT = some (.slice elem)) (a0 : Option Addr) (c : Nat)
    (hd : a.eval d = .slice a0 0 c) (h : wpList P ops Q rest (a.put o.dst (.tuple #[])) w) : wpList P ops Q (o :: rest) a w := by
  refine wpList_plain hgd fun K hK => ?_
  have hrun : (Builtin.clear_ #[dT] o.type #[.slice a0 0 c]).run P w = .ok (.tuple #[]) w := by
    cases a0 <;> simp [Builtin.clear_, run_underlying hu, Result.andThen]
  unfold Oper.wp
  simp [execOp, ho, resolve, invoke, builtin, hd, hrun, Result.andThen]
  exact hK _ _ h

set_option maxRecDepth 20000 in
set_option maxHeartbeats 1000000 in
theorem lshVU_one (g off cap gx ox cx r : Nat) (L : List Nat) (w : World) (bz : Blk .u64 w g L) (ho : off + 1 ≤ L.length)
    (hc : w.cell? ⟨gx, ox, none⟩ = some (wd .u64 r)) :
    Calls Tryz.prog 138 #[.slice (some ⟨g, off, none⟩) 1 cap, .slice (some ⟨gx, ox, none⟩) 1 cx, .int .u64 1] w
      (fun e w' => e = .returned (.int .u64 ((r / 9223372036854775808 : Nat) : Int)) ∧ Puts .u64 g (L.set off (2 * r % 18446744073709551616)) w w') := by
  have hcz := bz.cell (o := off) (by omega)
  have hfz := bz.frozen off
  have hl : Calls Tryz.prog 170 #[.slice (some ⟨g, off, none⟩) 1 cap, .slice (some ⟨gx, ox, none⟩) 1 cx, .int .u64 1] w
      (fun e w' => e = .returned (.int .u64 ((r / 9223372036854775808 : Nat) : Int)) ∧ Puts .u64 g (L.set off (2 * r % 18446744073709551616)) w w') := by
    generalize L.getD off 0 = z0 at *
    have b1 : bits BinOp.and IntKind.u64 1 63 = 1 := by decide
    have b2 : IntKind.u64.wrap (64 - 1) = 63 := by decide
    have b3 : bits BinOp.and IntKind.u64 63 63 = 63 := by decide
    have b4 : IntKind.u64.wrap ((r : Int) * 2) = ((2 * r % 18446744073709551616 : Nat) : Int) := by
      rw [show (r : Int) * 2 = ((2 * r : Nat) : Int) by omega]; exact wrap_u64_mod _
    have b5 : ((r / 9223372036854775808 : Nat) : Int) = (r : Int) / 9223372036854775808 := by omega
    rw [b5]
    generalize 2 * r % 18446744073709551616 = z1 at *
    clear b5
    have H_bz := Lib.hid bz; clear bz
    have H_ho := Lib.hid ho; clear ho
    go_enter Tryz.func170, Tryz.ntmps170
    go_wp2
    refine wp_loop_rounds 1 ?_
    rw [rounds_succ]
    go_wp2
    go_ret
    exact ⟨rfl, (Puts.refl H_bz.out).set off z1⟩
  clear hcz hfz hc
  have H_bz := Lib.hid bz; clear bz
  have H_hl := Lib.hid hl; clear hl
  go_enter Tryz.func138, Tryz.ntmps138
  go_wp2_with (fail)
  refine H_hl.out.mono ?_
  rintro e w2 ⟨rfl, hp⟩
  have H_hp := Lib.hid hp; clear hp
  go_wp2
  go_ret
  exact ⟨rfl, H_hp.out⟩

set_option maxRecDepth 20000 in
set_option maxHeartbeats 1000000 in
theorem lsh_word (zv xv : Value) (zl xl : List Nat) (w : World) (hn : xl.length ≤ 1) (h : NatAt w zv zl) (hx : NatAt w xv xl) (hs : Sep zv xv) :
    Calls Tryz.prog 116 #[zv, xv, .int .u64 1] w (NatRet w zv (2 * val xl)) := by
  by_cases h0 : xl.length = 0
  · obtain ⟨a, c, hv⟩ := h.form
    obtain ⟨ax, cx, hxv⟩ := hx.form
    have hr : NatRet w zv 0 (.returned (.slice a 0 c)) w := NatRet.empty h hv
    have e0 : 2 * val xl = 0 := by rw [List.eq_nil_of_length_eq_zero h0]; rfl
    rw [e0]
    rw [h0] at hxv
    generalize zl.length = nz at *
    subst hv hxv
    clear hn h0 e0
    have H_h := Lib.hid h; clear h
    have H_hx := Lib.hid hx; clear hx
    have H_hs := Lib.hid hs; clear hs
    have H_hr := Lib.hid hr; clear hr
    go_enter Tryz.func116, Tryz.ntmps116
    go_wp2
    go_ret
    exact H_hr.out
  · obtain ⟨gx, ox, cx, M, rfl, bx, hx1, hx2, hx3, hx4⟩ := hx.open_pos (by omega)
    have hm := make_any zv zl 2 w (by omega) (by omega) h
    have hgx := bx.lt
    have hl1 : xl.length = 1 := by omega
    obtain ⟨r, rfl⟩ : ∃ r, xl = [r] := List.length_eq_one_iff.1 hl1
    have hr : r < 18446744073709551616 := hx.bnd r (by simp)
    have hgd : M.getD ox 0 = r := by
      have := hx3
      rw [hl1, seg_head (by omega), seg_zero] at this
      simpa using this.symm
    rw [hl1]
    have ev : 2 * val [r] = 2 * r := by simp [val]
    rw [ev]
    clear ev hx3 hn h0 hl1
    have H_h := Lib.hid h; clear h
    have H_hx := Lib.hid hx; clear hx
    have H_hs := Lib.hid hs; clear hs
    have H_bx := Lib.hid bx; clear bx
    have H_hx1 := Lib.hid hx1; clear hx1
    have H_hx2 := Lib.hid hx2; clear hx2
    have H_hx4 := Lib.hid hx4; clear hx4
    have H_hgd := Lib.hid hgd; clear hgd
    have H_hr := Lib.hid hr; clear hr
    go_enter Tryz.func116, Tryz.ntmps116
    go_wp2_with (fail)
    refine hm.mono ?_
    intro e w1 hm
    obtain ⟨g, off, cap, L, rfl, hb, h1, h2, h3, h4, h5, hcap⟩ := hm.split
    clear hm
    have hcx := (H_bx.out.keep h4.out (fun h => h)).cell (o := ox) (by have := H_hx1.out; have := H_hx2.out; have : [r].length = 1 := rfl; omega)
    rw [H_hgd.out] at hcx
    have hls := fun c => lshVU_one g off c gx ox cx r L w1 hb.out (by have := h2.out; omega) hcx
    clear hcx
    have H_hls := Lib.hid hls; clear hls
    go_wp2_with (fail)
    refine (H_hls.out _).mono ?_
    rintro e w2 ⟨rfl, hp⟩
    have cc1 := hp.blk.cell (o := off + 1) (by have := h2.out; rw [List.length_set]; omega)
    have cc2 := hp.blk.frozen (off + 1)
    have p6 := hp.set (off + 1) (r / 9223372036854775808)
    generalize (L.set off (2 * r % 18446744073709551616)).getD (off + 1) 0 = z9 at *
    have H_hp := Lib.hid hp; clear hp
    have H_p6 := Lib.hid p6; clear p6
    go_wp2_with (refine wpList_clear_none (o := ⟨none, _, _, _, _, _⟩) rfl (.tmp 68) 105 rfl 122 Tryz.underlying105 _ _ (by rfl) ?_)
    generalize wr6 : w2.setCell ⟨g, off + 1, none⟩ (.int .u64 ((r : Int) / 9223372036854775808)) = w3 at *
    have e5 : w2.setCell ⟨g, off + 1, none⟩ (.int .u64 ((r / 9223372036854775808 : Nat) : Int)) = w3 := by
      rw [← wr6, show ((r / 9223372036854775808 : Nat) : Int) = (r : Int) / 9223372036854775808 by omega]
    have p7 := H_p6.out
    rw [e5] at p7
    have hB := H_hr.out
    have hlt : ∀ a ∈ (L.set off (2 * r % 18446744073709551616)).set (off + 1) (r / 9223372036854775808), a < 18446744073709551616 := by
      intro a ha
      rcases List.mem_or_eq_of_mem_set ha with ha | rfl
      · rcases List.mem_or_eq_of_mem_set ha with ha | rfl
        · exact h3.out a ha
        · exact Nat.mod_lt _ (by omega)
      · omega
    have hna : NatAt w3 (.slice (some ⟨g, off, none⟩) 2 cap) [2 * r % 18446744073709551616, r / 9223372036854775808] := by
      have := NatAt.mk (n := 2) (off := off) hcap p7.blk (by omega) (by rw [List.length_set, List.length_set]; exact h2.out) hlt
      rw [seg_head (by rw [List.length_set, List.length_set]; have := h2.out; omega), seg_head (by rw [List.length_set, List.length_set]; have := h2.out; omega), seg_zero,
        getD_set _ _ _ _ (by rw [List.length_set]; have := h2.out; omega), if_neg (by omega), getD_set _ _ _ _ (by have := h2.out; omega), if_pos rfl,
        getD_set _ _ _ _ (by rw [List.length_set]; have := h2.out; omega), if_pos rfl] at this
      exact this
    have hno := norm_any _ _ _ (by simp) hna
    have hvv : val [2 * r % 18446744073709551616, r / 9223372036854775808] = 2 * r := by simp only [val]; omega
    rw [hvv] at hno
    clear wr6 e5 hlt hvv hB
    have H_hna := Lib.hid hna; clear hna
    have H_hno := Lib.hid hno; clear hno
    have H_p7 := Lib.hid p7; clear p7
    refine H_hno.out.mono ?_
    rintro e w7 ⟨rv, l, rfl, h6, hnorm, hval, hown, rfl⟩
    have H_h6 := Lib.hid h6; clear h6
    have H_hnorm := Lib.hid hnorm; clear hnorm
    have H_hval := Lib.hid hval; clear hval
    have H_hown := Lib.hid hown; clear hown
    go_wp2
    go_ret
    exact ⟨rv, l, rfl, NatOp.of h5.out h4.out H_p7.out.keep H_h6.out (fun k hk => by have := H_hown.out k hk; simpa [Value.ownBlock] using this.symm), H_hnorm.out, H_hval.out⟩

end Go.Proofs.YtjjolcjeiogdmabGreatDoor
