/- The contract of math/big's nat.mul, for numbers of fewer than 40 words. -/
import Derived.Test.YtjjolcjeiogdmabGreatDoorK20
namespace Go.Proofs.YtjjolcjeiogdmabGreatDoor
open Go.RowKit

/-- blocks from here on hold none of math/big's package-level variables -/
def NG : Nat := max (max 6 4) (max 5 7) + 1

/-- the package-level variables of math/big hold what they are laid -/
structure Glob (w : World) : Prop where
  size : NG ≤ w.heap.size
  kar : w.cell? ⟨6, 0, none⟩ = some (.int .i64 40)
  bsq : w.cell? ⟨4, 0, none⟩ = some (.int .i64 12)
  ksq : w.cell? ⟨5, 0, none⟩ = some (.int .i64 80)
  drec : w.cell? ⟨7, 0, none⟩ = some (.int .i64 40)

theorem Glob.keep {S : Nat → Prop} {w w' : World} (h : Glob w) (hk : Keep S w w') (hs : ∀ k, k < NG → ¬ S k) : Glob w' := by
  have hn := h.size
  have e : ∀ g, g < NG → w'.cell? ⟨g, 0, none⟩ = w.cell? ⟨g, 0, none⟩ := fun g hg => hk.cell (p := ⟨g, 0, none⟩) (Nat.lt_of_lt_of_le hg hn) (hs g hg)
  exact ⟨Nat.le_trans hn hk.size, (e _ (by decide)).trans h.kar, (e _ (by decide)).trans h.bsq, (e _ (by decide)).trans h.ksq, (e _ (by decide)).trans h.drec⟩

theorem Glob.fresh {w w' : World} (h : Glob w) (hk : Fresh w w') : Glob w' := h.keep hk (fun _ _ h => h)

theorem Glob.drewN {w : World} (h : Glob w) (n : Nat) : Glob (w.drewN n) := h.fresh ((Keep.refl _ _).drewN n)

theorem NatOp.of_drewN {w : World} {n : Nat} {zv rv : Value} {l : List Nat} {w' : World} (h : NatOp (w.drewN n) zv rv l w') : NatOp w zv rv l w' := ⟨h.nat, h.keep.of_drewN, h.own⟩

set_option maxRecDepth 20000 in
set_option maxHeartbeats 1000000 in
theorem mul_big (zv xv yv : Value) (stk : Option Addr) (zl xl yl : List Nat) (w : World) (hG : Glob w) (hm : xl.length < 100000) (hn : 1 < yl.length) (hn40 : yl.length < 40) (hyx : yl.length ≤ xl.length)
    (h : NatAt w zv zl) (hx : NatAt w xv xl) (hy : NatAt w yv yl) (hsx : Sep zv xv) (hsy : Sep zv yv) :
    Calls Tryz.prog 107 #[zv, .pointer stk, xv, yv] w (NatRet w zv (val xl * val yl)) := by
  obtain ⟨gx, ox, cx, M, rfl, bx, hx1, hx2, hx3, hx4⟩ := hx.open_pos (by omega)
  obtain ⟨gy, oy, cy, K, rfl, by_, hy1, hy2, hy3, hy4⟩ := hy.open_pos (by omega)
  have hgx := bx.lt
  have hgy := by_.lt
  have hm0 : ((xl.length : Int) == 0) = false := by rw [beq_eq_false_iff_ne]; omega
  have hn0 : ((yl.length : Int) == 0) = false := by rw [beq_eq_false_iff_ne]; omega
  have hn1 : ((yl.length : Int) == 1) = false := by rw [beq_eq_false_iff_ne]; omega
  have hkar := hG.kar
  have cases : ∃ b1 b2 : Bool, ∃ z' : Value, Hid (∀ n, Calls Tryz.prog 123 #[zv, .slice (some ⟨gx, ox, none⟩) xl.length cx] (w.drewN n) (Quiet (w.drewN n) (.bool b1))) ∧
      (b1 = false → Hid (∀ n, Calls Tryz.prog 123 #[zv, .slice (some ⟨gy, oy, none⟩) yl.length cy] (w.drewN n) (Quiet (w.drewN n) (.bool b2)))) ∧
      z' = (if b1 || b2 then .slice none 0 0 else zv) ∧ Hid (∃ l, NatAt w z' l) ∧ (b1 = true → b2 = true) ∧
      Hid (∀ g off n, At (w.drewN n) z' g off → gx ≠ g ∧ gy ≠ g) := by
    have nilAt : ∀ g off n, At (w.drewN n) (.slice none 0 0) g off → gx ≠ g ∧ gy ≠ g := by
      intro g off n h
      rcases h with ⟨n0, c0, h⟩ | h
      · simp at h
      · have : (w.drewN n).heap.size = w.heap.size := rfl
        omega
    rcases hsx with hsx | hsx
    · refine ⟨true, true, _, ?_, fun h => by simp at h, by rfl, ⟨[], NatAt.nil w⟩, fun _ => rfl, nilAt⟩
      subst hsx
      exact fun n => alias_self gx ox xl.length cx xl (w.drewN n) (hx.drewN n) (by omega)
    · rcases hsy with hsy | hsy
      · refine ⟨false, true, _, fun n => alias_apart zv _ zl xl (w.drewN n) (h.drewN n) (hx.drewN n) hsx, fun _ => ?_, by rfl, ⟨[], NatAt.nil w⟩, fun h => by simp at h, nilAt⟩
        subst hsy
        exact fun n => alias_self gy oy yl.length cy yl (w.drewN n) (hy.drewN n) (by omega)
      · refine ⟨false, false, _, fun n => alias_apart zv _ zl xl (w.drewN n) (h.drewN n) (hx.drewN n) hsx, fun _ => fun n => alias_apart zv _ zl yl (w.drewN n) (h.drewN n) (hy.drewN n) hsy, by rfl, ⟨zl, h⟩, fun h => by simp at h, ?_⟩
        intro g off n hat
        rcases hat with ⟨n0, c0, hv⟩ | hg
        · have hv' : zv = .slice (some ⟨g, off, none⟩) n0 c0 := hv
          subst hv'
          exact ⟨fun e => hsx g rfl (by rw [← e]; rfl), fun e => hsy g rfl (by rw [← e]; rfl)⟩
        · have : (w.drewN n).heap.size = w.heap.size := rfl
          omega
  obtain ⟨b1, b2, z', ha1, ha2, hz', hzn, hb, hat⟩ := cases
  have fin : ∀ rv l w', NatOp w z' rv l w' → NatOp w zv rv l w' := by
    intro rv l w' ho
    rw [hz'] at ho
    by_cases e : (b1 || b2) = true
    · rw [if_pos e] at ho
      refine ⟨ho.nat, ho.keep.mono (fun k _ hk => by simp [Value.ownBlock] at hk), fun k hk => ?_⟩
      rcases ho.own k hk with h | h
      · simp [Value.ownBlock] at h
      · exact .inr h
    · rw [if_neg e] at ho; exact ho
  have hmk : ∀ n, Calls Tryz.prog 93 #[z', .int .i64 ((xl.length : Int) + (yl.length : Int))] (w.drewN n) (Made (w.drewN n) z' (xl.length + yl.length)) := by
    intro n
    obtain ⟨l, hl⟩ := hzn.out
    have := make_any z' l (xl.length + yl.length) (w.drewN n) (by omega) (by omega) (hl.drewN n)
    rwa [Int.natCast_add] at this
  have hx4' := hx4
  generalize hml : xl.length = m at *
  generalize hnl : yl.length = n at *
  have hlt : ¬ m < n := by omega
  have H_hG := Lib.hid hG; clear hG
  have H_h := Lib.hid h; clear h
  have H_hx := Lib.hid hx; clear hx
  have H_hy := Lib.hid hy; clear hy
  have H_hsx := Lib.hid hsx; clear hsx
  have H_hsy := Lib.hid hsy; clear hsy
  have H_bx := Lib.hid bx; clear bx
  have H_by_ := Lib.hid by_; clear by_
  have H_hx2 := Lib.hid hx2; clear hx2
  have H_hx3 := Lib.hid hx3; clear hx3
  have H_hx4 := Lib.hid hx4; clear hx4
  have H_hx4' := Lib.hid hx4'; clear hx4'
  have H_hy2 := Lib.hid hy2; clear hy2
  have H_hy3 := Lib.hid hy3; clear hy3
  have H_hy4 := Lib.hid hy4; clear hy4
  have H_hzn := Lib.hid hzn; clear hzn
  have H_fin := Lib.hid fin; clear fin
  have H_hmk := Lib.hid hmk; clear hmk
  have H_hml := Lib.hid hml; clear hml
  have H_hnl := Lib.hid hnl; clear hnl
  have H_hz' := Lib.hid hz'; clear hz'
  cases b1
  · have ha3 := ha2 rfl
    clear ha2
    cases b2
    · have e : z' = zv := H_hz'.out
      subst e
      clear hb
      go_enter Tryz.func107, Tryz.ntmps107
      go_wp2_with (fail)
      refine (ha1.out 0).mono ?_
      rintro e w1 ⟨rfl, n1, rfl⟩
      go_wp2_with (fail)
      refine (ha3.out _).mono ?_
      rintro e w1 ⟨rfl, n2, hw⟩
      rw [World.drewN_drewN] at hw
      subst hw
      go_wp2_with (fail)
      refine (H_hmk.out _).mono ?_
      intro e w1 hm
      obtain ⟨g, off, cap, L, rfl, hbk, h1, h2, h3, h4, h5, hcap⟩ := hm.split
      clear hm
      have hd := hat.out g off _ h5.out
      have hG1 := (H_hG.out.drewN _).fresh h4.out
      have kar1 := hG1.kar
      have hmul := basicMul_any g off cap (m + n) gx ox cx m gy oy cy n L M K w1 (by omega) (by omega) (by omega) (by omega) hbk.out ((H_bx.out.drewN _).keep h4.out (fun h => h)) ((H_by_.out.drewN _).keep h4.out (fun h => h))
        h2.out h1 (by omega) (by have := H_hx2.out; omega) (by have := H_hy2.out; omega) h3.out H_hx4.out H_hy4.out hd.1 hd.2
      have H_hG1 := Lib.hid hG1; clear hG1
      have H_hd := Lib.hid hd; clear hd
      have H_hmul := Lib.hid hmul; clear hmul
      go_wp2_with (fail)
      refine H_hmul.out.mono ?_
      rintro e w2 ⟨rfl, p, hpl, hpb, hpv, hpp⟩
      rw [show seg M ox m = xl from H_hx3.out.symm, show seg K oy n = yl from H_hy3.out.symm] at hpv
      have hna : NatAt w2 (.slice (some ⟨g, off, none⟩) (m + n) cap) p := by
        have := NatAt.spl hcap hpp.blk (cap := cap) (by omega) h2.out h3.out hpb
        rw [hpl] at this; exact this
      have hno := norm_any _ _ _ (by omega) hna
      have H_hpl := Lib.hid hpl; clear hpl
      have H_hpb := Lib.hid hpb; clear hpb
      have H_hpv := Lib.hid hpv; clear hpv
      have H_hpp := Lib.hid hpp; clear hpp
      have H_hna := Lib.hid hna; clear hna
      have H_hno := Lib.hid hno; clear hno
      go_wp2_with (fail)
      refine H_hno.out.mono ?_
      rintro e w7 ⟨rv, l, rfl, h6, hnorm, hval, hown, rfl⟩
      have H_h6 := Lib.hid h6; clear h6
      have H_hnorm := Lib.hid hnorm; clear hnorm
      have H_hval := Lib.hid hval; clear hval
      have H_hown := Lib.hid hown; clear hown
      go_wp2
      go_ret
      exact ⟨rv, l, rfl, H_fin.out _ _ _ (NatOp.of_drewN (NatOp.of h5.out h4.out H_hpp.out.keep H_h6.out (fun k hk => by have := H_hown.out k hk; simpa [Value.ownBlock] using this.symm))), H_hnorm.out, by rw [H_hval.out, H_hpv.out]⟩
    · have e : z' = .slice none 0 0 := H_hz'.out
      subst e
      clear hb
      go_enter Tryz.func107, Tryz.ntmps107
      go_wp2_with (fail)
      refine (ha1.out 0).mono ?_
      rintro e w1 ⟨rfl, n1, rfl⟩
      go_wp2_with (fail)
      refine (ha3.out _).mono ?_
      rintro e w1 ⟨rfl, n2, hw⟩
      rw [World.drewN_drewN] at hw
      subst hw
      go_wp2_with (fail)
      refine (H_hmk.out _).mono ?_
      intro e w1 hm
      obtain ⟨g, off, cap, L, rfl, hbk, h1, h2, h3, h4, h5, hcap⟩ := hm.split
      clear hm
      have hd := hat.out g off _ h5.out
      have hG1 := (H_hG.out.drewN _).fresh h4.out
      have kar1 := hG1.kar
      have hmul := basicMul_any g off cap (m + n) gx ox cx m gy oy cy n L M K w1 (by omega) (by omega) (by omega) (by omega) hbk.out ((H_bx.out.drewN _).keep h4.out (fun h => h)) ((H_by_.out.drewN _).keep h4.out (fun h => h))
        h2.out h1 (by omega) (by have := H_hx2.out; omega) (by have := H_hy2.out; omega) h3.out H_hx4.out H_hy4.out hd.1 hd.2
      have H_hG1 := Lib.hid hG1; clear hG1
      have H_hd := Lib.hid hd; clear hd
      have H_hmul := Lib.hid hmul; clear hmul
      go_wp2_with (fail)
      refine H_hmul.out.mono ?_
      rintro e w2 ⟨rfl, p, hpl, hpb, hpv, hpp⟩
      rw [show seg M ox m = xl from H_hx3.out.symm, show seg K oy n = yl from H_hy3.out.symm] at hpv
      have hna : NatAt w2 (.slice (some ⟨g, off, none⟩) (m + n) cap) p := by
        have := NatAt.spl hcap hpp.blk (cap := cap) (by omega) h2.out h3.out hpb
        rw [hpl] at this; exact this
      have hno := norm_any _ _ _ (by omega) hna
      have H_hpl := Lib.hid hpl; clear hpl
      have H_hpb := Lib.hid hpb; clear hpb
      have H_hpv := Lib.hid hpv; clear hpv
      have H_hpp := Lib.hid hpp; clear hpp
      have H_hna := Lib.hid hna; clear hna
      have H_hno := Lib.hid hno; clear hno
      go_wp2_with (fail)
      refine H_hno.out.mono ?_
      rintro e w7 ⟨rv, l, rfl, h6, hnorm, hval, hown, rfl⟩
      have H_h6 := Lib.hid h6; clear h6
      have H_hnorm := Lib.hid hnorm; clear hnorm
      have H_hval := Lib.hid hval; clear hval
      have H_hown := Lib.hid hown; clear hown
      go_wp2
      go_ret
      exact ⟨rv, l, rfl, H_fin.out _ _ _ (NatOp.of_drewN (NatOp.of h5.out h4.out H_hpp.out.keep H_h6.out (fun k hk => by have := H_hown.out k hk; simpa [Value.ownBlock] using this.symm))), H_hnorm.out, by rw [H_hval.out, H_hpv.out]⟩
  · have e : z' = .slice none 0 0 := by have := H_hz'.out; simpa using this
    subst e
    have e2 : b2 = true := hb rfl
    subst e2
    clear hb
    · go_enter Tryz.func107, Tryz.ntmps107
      go_wp2_with (fail)
      refine (ha1.out 0).mono ?_
      rintro e w1 ⟨rfl, n1, rfl⟩
      go_wp2_with (fail)
      refine (H_hmk.out _).mono ?_
      intro e w1 hm
      obtain ⟨g, off, cap, L, rfl, hbk, h1, h2, h3, h4, h5, hcap⟩ := hm.split
      clear hm
      have hd := hat.out g off _ h5.out
      have hG1 := (H_hG.out.drewN _).fresh h4.out
      have kar1 := hG1.kar
      have hmul := basicMul_any g off cap (m + n) gx ox cx m gy oy cy n L M K w1 (by omega) (by omega) (by omega) (by omega) hbk.out ((H_bx.out.drewN _).keep h4.out (fun h => h)) ((H_by_.out.drewN _).keep h4.out (fun h => h))
        h2.out h1 (by omega) (by have := H_hx2.out; omega) (by have := H_hy2.out; omega) h3.out H_hx4.out H_hy4.out hd.1 hd.2
      have H_hG1 := Lib.hid hG1; clear hG1
      have H_hd := Lib.hid hd; clear hd
      have H_hmul := Lib.hid hmul; clear hmul
      go_wp2_with (fail)
      refine H_hmul.out.mono ?_
      rintro e w2 ⟨rfl, p, hpl, hpb, hpv, hpp⟩
      rw [show seg M ox m = xl from H_hx3.out.symm, show seg K oy n = yl from H_hy3.out.symm] at hpv
      have hna : NatAt w2 (.slice (some ⟨g, off, none⟩) (m + n) cap) p := by
        have := NatAt.spl hcap hpp.blk (cap := cap) (by omega) h2.out h3.out hpb
        rw [hpl] at this; exact this
      have hno := norm_any _ _ _ (by omega) hna
      have H_hpl := Lib.hid hpl; clear hpl
      have H_hpb := Lib.hid hpb; clear hpb
      have H_hpv := Lib.hid hpv; clear hpv
      have H_hpp := Lib.hid hpp; clear hpp
      have H_hna := Lib.hid hna; clear hna
      have H_hno := Lib.hid hno; clear hno
      go_wp2_with (fail)
      refine H_hno.out.mono ?_
      rintro e w7 ⟨rv, l, rfl, h6, hnorm, hval, hown, rfl⟩
      have H_h6 := Lib.hid h6; clear h6
      have H_hnorm := Lib.hid hnorm; clear hnorm
      have H_hval := Lib.hid hval; clear hval
      have H_hown := Lib.hid hown; clear hown
      go_wp2
      go_ret
      exact ⟨rv, l, rfl, H_fin.out _ _ _ (NatOp.of_drewN (NatOp.of h5.out h4.out H_hpp.out.keep H_h6.out (fun k hk => by have := H_hown.out k hk; simpa [Value.ownBlock] using this.symm))), H_hnorm.out, by rw [H_hval.out, H_hpv.out]⟩

set_option maxRecDepth 20000 in
set_option maxHeartbeats 1000000 in
theorem mul_ge (zv xv yv : Value) (stk : Option Addr) (zl xl yl : List Nat) (w : World) (hG : Glob w) (hm : xl.length < 100000) (hn40 : yl.length < 40) (hyx : yl.length ≤ xl.length)
    (h : NatAt w zv zl) (hx : NatAt w xv xl) (hy : NatAt w yv yl) (hsx : Sep zv xv) (hsy : Sep zv yv) :
    Calls Tryz.prog 107 #[zv, .pointer stk, xv, yv] w (NatRet w zv (val xl * val yl)) := by
  by_cases hn0 : yl.length = 0
  · obtain ⟨a, c, hv⟩ := h.form
    obtain ⟨ax, cx, hxv⟩ := hx.form
    obtain ⟨ay, cy, hyv⟩ := hy.form
    have hyl : yl = [] := List.eq_nil_of_length_eq_zero hn0
    have hr := NatRet.empty h hv
    rw [hyl, show val xl * val [] = 0 from Nat.mul_zero _]
    rw [hn0] at hyv
    have hb : ((xl.length : Int) == 0) = true ∨ ((xl.length : Int) == 0) = false := by cases ((xl.length : Int) == 0) <;> simp
    generalize hml : xl.length = m at *
    generalize zl.length = z at *
    subst hxv hyv hv
    have H_hG := Lib.hid hG; clear hG
    have H_h := Lib.hid h; clear h
    have H_hx := Lib.hid hx; clear hx
    have H_hy := Lib.hid hy; clear hy
    have H_hsx := Lib.hid hsx; clear hsx
    have H_hsy := Lib.hid hsy; clear hsy
    have H_hr := Lib.hid hr; clear hr
    have H_hyl := Lib.hid hyl; clear hyl
    have H_hml := Lib.hid hml; clear hml
    clear hn0 hyx hn40
    rcases hb with hb | hb
    all_goals
      go_enter Tryz.func107, Tryz.ntmps107
      go_wp2
      go_ret
      exact H_hr.out
  · by_cases hn1 : yl.length = 1
    · obtain ⟨gy, oy, cy, K, rfl, by_, hy1, hy2, hy3, hy4⟩ := hy.open_pos (by omega)
      obtain ⟨ax, cx, hxv⟩ := hx.form
      have hc := by_.cell (o := oy) (by omega)
      have hd := getD_lt hy4 pos64 oy
      have hyv : val yl = K.getD oy 0 := by
        rw [hy3, hn1, seg_head (by omega), seg_zero]; simp [val]
      have hmw := mulAddWW_any zv xv zl xl (K.getD oy 0) 0 w (by omega) hd (by omega) h hx hsx
      rw [hyv]
      rw [Nat.add_zero] at hmw
      generalize K.getD oy 0 = d at *
      have hm0 : ((xl.length : Int) == 0) = false := by rw [beq_eq_false_iff_ne]; omega
      rw [hn1]
      generalize hml : xl.length = m at *
      have hm1 : 1 ≤ m := by omega
      have hlt1 : ¬ m < 1 := by omega
      subst hxv
      have H_hG := Lib.hid hG; clear hG
      have H_h := Lib.hid h; clear h
      have H_hx := Lib.hid hx; clear hx
      have H_hy := Lib.hid hy; clear hy
      have H_hsx := Lib.hid hsx; clear hsx
      have H_hsy := Lib.hid hsy; clear hsy
      have H_by_ := Lib.hid by_; clear by_
      have H_hy2 := Lib.hid hy2; clear hy2
      have H_hy3 := Lib.hid hy3; clear hy3
      have H_hy4 := Lib.hid hy4; clear hy4
      have H_hml := Lib.hid hml; clear hml
      have H_hn1 := Lib.hid hn1; clear hn1
      have H_hmw := Lib.hid hmw; clear hmw
      have H_hyv := Lib.hid hyv; clear hyv
      clear hn0 hyx hn40 hy1
      go_enter Tryz.func107, Tryz.ntmps107
      go_wp2_with (go_quiet (fail))
      refine H_hmw.out.mono ?_
      intro e w1 h1
      obtain ⟨rv, rfl, h1⟩ := h1.own
      have H_h1 := Lib.hid h1; clear h1
      go_wp2
      go_ret
      exact H_h1.out
    · exact mul_big zv xv yv stk zl xl yl w hG hm (by omega) hn40 hyx h hx hy hsx hsy

set_option maxRecDepth 20000 in
set_option maxHeartbeats 1000000 in
theorem nat_mul (zv xv yv : Value) (stk : Option Addr) (zl xl yl : List Nat) (w : World) (hG : Glob w) (hm : xl.length < 40) (hn : yl.length < 40)
    (h : NatAt w zv zl) (hx : NatAt w xv xl) (hy : NatAt w yv yl) (hsx : Sep zv xv) (hsy : Sep zv yv) :
    Calls Tryz.prog 107 #[zv, .pointer stk, xv, yv] w (NatRet w zv (val xl * val yl)) := by
  by_cases hlt : xl.length < yl.length
  · have hr := mul_ge zv yv xv stk zl yl xl w hG (by omega) hm (by omega) h hy hx hsy hsx
    rw [Nat.mul_comm] at hr
    obtain ⟨ax, cx, hxv⟩ := hx.form
    obtain ⟨ay, cy, hyv⟩ := hy.form
    generalize xl.length = m at *
    generalize yl.length = n at *
    subst hxv hyv
    have H_hG := Lib.hid hG; clear hG
    have H_h := Lib.hid h; clear h
    have H_hx := Lib.hid hx; clear hx
    have H_hy := Lib.hid hy; clear hy
    have H_hsx := Lib.hid hsx; clear hsx
    have H_hsy := Lib.hid hsy; clear hsy
    have H_hr := Lib.hid hr; clear hr
    go_enter Tryz.func107, Tryz.ntmps107
    go_wp2_with (fail)
    refine H_hr.out.mono ?_
    intro e w1 h1
    obtain ⟨rv, rfl, h1⟩ := h1.own
    have H_h1 := Lib.hid h1; clear h1
    go_wp2
    go_ret
    exact H_h1.out
  · exact mul_ge zv xv yv stk zl xl yl w hG (by omega) hn (by omega) h hx hy hsx hsy

end Go.Proofs.YtjjolcjeiogdmabGreatDoor

/- The contracts of math/big's integers: what an Int is in memory; Add, Sub. -/
namespace Go.Proofs.YtjjolcjeiogdmabGreatDoor
open Go.RowKit

theorem frozen?_setCell' (w : World) (p q : Addr) (v : Value) : (w.setCell p v).frozen? q = w.frozen? q := by
  unfold World.frozen?
  simp only [World.setCell, Array.getElem?_modify]
  by_cases hb : p.block = q.block
  · rw [if_pos hb]
    cases hq : w.heap[q.block]? with
    | none => simp
    | some o => cases o <;> simp
  · rw [if_neg hb]

theorem setCell_cells {w : World} {b : Nat} (h : ∃ c T, w.heap[b]? = some (.cells c T (0, 0))) (o : Nat) (v : Value) : ∃ c T, (w.setCell ⟨b, o, none⟩ v).heap[b]? = some (.cells c T (0, 0)) := by
  obtain ⟨c, T, h⟩ := h
  exact ⟨_, T, by simp only [World.setCell, Array.getElem?_modify, if_true, h]; rfl⟩

/-- a struct of math/big's Int lies at block b from offset o on -/
structure StrAt (w : World) (b o : Nat) (neg : Bool) (v : Value) : Prop where
  c0 : w.cell? ⟨b, o, none⟩ = some (.bool neg)
  c1 : w.cell? ⟨b, o + 1, none⟩ = some v
  f0 : w.frozen? ⟨b, o, none⟩ = false
  f1 : w.frozen? ⟨b, o + 1, none⟩ = false
  ng : NG ≤ b
  hp : ∃ c T, w.heap[b]? = some (.cells c T (0, 0))

theorem StrAt.lt {w : World} {b o : Nat} {neg : Bool} {v : Value} (h : StrAt w b o neg v) : b < w.heap.size := World.block_lt_of_cell? w _ h.c0

theorem StrAt.keep {S : Nat → Prop} {w w' : World} {b o : Nat} {neg : Bool} {v : Value} (h : StrAt w b o neg v) (hk : Keep S w w') (hs : ¬ S b) : StrAt w' b o neg v :=
  ⟨(hk.cell h.lt hs).trans h.c0, (hk.cell (p := ⟨b, o + 1, none⟩) h.lt hs).trans h.c1, (hk.frozen h.lt hs).trans h.f0, (hk.frozen (p := ⟨b, o + 1, none⟩) h.lt hs).trans h.f1, h.ng, by rw [hk.block b h.lt hs]; exact h.hp⟩

theorem StrAt.drewN {w : World} {b o : Nat} {neg : Bool} {v : Value} (h : StrAt w b o neg v) (n : Nat) : StrAt (w.drewN n) b o neg v := ⟨h.c0, h.c1, h.f0, h.f1, h.ng, h.hp⟩
theorem StrAt.drew {w : World} {b o : Nat} {neg : Bool} {v : Value} (h : StrAt w b o neg v) : StrAt w.drew b o neg v := ⟨h.c0, h.c1, h.f0, h.f1, h.ng, h.hp⟩

theorem StrAt.eql_ne {P : Program} {w : World} {b o b' o' : Nat} {n n' : Bool} {v v' : Value} (h : StrAt w b o n v) (h' : StrAt w b' o' n' v') (hne : b ≠ b') {tp te : TypeId} (hp : P.underlying tp = some (.pointer te))
    (hsz : (P.info? te).map (·.size) = some 2) :
    (binOp .eql tp (.pointer (some ⟨b, o, none⟩)) (.pointer (some ⟨b', o', none⟩))).run P w = .ok (.bool false) w := by
  obtain ⟨c, T, h⟩ := h.hp
  obtain ⟨c', T', h'⟩ := h'.hp
  cases hq : P.info? te with
  | none => simp [hq] at hsz
  | some i => exact run_eql_ptr_other w hp hq (by simp [hq] at hsz; omega) (fun e => hne (congrArg Addr.block e)) h h'

theorem StrAt.neq_ne {P : Program} {w : World} {b o b' o' : Nat} {n n' : Bool} {v v' : Value} (h : StrAt w b o n v) (h' : StrAt w b' o' n' v') (hne : b ≠ b') {tp te : TypeId} (hp : P.underlying tp = some (.pointer te))
    (hsz : (P.info? te).map (·.size) = some 2) :
    (binOp .neq tp (.pointer (some ⟨b, o, none⟩)) (.pointer (some ⟨b', o', none⟩))).run P w = .ok (.bool true) w := by
  obtain ⟨c, T, h⟩ := h.hp
  obtain ⟨c', T', h'⟩ := h'.hp
  cases hq : P.info? te with
  | none => simp [hq] at hsz
  | some i => exact run_neq_ptr_other w hp hq (by simp [hq] at hsz; omega) (fun e => hne (congrArg Addr.block e)) h h'

theorem StrAt.set0 {w : World} {b o : Nat} {neg : Bool} {v : Value} (h : StrAt w b o neg v) (n : Bool) : StrAt (w.setCell ⟨b, o, none⟩ (.bool n)) b o n v :=
  ⟨cell?_setCell_eq rfl (by rw [h.c0]; rfl), (cell?_setCell_ne (by right; simp)).trans h.c1, (frozen?_setCell' _ _ _ _).trans h.f0, (frozen?_setCell' _ _ _ _).trans h.f1, h.ng, setCell_cells h.hp _ _⟩

theorem StrAt.set1 {w : World} {b o : Nat} {neg : Bool} {v : Value} (h : StrAt w b o neg v) (u : Value) : StrAt (w.setCell ⟨b, o + 1, none⟩ u) b o neg u :=
  ⟨(cell?_setCell_ne (by right; simp)).trans h.c0, cell?_setCell_eq rfl (by rw [h.c1]; rfl), (frozen?_setCell' _ _ _ _).trans h.f0, (frozen?_setCell' _ _ _ _).trans h.f1, h.ng, setCell_cells h.hp _ _⟩

/-- an Int of math/big at block b from offset o on: its sign, its words -/
structure IntIs (w : World) (b o : Nat) (neg : Bool) (v : Value) (l : List Nat) : Prop where
  str : StrAt w b o neg v
  nat : NatAt w v l
  norm : Norm l
  zero : l = [] → neg = false

/-- the number -/
def ival (neg : Bool) (l : List Nat) : Int := if neg then -(val l : Int) else (val l : Int)

theorem IntIs.ne {w : World} {b o : Nat} {neg : Bool} {v u : Value} {m : List Nat} (h : StrAt w b o neg v) (hn : NatAt w u m) {g : Nat} (hg : u.ownBlock = some g) : b ≠ g := by
  rintro rfl
  rcases hn.2 with ⟨rfl, _⟩ | ⟨g, off, cap, L, rfl, bk, _⟩
  · simp [Value.ownBlock] at hg
  · simp only [Value.ownBlock, Option.some.injEq] at hg
    subst hg
    by_cases ho : o < L.length
    · have := bk.cell ho
      rw [h.c0] at this; simp at this
    · obtain ⟨T, hb⟩ := bk
      have := h.c0
      simp [World.cell?, hb, ho] at this

theorem IntIs.keep {S : Nat → Prop} {w w' : World} {b o : Nat} {neg : Bool} {v : Value} {l : List Nat} (h : IntIs w b o neg v l) (hk : Keep S w w') (hs : ¬ S b) (hv : ∀ g, v.ownBlock = some g → ¬ S g) : IntIs w' b o neg v l :=
  ⟨h.str.keep hk hs, h.nat.keep hk hv, h.norm, h.zero⟩

theorem IntIs.fresh {w w' : World} {b o : Nat} {neg : Bool} {v : Value} {l : List Nat} (h : IntIs w b o neg v l) (hk : Fresh w w') : IntIs w' b o neg v l :=
  h.keep hk (fun h => h) (fun _ _ h => h)

theorem IntIs.drewN {w : World} {b o : Nat} {neg : Bool} {v : Value} {l : List Nat} (h : IntIs w b o neg v l) (n : Nat) : IntIs (w.drewN n) b o neg v l := ⟨h.str.drewN n, h.nat, h.norm, h.zero⟩

theorem setCell_natAt {w : World} {v : Value} {l : List Nat} (h : NatAt w v l) {b o : Nat} (hb : ∀ g, v.ownBlock = some g → b ≠ g) (u : Value) : NatAt (w.setCell ⟨b, o, none⟩ u) v l :=
  h.keep (Keep.setCell (S := fun k => k = b) (Keep.refl _ w) (fun _ => rfl) u) (fun g hg e => hb g hg e.symm)

/-- what a call that sets an Int returns: the pointer; the Int is n; nothing else has turned but what the Int held -/
def IntRet (w : World) (b o : Nat) (vz : Value) (n : Int) (e : Ending) (w' : World) : Prop :=
  e = .returned (.pointer (some ⟨b, o, none⟩)) ∧ ∃ neg v l, IntIs w' b o neg v l ∧ ival neg l = n ∧ Keep (fun k => k = b ∨ vz.ownBlock = some k) w w' ∧ (∀ k, v.ownBlock = some k → vz.ownBlock = some k ∨ w.heap.size ≤ k)

/-- the same of a call that returns nothing -/
def IntSet (w : World) (b o : Nat) (vz : Value) (n : Int) (e : Ending) (w' : World) : Prop :=
  e = .returned (.tuple #[]) ∧ ∃ neg v l, IntIs w' b o neg v l ∧ ival neg l = n ∧ Keep (fun k => k = b ∨ vz.ownBlock = some k) w w' ∧ (∀ k, v.ownBlock = some k → vz.ownBlock = some k ∨ w.heap.size ≤ k)

/-- the struct behind a call that returned words: both cells are written anew -/
theorem IntIs.made {w w1 : World} {b o : Nat} {neg0 : Bool} {vz rv : Value} {lz l : List Nat} (hz : StrAt w b o neg0 vz) (hzn : NatAt w vz lz) (hop : NatOp w vz rv l w1) (hnorm : Norm l) (neg : Bool) (hneg : l = [] → neg = false) (n : Int) (hn : ival neg l = n)
    {w2 : World} (hw2 : w2 = (w1.setCell ⟨b, o + 1, none⟩ rv).setCell ⟨b, o, none⟩ (.bool neg)) :
    ∃ neg v l, IntIs w2 b o neg v l ∧ ival neg l = n ∧ Keep (fun k => k = b ∨ vz.ownBlock = some k) w w2 ∧ (∀ k, v.ownBlock = some k → vz.ownBlock = some k ∨ w.heap.size ≤ k) := by
  subst hw2
  have hbz : ∀ g, vz.ownBlock = some g → b ≠ g := fun g hg => IntIs.ne hz hzn hg
  have hs1 : StrAt w1 b o neg0 vz := hz.keep hop.keep (fun h => hbz b h rfl)
  have hbr : ∀ g, rv.ownBlock = some g → b ≠ g := fun g hg => by
    rcases hop.own g hg with h | h
    · exact hbz g h
    · have := hz.lt; omega
  refine ⟨neg, rv, l, ⟨(hs1.set1 rv).set0 neg, setCell_natAt (setCell_natAt hop.nat hbr _) hbr _, hnorm, hneg⟩, hn, ?_, hop.own⟩
  have k1 : Keep (fun k => k = b ∨ vz.ownBlock = some k) w w1 := hop.keep.mono (fun k _ h => Or.inr h)
  exact (k1.setCell (p := ⟨b, o + 1, none⟩) (fun _ => Or.inl rfl) _).setCell (p := ⟨b, o, none⟩) (fun _ => Or.inl rfl) _

theorem Norm.len_lt {l : List Nat} (h : Norm l) {k : Nat} (hv : val l < wpow k) : l.length ≤ k := h.len_le hv

end Go.Proofs.YtjjolcjeiogdmabGreatDoor
