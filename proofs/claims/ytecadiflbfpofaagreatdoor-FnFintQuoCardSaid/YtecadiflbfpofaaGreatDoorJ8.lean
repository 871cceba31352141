/- The contracts of the reference's natural numbers: NatDiv by a greater divisor, and by one of one limb. -/
import Derived.Laws.AppendOwnNone
import Derived.Test.YtecadiflbfpofaaGreatDoorJ7
namespace Go.Proofs.YtecadiflbfpofaaGreatDoor
open Go.RowKit

theorem len_le_of {ys ps : List Nat} (hn : Norm ys) (hl : Lim ps) (h : sval ys ≤ sval ps) : ys.length ≤ ps.length :=
  hn.s_len_le (Nat.lt_of_le_of_lt h (sval_lt hl))

/-- the call returns a quotient and a remainder -/
def QRet (w : World) (q r : Nat) (e : Ending) (w' : World) : Prop :=
  ∃ qv rv ql rl, e = .returned (.tuple #[qv, rv]) ∧ SNat w' qv ql ∧ Norm ql ∧ sval ql = q ∧ SNat w' rv rl ∧ Norm rl ∧ sval rl = r ∧ Fresh w w'

theorem lit_owns (w : World) (L : List Nat) (T : TypeId) (h : L.length ≤ 1000000) : (w.alloc (.cells (L.map (wd .u32)).toArray T)).ownsRow w.heap.size T 1 (.slice (some ⟨w.heap.size, 0, none⟩) L.length L.length) L.length (L.map (wd .u32)) := by
  refine ⟨by simp, .inr ⟨w.heap.size, L.length, _, rfl, Nat.le_refl _, heap_alloc_new w _, Nat.le_refl _, by unfold maxLen; omega, by simp, ?_⟩⟩
  rw [Nat.mul_one]
  exact List.take_of_length_le (by simp)

set_option maxRecDepth 20000 in
set_option maxHeartbeats 2000000 in
/-- a divisor that is greater -/
theorem NatDiv_less (av bv : Value) (al bl : List Nat) (w : World) (ha : SNat w av al) (hb : SNat w bv bl) (hna : Norm al) (hnb : Norm bl) (hlen : al.length ≤ 1000) (hlt : sval al < sval bl) :
    Calls Tryz.prog 20 #[av, bv] w (QRet w 0 (sval al)) := by
  obtain ⟨i0, hi, hz0, hz1, hz2⟩ := info_parts info_u32
  obtain ⟨ab, cb, rfl⟩ := hb.form
  have hcmp := NatCmp_any av (.slice ab bl.length cb) al bl w ha hb hna hnb
  rw [cmpN_lt hlt] at hcmp
  generalize bl.length = nb at *
  rcases ha.2.2 with ⟨rfl, rfl⟩ | ⟨ga, cap, cur, T, rfl, hga, h1, h2, h3, h4⟩
  · clear ha hb hna hnb hlt
    have H_hcmp := Lib.hid hcmp; clear hcmp
    go_enter Tryz.func20, Tryz.ntmps20
    go_wp2_with (fail)
    refine H_hcmp.out.mono ?_
    rintro e w2 ⟨rfl, nq, hnq⟩
    have hf : Fresh w w2 := by rw [hnq]; exact (Keep.refl _ _).drewN nq
    clear hnq
    have H_hf := Lib.hid hf
    clear hf
    go_wp2_with (fail)
    go_ret2
    have ho := lit_owns w2 [] 74 (by simp)
    exact ⟨_, _, [], [], rfl, SNat.nil _, Norm.nil, rfl, SNat.of_owns ho Lim.nil (by simp), Norm.nil, rfl, fresh_trans H_hf.out ((Keep.refl _ _).alloc _)⟩
  · have hcl : ∀ W, Fresh w W → ∀ j u, (al.map (wd .u32))[j]? = some u → W.cell? ((⟨ga, 0, none⟩ : Addr).add j) = some u := fun W hW j u hj => by
      have hj' : j < al.length := by
        have := (List.getElem?_eq_some_iff.1 hj).1
        simpa using this
      have h5 := (ha.fresh hW).open_pos (by omega)
      obtain ⟨g', cap', he, _, _, _, hc⟩ := h5
      cases he
      have h6 := hc j hj'
      have h7 : ((⟨ga, 0, none⟩ : Addr).add j) = ⟨ga, j, none⟩ := by simp [Addr.add]; intro h; simp [h]
      rw [h7, h6, ← hj]
      simp [List.getD, hj']
    have hal := ha.lim
    obtain ⟨n, hn⟩ : ∃ n, n = al.length := ⟨_, rfl⟩
    rw [← hn] at hcmp hlen h1 ⊢
    clear ha hb hlt hga h1 h2 h3 h4
    have H_hcmp := Lib.hid hcmp; clear hcmp
    have H_hcl := Lib.hid hcl; clear hcl
    have H_hna := Lib.hid hna; clear hna
    have H_hnb := Lib.hid hnb; clear hnb
    have H_hal := Lib.hid hal; clear hal
    have H_hn := Lib.hid hn; clear hn
    go_enter Tryz.func20, Tryz.ntmps20
    go_wp2_with (fail)
    refine H_hcmp.out.mono ?_
    rintro e w2 ⟨rfl, nq, hnq⟩
    have hf : Fresh w w2 := by rw [hnq]; exact (Keep.refl _ _).drewN nq
    clear hnq
    have hcl2 := H_hcl.out _ (hf.alloc (.cells #[] 74))
    have ho := lit_owns w2 [] 74 (by simp)
    have H_hf := Lib.hid hf
    clear hf
    have H_hcl2 := Lib.hid hcl2
    clear hcl2
    go_wp2_with (at_builtin; refine wpList_append_own _ rfl _ _ 27 rfl w2.heap.size 74 i0 (.int .u32 0) 1 4 Tryz.underlying27 hi hz0 hz1 hz2 rfl (by decide) _ _ _ rfl ho ⟨ga, 0, none⟩ n cap (al.map (wd .u32)) rfl (by rw [List.length_map, ← H_hn.out, Nat.mul_one]) H_hcl2.out ?c2 ?c3 ?c4 ?c5 ?_)
    case c2 => intro u hu; simp at hu; obtain ⟨_, _, rfl⟩ := hu; rfl
    case c3 => unfold maxLen; simp; omega
    case c4 => simp; omega
    case c5 => simp
    · intro v' w1 hown' hgrow _
      have hf1 : Fresh w2 w1 := Fresh.owns ((Keep.refl _ _).alloc _) ho (Nat.le_refl _) hgrow
      have hs : SNat w1 v' al := SNat.of_owns (by simpa using hown') H_hal.out (by have := H_hn.out; omega)
      have H_hs := Lib.hid hs; clear hs
      have H_hf1 := Lib.hid hf1; clear hf1
      clear hown' hgrow ho
      go_wp2_with (fail)
      go_ret2
      exact ⟨_, _, [], al, rfl, SNat.nil _, Norm.nil, rfl, H_hs.out, H_hna.out, rfl, fresh_trans H_hf.out H_hf1.out⟩

set_option maxRecDepth 20000 in
set_option maxHeartbeats 2000000 in
/-- a divisor of one limb -/
theorem NatDiv_one (av bv : Value) (al : List Nat) (b : Nat) (w : World) (ha : SNat w av al) (hb : SNat w bv [b]) (hna : Norm al) (hb0 : 0 < b) (hlen : al.length ≤ 1000) (hge : b ≤ sval al) :
    Calls Tryz.prog 20 #[av, bv] w (QRet w (sval al / b) (sval al % b)) := by
  obtain ⟨aa, ca, rfl⟩ := ha.form
  obtain ⟨ab, cb, rfl⟩ := hb.form
  have hbl : b < 1000000000 := hb.lim b (by simp)
  have hnb : Norm [b] := norm_snoc (l := []) hb0
  have hcmp := NatCmp_any (.slice aa al.length ca) (.slice ab [b].length cb) al [b] w ha hb hna hnb
  obtain ⟨r, hr⟩ : ∃ r, r = cmpN (sval al) (sval [b]) := ⟨_, rfl⟩
  have hr0 : ¬ r < 0 := by
    rw [hr]; unfold cmpN
    have : sval [b] = b := by simp [sval]
    rw [this, if_neg (by omega)]
    split <;> omega
  rw [← hr] at hcmp
  have t0 : decide (r < 0) = false := by simp; omega
  have hshort := fun W (hW : Fresh w W) => natShort_any (.slice aa al.length ca) al b W (ha.fresh hW) (by omega) hb0 (by omega)
  obtain ⟨gb, rfl, hcb, hgb, hcells⟩ := hb.cells (n := 1) rfl (by omega)
  have hc0 := hcells 0 (by omega)
  have e0 : [b].getD 0 0 = b := rfl
  rw [e0] at hc0
  have e1 : [b].length = 1 := rfl
  rw [e1] at hcmp ⊢
  generalize al.length = n at *
  clear hr hcells ha hb e0 e1
  have H_hcmp := Lib.hid hcmp; clear hcmp
  have H_hshort := Lib.hid hshort; clear hshort
  have H_hna := Lib.hid hna; clear hna
  have H_hnb := Lib.hid hnb; clear hnb
  have H_hge := Lib.hid hge; clear hge
  go_enter Tryz.func20, Tryz.ntmps20
  go_wp2_with (fail)
  refine H_hcmp.out.mono ?_
  rintro e w2 ⟨rfl, nq, hnq⟩
  have hf : Fresh w w2 := by rw [hnq]; exact (Keep.refl _ _).drewN nq
  clear hnq
  have k0 := cell_fresh hc0 hf
  clear hc0
  have H_hf := Lib.hid hf; clear hf
  go_wp2_with (fail)
  refine (H_hshort.out _ H_hf.out).mono ?_
  rintro e w3 ⟨q, m, rfl, m1, m2, m3, m4⟩
  obtain ⟨aq, cq, rfl⟩ := m1.form
  have hrl := Nat.mod_lt (sval al) hb0
  have f3 := fresh_trans H_hf.out m4
  obtain ⟨rr, hrr⟩ : ∃ rr, rr = sval al % b := ⟨_, rfl⟩
  rw [← hrr] at hrl ⊢
  clear k0
  have H_m1 := Lib.hid m1; clear m1
  have H_m2 := Lib.hid m2; clear m2
  have H_m3 := Lib.hid m3; clear m3
  have H_m4 := Lib.hid m4; clear m4
  have H_f3 := Lib.hid f3; clear f3
  have H_hrr := Lib.hid hrr; clear hrr
  go_wp2_with (fail)
  refine (NatFrom_any rr _ (by omega)).mono ?_
  rintro e w4 ⟨v, l, rfl, r1, r2, r3, r4⟩
  have m5 := H_m1.out.fresh r4
  have f4 := fresh_trans H_f3.out r4
  have H_r1 := Lib.hid r1; clear r1
  have H_r2 := Lib.hid r2; clear r2
  have H_r3 := Lib.hid r3; clear r3
  have H_r4 := Lib.hid r4; clear r4
  have H_m5 := Lib.hid m5; clear m5
  have H_f4 := Lib.hid f4; clear f4
  go_wp2_with (fail)
  go_ret2
  exact ⟨_, _, m, l, rfl, H_m5.out, H_m2.out, H_m3.out, H_r1.out, H_r2.out, H_r3.out.trans H_hrr.out, H_f4.out⟩

end Go.Proofs.YtecadiflbfpofaaGreatDoor
