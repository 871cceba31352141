/- The contracts of the reference's natural numbers: natTrim, NatCmp, NatFrom. -/
import Derived.Test.YtmgidnjpkbgmgabGreatDoorProg
import Derived.Outline
import Derived.WalkLawsBesides
import Derived.WalkSpells
import Derived.Test.YtmgidnjpkbgmgabGreatDoorKB1
namespace Go.Proofs.YtmgidnjpkbgmgabGreatDoor
open Go.RowKit

theorem info_u32 : (Tryz.prog.info? 102).map (fun i => (i.zero, i.size, i.bytes)) = some (some (.int .u32 0), 1, 4) := by kernel_rfl

set_option maxHeartbeats 400000 in
theorem natTrim_any (v : Value) (l : List Nat) (w : World) (h : SNat w v l) : Calls Tryz.prog 85 #[v] w (SRet w (sval l)) := by
  by_cases h0 : l.length = 0
  · obtain rfl : l = [] := List.eq_nil_of_length_eq_zero h0
    obtain ⟨a, c, rfl⟩ := h.form
    have H_h := Lib.hid h
    clear h h0
    go_enter Tryz.func85, Tryz.ntmps85
    go_wp2
    refine wp_loop_rounds 1 ?_
    rw [rounds_succ]
    go_wp2
    go_ret
    exact ⟨_, [], rfl, H_h.out, Norm.nil, rfl, Keep.refl _ _⟩
  · obtain ⟨g, cap, rfl, h1, h2, h3, h4⟩ := h.open_pos (by omega)
    have hlen := h.len
    generalize hn : l.length = n at *
    have H_h := Lib.hid h; clear h
    have H_h4 := Lib.hid h4; clear h4
    go_enter Tryz.func85, Tryz.ntmps85
    go_wp2
    go_loop [0] (fun v => ∃ k : Nat, k ≤ n ∧ v = .slice (some ⟨g, 0, none⟩) k cap ∧ Hid (normL.normK l n = normL.normK l k)) (fun v => match v with | .slice _ m _ => m | _ => 0)
    case atStart => exact ⟨n, Nat.le_refl _, rfl, rfl⟩
    case round =>
      obtain ⟨k, hk, rfl, he⟩ := hrel
      cases k with
      | zero =>
        go_wp2
        go_ret
        have hc := SNat.cut (w := w) (l := l) (by rw [hn]; exact H_h.out) (n := 0) (by omega)
        have hv : sval (normL l) = sval l := normL_sval l
        have hz : normL l = l.take 0 := by unfold normL; rw [hn, he.out]; rfl
        exact ⟨_, l.take 0, rfl, hc, by rw [← hz]; exact normL_norm l, by rw [← hz]; exact hv, Keep.refl _ _⟩
      | succ k =>
        have hc := H_h4.out k (by omega)
        generalize hx : l.getD k 0 = x at *
        have H_hx := Lib.hid hx
        clear hx
        have e1 : ((k : Int) + 1 - 1) = (k : Int) := by omega
        have e2 : ((k : Int) + 1 - 1).toNat = k := by omega
        by_cases hx0 : x = 0
        · have ht : ((x : Int) == 0) = true := by subst hx0; rfl
          have H_hx0 := Lib.hid hx0
          clear hx0
          go_wp2
          go_round
          case rel =>
            refine ⟨k, by omega, by simp, ?_⟩
            have := he.out
            simp only [normL.normK] at this
            rw [if_pos (by rw [H_hx.out]; exact H_hx0.out)] at this
            exact this
          case measure => simp
        · have ht : ((x : Int) == 0) = false := by rw [beq_eq_false_iff_ne]; omega
          have H_hx0 := Lib.hid hx0
          clear hx0
          go_wp2
          go_ret
          have hc := SNat.cut (w := w) (l := l) (by rw [hn]; exact H_h.out) (n := k + 1) (by omega)
          have hz : normL l = l.take (k + 1) := by
            unfold normL; rw [hn, he.out]; simp only [normL.normK]; rw [if_neg (by rw [H_hx.out]; exact H_hx0.out)]
          exact ⟨_, l.take (k + 1), rfl, hc, by rw [← hz]; exact normL_norm l, by rw [← hz]; exact normL_sval l, Keep.refl _ _⟩

end Go.Proofs.YtmgidnjpkbgmgabGreatDoor

/- The contracts of the reference's natural numbers: NatFrom, NatCmp. -/
namespace Go.Proofs.YtmgidnjpkbgmgabGreatDoor
open Go.RowKit

theorem scmp_eq {xs ys : List Nat} (hl : xs.length = ys.length) (hd : ∀ j, j < xs.length → xs.getD j 0 = ys.getD j 0) : cmpN (sval xs) (sval ys) = 0 := by
  have : xs = ys := ext_getD hl hd
  rw [this]; exact cmpN_eq _

set_option maxRecDepth 20000 in
set_option maxHeartbeats 1000000 in
theorem NatCmp_any (xv yv : Value) (xs ys : List Nat) (w : World) (hx : SNat w xv xs) (hy : SNat w yv ys) (hnx : Norm xs) (hny : Norm ys) :
    Calls Tryz.prog 83 #[xv, yv] w (Quiet w (.int .i64 (cmpN (sval xs) (sval ys)))) := by
  have hlx := hx.len
  have hly := hy.len
  rcases Nat.lt_trichotomy xs.length ys.length with hlt | heq | hgt
  · rw [cmpN_lt (sval_cmp_len hny hx.lim hlt)]
    obtain ⟨ax, cx, hxv⟩ := hx.form
    obtain ⟨ay, cy, hyv⟩ := hy.form
    generalize xs.length = m at *
    generalize ys.length = n at *
    subst hxv hyv
    have H_hx := Lib.hid hx; clear hx
    have H_hy := Lib.hid hy; clear hy
    have H_hnx := Lib.hid hnx; clear hnx
    have H_hny := Lib.hid hny; clear hny
    have t1 : ((m : Int) == (n : Int)) = false := by rw [beq_eq_false_iff_ne]; omega
    go_enter Tryz.func83, Tryz.ntmps83
    go_wp2
    go_ret
    exact ⟨rfl, 0, rfl⟩
  · by_cases h0 : xs.length = 0
    · have h1 : ys.length = 0 := by omega
      obtain rfl : xs = [] := List.eq_nil_of_length_eq_zero h0
      obtain rfl : ys = [] := List.eq_nil_of_length_eq_zero h1
      obtain ⟨ax, cx, rfl⟩ := hx.form
      obtain ⟨ay, cy, rfl⟩ := hy.form
      rw [cmpN_eq]
      clear hx hy hnx hny heq h0 h1 hlx hly
      go_enter Tryz.func83, Tryz.ntmps83
      go_wp2
      refine wp_loop_rounds 1 ?_
      rw [rounds_succ]
      go_wp2
      go_ret
      exact ⟨rfl, 0, rfl⟩
    · obtain ⟨gx, cx, rfl, hx1, hx2, hx3, hcx⟩ := hx.open_pos (by omega)
      obtain ⟨gy, cy, rfl, hy1, hy2, hy3, hcy⟩ := hy.open_pos (by omega)
      have limx := hx.lim
      have limy := hy.lim
      rw [← heq] at hcy hy1 hly ⊢
      have e1 := heq
      generalize hm : xs.length = m at *
      have hm0 : ((m : Int) == (m : Int)) = true := by simp
      have H_hx := Lib.hid hx; clear hx
      have H_hy := Lib.hid hy; clear hy
      have H_hnx := Lib.hid hnx; clear hnx
      have H_hny := Lib.hid hny; clear hny
      have H_hcx := Lib.hid hcx; clear hcx
      have H_hcy := Lib.hid hcy; clear hcy
      have H_limx := Lib.hid limx; clear limx
      have H_limy := Lib.hid limy; clear limy
      have H_hm := Lib.hid hm; clear hm
      have H_e1 := Lib.hid e1; clear e1
      clear heq
      go_enter Tryz.func83, Tryz.ntmps83
      go_wp2_with (fail)
      go_loopw [5] (fun i wr => ∃ k : Nat, k ≤ m ∧ i = .int .i64 ((k : Int) - 1) ∧ Hid (∀ j, k ≤ j → j < m → xs.getD j 0 = ys.getD j 0) ∧ ∃ nd, wr = w.drewN nd) (fun i _ => (intOf i + 1).toNat)
      case atStart => exact ⟨m, by omega, by simp, fun j h1 h2 => by omega, 0, rfl⟩
      case round =>
        obtain ⟨k, hk, rfl, hag, nd, rfl⟩ := hrel
        cases k with
        | zero =>
          have hres : cmpN (sval xs) (sval ys) = 0 := scmp_eq (by rw [H_hm.out]; exact H_e1.out) (fun j hj => hag.out j (by omega) (by rw [H_hm.out] at hj; exact hj))
          have H_hres := Lib.hid hres; clear hres
          go_wp2_with (fail)
          go_ret
          exact ⟨by rw [H_hres.out]; rfl, nd, rfl⟩
        | succ k =>
          have ek : (((k + 1 : Nat) : Int) - 1) = (k : Int) := by omega
          rw [ek]
          have hcx := H_hcx.out k (by omega)
          have hcy := H_hcy.out k (by omega)
          generalize hx : xs.getD k 0 = x at *
          generalize hy : ys.getD k 0 = y at *
          have H_hx := Lib.hid hx; clear hx
          have H_hy := Lib.hid hy; clear hy
          have hk0 : (0 : Int) ≤ (k : Int) := by omega
          have hkm : (k : Int) < (m : Int) := by omega
          rcases Nat.lt_trichotomy x y with hlt | heq | hgt
          · have res := scmp_at_lt H_limx.out (by rw [H_hm.out]; exact H_e1.out) (k := k) (by rw [H_hm.out]; omega) (fun j h1 h2 => hag.out j h1 (by rw [H_hm.out] at h2; exact h2)) (by rw [H_hx.out, H_hy.out]; exact hlt)
            have t1 : ((x : Int) == (y : Int)) = false := by rw [beq_eq_false_iff_ne]; omega
            have t2 : decide (x < y) = true := by simpa using hlt
            have H_res := Lib.hid res; clear res
            go_wp2_with (go_quiet (fail))
            go_ret
            exact ⟨by rw [H_res.out]; rfl, _, by simp only [World.drewN_drewN]; rfl⟩
          · subst heq
            have t1 : ((x : Int) == (x : Int)) = true := by simp
            go_wp2_with (go_quiet (fail))
            go_roundw
            case rel =>
              refine ⟨k, by omega, rfl, fun j h1 h2 => ?_, _, rfl⟩
              by_cases e : j = k
              · subst e; rw [H_hx.out, H_hy.out]
              · exact hag.out j (by omega) h2
            case measure => simp [intOf]
          · have res := scmp_at_gt H_limy.out (by rw [H_hm.out]; exact H_e1.out) (k := k) (by rw [H_hm.out]; omega) (fun j h1 h2 => hag.out j h1 (by rw [H_hm.out] at h2; exact h2)) (by rw [H_hx.out, H_hy.out]; exact hgt)
            have t1 : ((x : Int) == (y : Int)) = false := by rw [beq_eq_false_iff_ne]; omega
            have t2 : decide (x < y) = false := by simp; omega
            have t3 : decide (y < x) = true := by simpa using hgt
            have H_res := Lib.hid res; clear res
            go_wp2_with (go_quiet (fail))
            go_ret
            exact ⟨by rw [H_res.out]; rfl, _, by simp only [World.drewN_drewN]; rfl⟩
  · rw [cmpN_gt (sval_cmp_len hnx hy.lim hgt)]
    obtain ⟨ax, cx, hxv⟩ := hx.form
    obtain ⟨ay, cy, hyv⟩ := hy.form
    generalize xs.length = m at *
    generalize ys.length = n at *
    subst hxv hyv
    have H_hx := Lib.hid hx; clear hx
    have H_hy := Lib.hid hy; clear hy
    have H_hnx := Lib.hid hnx; clear hnx
    have H_hny := Lib.hid hny; clear hny
    have t1 : ((m : Int) == (n : Int)) = false := by rw [beq_eq_false_iff_ne]; omega
    go_enter Tryz.func83, Tryz.ntmps83
    go_wp2
    go_ret
    exact ⟨rfl, 0, rfl⟩

end Go.Proofs.YtmgidnjpkbgmgabGreatDoor
