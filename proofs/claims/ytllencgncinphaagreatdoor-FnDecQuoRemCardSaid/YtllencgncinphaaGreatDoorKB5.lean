/- The contracts of math/big's natural numbers: add, sub. -/
import Derived.Test.YtllencgncinphaaGreatDoorKB4
namespace Go.Proofs.YtllencgncinphaaGreatDoor
open Go.RowKit
open Go.Lib (hid)

theorem NatAt.spl {w : World} {g off cap : Nat} {L l : List Nat} (hc : cap ≤ 9223372036854775807) (h : Blk .u64 w g (spl L off l)) (h1 : l.length ≤ cap) (h2 : off + cap ≤ L.length) (hL : ∀ x ∈ L, x < 18446744073709551616) (hl : ∀ x ∈ l, x < 18446744073709551616) :
 NatAt w (.slice (some ⟨g, off, none⟩) l.length cap) l := by
 have := NatAt.mk (n := l.length) hc h h1 (by rw [spl_length (by omega)]; exact h2) (fun x hx => by
  rcases spl_mem hx with h | h
  · exact hL x h
  · exact hl x h)
 rw [seg_spl (by omega)] at this
 exact this

theorem NatRet.own {w : World} {zv : Value} {n : Nat} {e : Ending} {w' : World} (h : NatRet w zv n e w') : ∃ rv, e = .returned rv ∧ NatRet w zv n (.returned rv) w' := by
 obtain ⟨rv, l, rfl, h⟩ := h
 exact ⟨rv, rfl, rv, l, rfl, h⟩

theorem Norm.len_le_len {l m : List Nat} (hm : Norm m) (hl : ∀ a ∈ l, a < 18446744073709551616) (h : val m ≤ val l) : m.length ≤ l.length := by
 rcases Nat.lt_or_ge l.length m.length with h1 | h1
 · have := val_cmp_len hm hl h1; omega
 · exact h1

theorem val_at {l : List Nat} {k : Nat} (h : k < l.length) : val l = val (l.take k) + wpow k * (l.getD k 0 + 18446744073709551616 * val (l.drop (k + 1))) := by
 have e := val_append (l.take k) (l.drop k)
 rw [List.take_append_drop] at e
 rw [e, List.drop_eq_getElem_cons h]
 simp [val, List.getD, h, Nat.min_eq_left (Nat.le_of_lt h)]

theorem val_lt_at {xs ys : List Nat} {k : Nat} (hx : ∀ a ∈ xs, a < 18446744073709551616) (hk : k < xs.length) (hl : xs.length = ys.length) (hd : ∀ j, k < j → j < xs.length → xs.getD j 0 = ys.getD j 0) (h : xs.getD k 0 < ys.getD k 0) : val xs < val ys := by
 rw [val_at hk, val_at (l := ys) (k := k) (by omega)]
 have e : xs.drop (k + 1) = ys.drop (k + 1) := by
  apply ext_getD
  · simp [hl]
  · intro i hi
    have := hd (k + 1 + i) (by omega) (by simp at hi; omega)
    simpa [List.getD, List.getElem?_drop] using this
 rw [e]
 have h1 := val_lt (xs := xs.take k) (fun a ha => hx a (List.mem_of_mem_take ha))
 rw [List.length_take, Nat.min_eq_left (Nat.le_of_lt hk)] at h1
 have h2 : wpow k * (xs.getD k 0 + 18446744073709551616 * val (ys.drop (k + 1))) + wpow k ≤ wpow k * (ys.getD k 0 + 18446744073709551616 * val (ys.drop (k + 1))) := by
  rw [← Nat.mul_succ]; exact Nat.mul_le_mul_left _ (by omega)
 omega

theorem cmp_at_lt {xs ys : List Nat} (hx : ∀ a ∈ xs, a < 18446744073709551616) (hl : xs.length = ys.length) {k : Nat} (hk : k < xs.length) (hd : ∀ j, k < j → j < xs.length → xs.getD j 0 = ys.getD j 0) (h : xs.getD k 0 < ys.getD k 0) : cmpN (val xs) (val ys) = -1 :=
 cmpN_lt (val_lt_at hx hk hl hd h)

theorem cmp_at_gt {xs ys : List Nat} (hy : ∀ a ∈ ys, a < 18446744073709551616) (hl : xs.length = ys.length) {k : Nat} (hk : k < xs.length) (hd : ∀ j, k < j → j < xs.length → xs.getD j 0 = ys.getD j 0) (h : ys.getD k 0 < xs.getD k 0) : cmpN (val xs) (val ys) = 1 :=
 cmpN_gt (val_lt_at hy (by omega) hl.symm (fun j h1 h2 => (hd j h1 (by omega)).symm) h)

theorem cmp_at_eq {xs ys : List Nat} (hl : xs.length = ys.length) (hd : ∀ j, 0 < j → j < xs.length → xs.getD j 0 = ys.getD j 0) (h : xs.getD 0 0 = ys.getD 0 0) : cmpN (val xs) (val ys) = 0 := by
 have : xs = ys := ext_getD hl (fun i hi => by
  rcases Nat.eq_zero_or_pos i with rfl | h0
  · exact h
  · exact hd i h0 hi)
 rw [this]; exact cmpN_eq _

set_option maxRecDepth 20000 in
set_option maxHeartbeats 1000000 in
theorem cmp_same (gx ox cx gy oy cy m : Nat) (M K : List Nat) (w : World) (hm : 0 < m) (hm2 : m ≤ 1000000)
 (bx : Blk .u64 w gx M) (by_ : Blk .u64 w gy K) (hx2 : ox + m ≤ M.length) (hy2 : oy + m ≤ K.length) (hxb : ∀ a ∈ M, a < 18446744073709551616) (hyb : ∀ a ∈ K, a < 18446744073709551616) :
 Calls Tryz.prog 146 #[.slice (some ⟨gx, ox, none⟩) m cx, .slice (some ⟨gy, oy, none⟩) m cy] w (Quiet w (.int .i64 (cmpN (val (seg M ox m)) (val (seg K oy m))))) := by
 have hm0 : ((m : Int) == 0) = false := by rw [beq_eq_false_iff_ne]; omega
 have hlx := seg_length hx2
 have hly := seg_length hy2
 have hbx : ∀ a ∈ seg M ox m, a < 18446744073709551616 := fun a ha => hxb a (seg_mem ha)
 have hby : ∀ a ∈ seg K oy m, a < 18446744073709551616 := fun a ha => hyb a (seg_mem ha)
 have hgx : ∀ j, j < m → (seg M ox m).getD j 0 = M.getD (ox + j) 0 := fun j hj => seg_getD hj
 have hgy : ∀ j, j < m → (seg K oy m).getD j 0 = K.getD (oy + j) 0 := fun j hj => seg_getD hj
 generalize seg M ox m = xs at *
 generalize seg K oy m = ys at *
 have H_bx := hid bx; have H_by_ := hid by_; have H_hx2 := hid hx2; have H_hy2 := hid hy2; have H_hxb := hid hxb; have H_hyb := hid hyb; have H_hlx := hid hlx; have H_hly := hid hly; have H_hbx := hid hbx; have H_hby := hid hby; have H_hgx := hid hgx; have H_hgy := hid hgy; clear bx by_ hx2 hy2 hxb hyb hlx hly hbx hby hgx hgy
 go_enter Tryz.func146, Tryz.ntmps146
 go_wp2_with (fail)
 go_loopw [7] (fun i wr => ∃ k : Nat, k < m ∧ i = .int .i64 k ∧ Hid (∀ j, k < j → j < m → xs.getD j 0 = ys.getD j 0) ∧ ∃ nd, wr = w.drewN nd) (fun i _ => (intOf i).toNat)
 case atStart => exact ⟨m - 1, by omega, by simp; omega, fun j h1 h2 => by omega, 0, rfl⟩
 case round =>
  obtain ⟨k, hk, rfl, hag, nd, rfl⟩ := hrel
  have hcx := H_bx.out.cell (o := ox + k) (by have := H_hx2.out; omega)
  have hcy := H_by_.out.cell (o := oy + k) (by have := H_hy2.out; omega)
  have hgx := H_hgx.out k hk
  have hgy := H_hgy.out k hk
  generalize hx : M.getD (ox + k) 0 = x at *
  generalize hy : K.getD (oy + k) 0 = y at *
  have H_hgx := hid hgx; have H_hgy := hid hgy; have H_hx := hid hx; have H_hy := hid hy; clear hgx hgy hx hy
  have hk0 : (0 : Int) ≤ (k : Int) := by omega
  have hkm : (k : Int) < (m : Int) := by omega
  rcases Nat.lt_trichotomy x y with hlt | heq | hgt
  · have res := cmp_at_lt H_hbx.out (by rw [H_hlx.out, H_hly.out]) (k := k) (by rw [H_hlx.out]; exact hk) (fun j h1 h2 => hag.out j h1 (by rw [H_hlx.out] at h2; exact h2)) (by rw [H_hgx.out, H_hgy.out]; exact hlt)
    have t1 : ((x : Int) == (y : Int)) = false := by rw [beq_eq_false_iff_ne]; omega
    have t2 : decide (x < y) = true := by simpa using hlt
    have H_res := hid res; clear res
    by_cases hkz : 0 < k
    · have hkz' : decide ((0 : Int) < (k : Int)) = true := by simp; omega
      go_wp2_with (go_quiet (fail))
      go_ret
      exact ⟨by rw [H_res.out]; rfl, _, by simp only [World.drewN_drewN]; rfl⟩
    · have hkz' : decide ((0 : Int) < (k : Int)) = false := by simp; omega
      go_wp2_with (go_quiet (fail))
      go_ret
      exact ⟨by rw [H_res.out]; rfl, _, by simp only [World.drewN_drewN]; rfl⟩
  · subst heq
    have t1 : ((x : Int) == (x : Int)) = true := by simp
    by_cases hkz : 0 < k
    · have hkz' : decide ((0 : Int) < (k : Int)) = true := by simp; omega
      go_wp2_with (go_quiet (fail))
      go_roundw
      case rel =>
       refine ⟨k - 1, by omega, by simp; omega, fun j h1 h2 => ?_, _, rfl⟩
       by_cases e : j = k
       · subst e; rw [H_hgx.out, H_hgy.out]
       · exact hag.out j (by omega) h2
      case measure => simp [intOf]; omega
    · have hkz' : decide ((0 : Int) < (k : Int)) = false := by simp; omega
      have hk00 : k = 0 := by omega
      have res := cmp_at_eq (xs := xs) (ys := ys) (by rw [H_hlx.out, H_hly.out]) (fun j h1 h2 => hag.out j (by omega) (by rw [H_hlx.out] at h2; exact h2)) (by have h1 := H_hgx.out; have h2 := H_hgy.out; rw [hk00] at h1 h2; rw [h1, h2])
      have t2 : decide (x < x) = false := by simp
      have H_res := hid res; have H_hk00 := hid hk00; clear res hk00
      go_wp2_with (go_quiet (fail))
      go_ret
      exact ⟨by rw [H_res.out]; rfl, _, by simp only [World.drewN_drewN]; rfl⟩
  · have res := cmp_at_gt H_hby.out (by rw [H_hlx.out, H_hly.out]) (k := k) (by rw [H_hlx.out]; exact hk) (fun j h1 h2 => hag.out j h1 (by rw [H_hlx.out] at h2; exact h2)) (by rw [H_hgx.out, H_hgy.out]; exact hgt)
    have t1 : ((x : Int) == (y : Int)) = false := by rw [beq_eq_false_iff_ne]; omega
    have t2 : decide (x < y) = false := by simp; omega
    have t3 : decide (y < x) = true := by simpa using hgt
    have H_res := hid res; clear res
    by_cases hkz : 0 < k
    · have hkz' : decide ((0 : Int) < (k : Int)) = true := by simp; omega
      go_wp2_with (go_quiet (fail))
      go_ret
      exact ⟨by rw [H_res.out]; rfl, _, by simp only [World.drewN_drewN]; rfl⟩
    · have hkz' : decide ((0 : Int) < (k : Int)) = false := by simp; omega
      go_wp2_with (go_quiet (fail))
      go_ret
      exact ⟨by rw [H_res.out]; rfl, _, by simp only [World.drewN_drewN]; rfl⟩

set_option maxHeartbeats 400000 in
theorem nat_cmp (xv yv : Value) (xl yl : List Nat) (w : World) (hn : xl.length ≤ 1000000) (hn' : yl.length ≤ 1000000) (hx : NatAt w xv xl) (hy : NatAt w yv yl) (hnx : Norm xl) (hny : Norm yl) :
 Calls Tryz.prog 146 #[xv, yv] w (Quiet w (.int .i64 (cmpN (val xl) (val yl)))) := by
 rcases Nat.lt_trichotomy xl.length yl.length with hlt | heq | hgt
 · rw [cmpN_lt (val_cmp_len hny hx.bnd hlt)]
   obtain ⟨ax, cx, hxv⟩ := hx.form
   obtain ⟨ay, cy, hyv⟩ := hy.form
   generalize xl.length = m at *
   generalize yl.length = n at *
   subst hxv hyv
   have H_hx := hid hx; have H_hy := hid hy; have H_hnx := hid hnx; have H_hny := hid hny; clear hx hy hnx hny
   have t1 : ((m : Int) == (n : Int)) = false := by rw [beq_eq_false_iff_ne]; omega
   go_enter Tryz.func146, Tryz.ntmps146
   go_wp2
   go_ret
   exact ⟨rfl, 0, rfl⟩
 · by_cases h0 : xl.length = 0
   · have h1 : yl.length = 0 := by omega
     obtain rfl : xl = [] := List.eq_nil_of_length_eq_zero h0
     obtain rfl : yl = [] := List.eq_nil_of_length_eq_zero h1
     obtain ⟨ax, cx, rfl⟩ := hx.form
     obtain ⟨ay, cy, rfl⟩ := hy.form
     rw [cmpN_eq]
     clear hx hy hnx hny heq h0 h1 hn hn'
     go_enter Tryz.func146, Tryz.ntmps146
     go_wp2
     go_ret
     exact ⟨rfl, 0, rfl⟩
   · obtain ⟨gx, ox, cx, M, rfl, bx, hx1, hx2, hx3, hx4⟩ := hx.open_pos (by omega)
     obtain ⟨gy, oy, cy, K, rfl, by_, hy1, hy2, hy3, hy4⟩ := hy.open_pos (by omega)
     have := cmp_same gx ox cx gy oy cy xl.length M K w (by omega) hn bx by_ (by omega) (by omega) hx4 hy4
     rw [heq] at this hx3 ⊢
     rw [← hx3, ← hy3] at this
     exact this
 · rw [cmpN_gt (val_cmp_len hnx hy.bnd hgt)]
   obtain ⟨ax, cx, hxv⟩ := hx.form
   obtain ⟨ay, cy, hyv⟩ := hy.form
   generalize xl.length = m at *
   generalize yl.length = n at *
   subst hxv hyv
   have H_hx := hid hx; have H_hy := hid hy; have H_hnx := hid hnx; have H_hny := hid hny; clear hx hy hnx hny
   have t1 : ((m : Int) == (n : Int)) = false := by rw [beq_eq_false_iff_ne]; omega
   go_enter Tryz.func146, Tryz.ntmps146
   go_wp2
   go_ret
   exact ⟨rfl, 0, rfl⟩

end Go.Proofs.YtllencgncinphaaGreatDoor
