/- The contracts of the reference's natural numbers: natTrim, NatCmp, NatFrom. -/
import Derived.Test.YthemaneoighaoaaGreatDoorProg
import Derived.Test.YthemaneoighaoaaGreatDoorSVal
import Derived.Outline
import Derived.WalkLawsBesides
import Derived.WalkSpells
namespace Go.Proofs.YthemaneoighaoaaGreatDoor
open Go.RowKit

theorem info_u32 : (Tryz.prog.info? 66).map (fun i => (i.zero, i.size, i.bytes)) = some (some (.int .u32 0), 1, 4) := by kernel_rfl

set_option maxHeartbeats 400000 in
theorem natTrim_any (v : Value) (l : List Nat) (w : World) (h : SNat w v l) : Calls Tryz.prog 70 #[v] w (SRet w (sval l)) := by
  by_cases h0 : l.length = 0
  · obtain rfl : l = [] := List.eq_nil_of_length_eq_zero h0
    obtain ⟨a, c, rfl⟩ := h.form
    have H_h := Lib.hid h
    clear h h0
    go_enter Tryz.func70, Tryz.ntmps70
    go_wp2
    refine wp_loop_rounds 1 ?_
    rw [rounds_succ]
    go_wp2
    go_ret
    exact ⟨_, [], rfl, H_h.out, Norm.nil, rfl, Keep.refl _ _⟩
  · obtain ⟨g, cap, rfl, h1, h2, h3, h4⟩ := h.open_pos (by omega)
    have hlen := h.len
    generalize hn : l.length = n at *
    have H_h := Lib.hid h; clear h
    have H_h4 := Lib.hid h4; clear h4
    go_enter Tryz.func70, Tryz.ntmps70
    go_wp2
    go_loop [0] (fun v => ∃ k : Nat, k ≤ n ∧ v = .slice (some ⟨g, 0, none⟩) k cap ∧ Hid (normL.normK l n = normL.normK l k)) (fun v => match v with | .slice _ m _ => m | _ => 0)
    case atStart => exact ⟨n, Nat.le_refl _, rfl, rfl⟩
    case round =>
      obtain ⟨k, hk, rfl, he⟩ := hrel
      cases k with
      | zero =>
        go_wp2
        go_ret
        have hc := SNat.cut (w := w) (l := l) (by rw [hn]; exact H_h.out) (n := 0) (by omega)
        have hv : sval (normL l) = sval l := normL_sval l
        have hz : normL l = l.take 0 := by unfold normL; rw [hn, he.out]; rfl
        exact ⟨_, l.take 0, rfl, hc, by rw [← hz]; exact normL_norm l, by rw [← hz]; exact hv, Keep.refl _ _⟩
      | succ k =>
        have hc := H_h4.out k (by omega)
        generalize hx : l.getD k 0 = x at *
        have H_hx := Lib.hid hx
        clear hx
        have e1 : ((k : Int) + 1 - 1) = (k : Int) := by omega
        have e2 : ((k : Int) + 1 - 1).toNat = k := by omega
        by_cases hx0 : x = 0
        · have ht : ((x : Int) == 0) = true := by subst hx0; rfl
          have H_hx0 := Lib.hid hx0
          clear hx0
          go_wp2
          go_round
          case rel =>
            refine ⟨k, by omega, by simp, ?_⟩
            have := he.out
            simp only [normL.normK] at this
            rw [if_pos (by rw [H_hx.out]; exact H_hx0.out)] at this
            exact this
          case measure => simp
        · have ht : ((x : Int) == 0) = false := by rw [beq_eq_false_iff_ne]; omega
          have H_hx0 := Lib.hid hx0
          clear hx0
          go_wp2
          go_ret
          have hc := SNat.cut (w := w) (l := l) (by rw [hn]; exact H_h.out) (n := k + 1) (by omega)
          have hz : normL l = l.take (k + 1) := by
            unfold normL; rw [hn, he.out]; simp only [normL.normK]; rw [if_neg (by rw [H_hx.out]; exact H_hx0.out)]
          exact ⟨_, l.take (k + 1), rfl, hc, by rw [← hz]; exact normL_norm l, by rw [← hz]; exact normL_sval l, Keep.refl _ _⟩

end Go.Proofs.YthemaneoighaoaaGreatDoor
