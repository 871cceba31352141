/- govalues' whole numbers of 64 bits: add, subAbs, isOdd, rshHalfEven. -/
import Derived.WalkSmall
import Derived.Test.YtllencgncinphaaGreatDoorKF16
import Derived.Test.YtllencgncinphaaGreatDoorKF20
import Derived.Test.YtllencgncinphaaGreatDoorKF25
import Derived.Test.YtllencgncinphaaGreatDoorKF30
import Derived.Test.YtllencgncinphaaGreatDoorKF37
import Derived.Test.YtllencgncinphaaGreatDoorKF43
namespace Go.Proofs.YtllencgncinphaaGreatDoor
open Go.RowKit
open Go.Lib (hid)





theorem BI.words {w : World} {g n : Nat} {v : Value} (h : BI w g v n) :
 (n = 0 ∧ ∃ a c, v = .slice a 0 c) ∨ (0 < n ∧ ∃ gx ox cx m, v = .slice (some ⟨gx, ox, none⟩) (m + 1 : Nat) cx ∧ w.cell? ⟨gx, ox, none⟩ = some (wd .u64 (n % 18446744073709551616)) ∧ (n < 18446744073709551616 → m = 0)) := by
 obtain ⟨l, hi, rfl⟩ := h
 by_cases h0 : l.length = 0
 · obtain ⟨a, c, hv⟩ := hi.nat.form
   rw [h0] at hv
   exact .inl ⟨by rw [List.eq_nil_of_length_eq_zero h0]; rfl, a, c, hv⟩
 · obtain ⟨gx, ox, cx, M, rfl, bx, h1, h2, h3, h4⟩ := hi.nat.open_pos (by omega)
   right
   obtain ⟨m, hm⟩ : ∃ m, l.length = m + 1 := ⟨l.length - 1, by omega⟩
   have hp : 0 < val l := by
    rcases Nat.eq_zero_or_pos (val l) with h | h
    · have := val_nil_of hi.norm h
      rw [this] at h0; simp at h0
    · exact h
   refine ⟨hp, gx, ox, cx, m, by rw [hm], ?_, ?_⟩
   · have hc := bx.cell (o := ox) (by omega)
     have hs : l = M.getD ox 0 :: seg M (ox + 1) m := by
      conv => lhs; rw [h3, hm]
      exact seg_head (by omega)
     have hlt := getD_lt h4 pos64 ox
     have hv : val l % 18446744073709551616 = M.getD ox 0 := by
      rw [hs]
      simp only [val]
      rw [Nat.add_mul_mod_self_left, Nat.mod_eq_of_lt hlt]
     rw [hv]; exact hc
   · intro hlt
     have := hi.norm.len_le (k := 1) (by unfold wpow; omega)
     omega







end Go.Proofs.YtllencgncinphaaGreatDoor
