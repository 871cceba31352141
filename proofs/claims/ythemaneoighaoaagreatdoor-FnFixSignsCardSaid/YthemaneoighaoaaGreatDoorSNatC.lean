/- The contracts of the reference's natural numbers: NatFrom. -/
import Derived.Test.YthemaneoighaoaaGreatDoorSNatB
import Derived.OwnWalk
namespace Go.Proofs.YthemaneoighaoaaGreatDoor
open Go.RowKit

theorem norm_snoc {l : List Nat} {x : Nat} (h : 0 < x) : Norm (l ++ [x]) := by
  intro k hk
  have : k = l.length := by simp at hk; omega
  subst this
  rw [getD_append]; simp; omega

theorem Fresh.owns {w wr w1 : World} {B T n : Nat} {v : Value} {xs : List Value} (h : Fresh w wr) (ho : wr.ownsRow B T 1 v n xs) (hB : w.heap.size ≤ B) (hg : wr.grownBy w1 v.ownBlock) : Fresh w w1 := by
  refine h.trans (T := fun k => v.ownBlock = some k) ⟨hg.os, hg.tape, hg.output, hg.size, fun k hk hs => hg.block k hk (fun e => hs e.symm)⟩ (fun _ _ h => h) (fun k hk hs => ?_)
  have := (ho.lt k hs).1
  omega

set_option maxRecDepth 20000 in
set_option maxHeartbeats 1000000 in
theorem NatFrom_any (n : Nat) (w : World) (hn : n < 18446744073709551616) : Calls Tryz.prog 27 #[.int .u64 n] w (SRet w n) := by
  obtain ⟨i0, hi, hz0, hz1, hz2⟩ := info_parts info_u32
  go_enter Tryz.func27, Tryz.ntmps27
  go_wp2
  go_loopw [0, 3] (fun i v wr => ∃ (k : Nat) (l : List Nat), k < 18446744073709551616 ∧ i = .int .u64 k ∧ wr.ownsRow w.heap.size 66 1 v l.length (l.map (wd .u32)) ∧ Hid (Lim l) ∧ Hid (l.length ≤ 1000) ∧ Hid (sval l + spow l.length * k = n) ∧ Hid (k = 0 → Norm l) ∧ Hid (Fresh w wr)) (fun i _ _ => (intOf i).toNat)
  case atStart => exact ⟨n, [], hn, rfl, World.ownsRow_nil _ _ _ _, Lim.nil, Lib.hid (by simp), Lib.hid (by simp [sval, spow_zero]), fun _ => Norm.nil, Keep.refl _ _⟩
  case round =>
    obtain ⟨k, l, hk, rfl, hown, hlim, hlen, hval, hnorm, hf⟩ := hrel
    have H_hown := Lib.hid hown
    by_cases hk0 : k = 0
    · have t1 : decide (0 < k) = false := by simp [hk0]
      have H_hk0 := Lib.hid hk0
      clear hk0 hown
      go_wp2_with (fail)
      go_ret
      refine ⟨_, l, rfl, SNat.of_owns H_hown.out hlim.out (by have := hlen.out; omega), hnorm.out H_hk0.out, ?_, hf.out⟩
      have := hval.out
      rw [H_hk0.out] at this; simpa using this
    · have t1 : decide (0 < k) = true := by simp; omega
      have hlb : l.length ≤ 3 := by
        have h1 := hval.out
        rcases Nat.lt_or_ge 3 l.length with h2 | h2
        · have h3 := spow_mono (m := 3) (n := l.length) (by omega)
          have h4 : spow 3 = 1000000000000000000000000000 := rfl
          have h5 : spow l.length * 1 ≤ spow l.length * k := Nat.mul_le_mul_left _ (by omega)
          omega
        · exact h2
      have hsz := hf.out.size
      go_wp2_with (at_builtin; refine wpList_append_own _ rfl _ _ 27 rfl w.heap.size 66 i0 (.int .u32 0) 1 4 Tryz.underlying27 hi hz0 hz1 hz2 rfl (by decide) _ _ _ rfl (hown.alloc _) ⟨wr.heap.size, 0, none⟩ 1 1 [wd .u32 (k % 1000000000)] rfl rfl ?c1 ?c2 ?c3 ?c4 ?c5 ?_)
      case c1 =>
        intro j u hj
        match j, hj with
        | 0, hj => simp at hj; subst hj; simp [Addr.add, wd]
      case c2 => intro u hu; simp at hu; subst hu; rfl
      case c3 => unfold maxLen; omega
      case c4 => omega
      case c5 => simp; omega
      · intro v' w1 hown' hgrow _
        have hf1 : Fresh w w1 := Fresh.owns (hf.out.alloc _) (H_hown.out.alloc _) (Nat.le_refl _) hgrow
        have hL : (l ++ [k % 1000000000]).length = l.length + 1 := by simp
        have hown1 : w1.ownsRow w.heap.size 66 1 v' (l ++ [k % 1000000000]).length ((l ++ [k % 1000000000]).map (wd .u32)) := by
          rw [hL, List.map_append]; exact hown'
        have H_hown1 := Lib.hid hown1; clear hown1
        have H_hf1 := Lib.hid hf1; clear hf1
        clear hown' hgrow hown
        go_wp2_with (fail)
        go_roundw
        case rel =>
          refine ⟨k / 1000000000, l ++ [k % 1000000000], by omega, by simp, H_hown1.out, hlim.out.append (Lim.one (by omega)), Lib.hid (by rw [hL]; omega), ?_, ?_, H_hf1.out⟩
          · refine Lib.hid ?_
            have h1 := hval.out
            have h2 := Nat.div_add_mod k 1000000000
            rw [sval_append, hL, spow_succ, ← h1]
            simp only [sval, Nat.mul_zero, Nat.add_zero]
            generalize k / 1000000000 = q at *
            generalize k % 1000000000 = r at *
            subst h2
            grind
          · refine Lib.hid (fun h0 => norm_snoc (by omega))
        case measure => simp [intOf]; omega

end Go.Proofs.YthemaneoighaoaaGreatDoor
