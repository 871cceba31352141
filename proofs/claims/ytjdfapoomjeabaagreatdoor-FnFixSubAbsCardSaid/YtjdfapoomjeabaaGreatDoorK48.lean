/- Inside addBint and mulBint: what lies where. -/
import Derived.Test.YtjdfapoomjeabaaGreatDoorK17
import Derived.Test.YtjdfapoomjeabaaGreatDoorK40
namespace Go.Proofs.YtjdfapoomjeabaaGreatDoor
open Go.RowKit

/-- inside addBint and mulBint: the two decimals, the result's place, the two whole numbers -/
structure BS (w V : World) (g : Nat) (m1 m2 : Bool) (c1 s1 c2 s2 : Nat) (v u : Value) (a e : Nat) : Prop where
  r1 : V.heap[g]? = some (.cells #[.bool m1, .int .i8 s1, .int .u64 c1] 50 (0, 0))
  r2 : V.heap[g + 1]? = some (.cells #[.bool m2, .int .i8 s2, .int .u64 c2] 50 (0, 0))
  r3 : V.heap[g + 1 + 1]? = some (.cells #[.bool false, .int .i8 0, .int .u64 0] 50 (0, 0))
  z : BI V (g + 3) v a
  y : BI V (g + 4) u e
  ov : ∀ k, v.ownBlock = some k → g + 5 ≤ k
  ou : ∀ k, u.ownBlock = some k → g + 5 ≤ k
  od : ∀ k, v.ownBlock = some k → u.ownBlock ≠ some k
  f : Fresh w V
  hg : g = w.heap.size
  hs : g + 5 ≤ V.heap.size

section
variable {w V V' : World} {g : Nat} {m1 m2 : Bool} {c1 s1 c2 s2 : Nat} {v u : Value} {a e m : Nat}

theorem BS.cells (h : BS w V g m1 m2 c1 s1 c2 s2 v u a e) : V.cell? ⟨g, 0, none⟩ = some (.bool m1) ∧ V.cell? ⟨g, 1, none⟩ = some (.int .i8 s1) ∧ V.cell? ⟨g, 2, none⟩ = some (.int .u64 c1) ∧
    V.cell? ⟨g + 1, 0, none⟩ = some (.bool m2) ∧ V.cell? ⟨g + 1, 1, none⟩ = some (.int .i8 s2) ∧ V.cell? ⟨g + 1, 2, none⟩ = some (.int .u64 c2) :=
  ⟨row_cell h.r1 0, row_cell h.r1 1, row_cell h.r1 2, row_cell h.r2 0, row_cell h.r2 1, row_cell h.r2 2⟩

theorem BS.fresh (h : BS w V g m1 m2 c1 s1 c2 s2 v u a e) (hf : Fresh V V') : BS w V' g m1 m2 c1 s1 c2 s2 v u a e :=
  ⟨row_fresh h.r1 hf, row_fresh h.r2 hf, row_fresh h.r3 hf, h.z.fresh hf, h.y.fresh hf, h.ov, h.ou, h.od, fresh_trans h.f hf, h.hg, Nat.le_trans h.hs hf.size⟩

theorem BS.setP (h : BS w V g m1 m2 c1 s1 c2 s2 v u a e) (hb : BSet V (g + 3) v m V') : ∃ v', BS w V' g m1 m2 c1 s1 c2 s2 v' u m e := by
  obtain ⟨v', h1, h2, h3⟩ := hb
  have no : ∀ k, k ≤ g + 2 → ¬ (k = g + 3 ∨ v.ownBlock = some k) := fun k hk hh => by
    rcases hh with hh | hh
    · omega
    · have := h.ov k hh; omega
  refine ⟨v', row_keep h.r1 h2 (no _ (by omega)), row_keep h.r2 h2 (no _ (by omega)), row_keep h.r3 h2 (no _ (by omega)), h1, h.y.keep h2 ?_ ?_, ?_, h.ou, ?_, h.f.trans h2 (fun _ _ h => h) ?_, h.hg, Nat.le_trans h.hs h2.size⟩
  · rintro (hh | hh)
    · omega
    · have := h.ov _ hh; omega
  · rintro k hk (hh | hh)
    · have := h.ou k hk; omega
    · exact h.od k hh hk
  · intro k hk
    rcases h3 k hk with hh | hh
    · exact h.ov k hh
    · have := h.hs; omega
  · intro k hk hh
    rcases h3 k hk with h' | h'
    · exact h.od k h' hh
    · have := h.y.own_lt hh; omega
  · intro k hk hh
    have := h.hg
    rcases hh with rfl | hh
    · omega
    · have := h.ov k hh; omega

theorem BS.setQ (h : BS w V g m1 m2 c1 s1 c2 s2 v u a e) (hb : BSet V (g + 4) u m V') : ∃ u', BS w V' g m1 m2 c1 s1 c2 s2 v u' a m := by
  obtain ⟨u', h1, h2, h3⟩ := hb
  have no : ∀ k, k ≤ g + 2 → ¬ (k = g + 4 ∨ u.ownBlock = some k) := fun k hk hh => by
    rcases hh with hh | hh
    · omega
    · have := h.ou k hh; omega
  refine ⟨u', row_keep h.r1 h2 (no _ (by omega)), row_keep h.r2 h2 (no _ (by omega)), row_keep h.r3 h2 (no _ (by omega)), h.z.keep h2 ?_ ?_, h1, h.ov, ?_, ?_, h.f.trans h2 (fun _ _ h => h) ?_, h.hg, Nat.le_trans h.hs h2.size⟩
  · rintro (hh | hh)
    · omega
    · have := h.ou _ hh; omega
  · rintro k hk (hh | hh)
    · have := h.ov k hk; omega
    · exact h.od k hk hh
  · intro k hk
    rcases h3 k hk with hh | hh
    · exact h.ou k hh
    · have := h.hs; omega
  · intro k hk hh
    rcases h3 k hh with h' | h'
    · exact h.od k hk h'
    · have := h.z.own_lt hk; omega
  · intro k hk hh
    have := h.hg
    rcases hh with rfl | hh
    · omega
    · have := h.ou k hh; omega

end

theorem scaled_lt {c k : Nat} (hc : c ≤ 9999999999999999999) (hk : k ≤ 19) : c * 10 ^ k < wpow 39 := by
  have h1 : 10 ^ k ≤ 10 ^ 19 := Nat.pow_le_pow_right (by omega) hk
  have h2 : c * 10 ^ k ≤ 9999999999999999999 * 10 ^ 19 := Nat.mul_le_mul hc h1
  exact wpow_big (Nat.lt_of_le_of_lt h2 (by decide))

theorem cmpN_not {a e : Nat} (h : ¬ a < e) : decide (0 < cmpN e a) = false := by
  unfold cmpN
  split
  · rfl
  · rfl

end Go.Proofs.YtjdfapoomjeabaaGreatDoor

/- Whole numbers of any length: a result, or no room. -/
namespace Go.Proofs.YtjdfapoomjeabaaGreatDoor
open Go.RowKit

theorem bint_core (f : FuncId) (args : Array Value) (neg : Bool) (C S ms : Nat) (z : Int) (d : Nat) (hd : 0 < d) (hC : C < 10 ^ 38) (hS : S ≤ 38) (hms : ms ≤ 19) (hfr : z.natAbs * 10 ^ S = C * d) (h1 : z < 0 → neg = true) (h2 : 0 < z → neg = false)
    (go : ∀ w nz sz cz Pv, Glob w → Pow10s w → (∀ V v, Fresh w V → (∀ k, v.ownBlock = some k → w.heap.size + 5 ≤ k) → BI V (w.heap.size + 3) v C →
      Calls Tryz.prog 108 #[.bool neg, .pointer (some ⟨w.heap.size + 3, 0, none⟩), .int .i64 (S : Nat), .int .i64 ms] V (NBOut V (w.heap.size + 3) v nz sz cz Pv)) → Calls Tryz.prog f args w (DOut w nz sz cz Pv)) :
    (¬ okN z.natAbs d ms ∧ ∀ w, Glob w → Pow10s w → Calls Tryz.prog f args w (ClampErr w)) ∨
    ∃ nz sz cz, (∀ w, Glob w → Pow10s w → Calls Tryz.prog f args w (VRet w (.tuple #[gd nz sz cz, .nilIface]))) ∧ ResOK z d ms nz sz cz := by
  obtain ⟨p, hp38, hp⟩ := isPrec_ex 38 C hC
  have hnb : ∀ w, Glob w → Pow10s w → ∀ V v, Fresh w V → (∀ k, v.ownBlock = some k → w.heap.size + 5 ≤ k) → BI V (w.heap.size + 3) v C →
      Calls Tryz.prog 108 #[.bool neg, .pointer (some ⟨w.heap.size + 3, 0, none⟩), .int .i64 (S : Nat), .int .i64 ms] V (NBRet V (w.heap.size + 3) v neg (nbOut C p S ms)) :=
    fun w hG hP V v hf hv hz => newFromBint_any w V neg (w.heap.size + 3) C p S ms v hG hP hf (by omega) (fun k h => by have := hv k h; omega) hp hp38 hS hms hz
  rcases ho : nbOut C p S ms with _ | ⟨c, s⟩
  · rw [ho] at hnb
    exact .inl ⟨nb_none hfr hd hp hms ho, fun w hG hP => (go w false 0 0 AnErr hG hP (hnb w hG hP)).mono (fun _ _ h => h.err)⟩
  · rw [ho] at hnb
    obtain ⟨g1, g2⟩ := nb_some hfr hd hp hms ho
    exact .inr ⟨_, s, c, fun w hG hP => (go w (neg && decide (0 < c)) s c NoErr hG hP (hnb w hG hP)).mono (fun _ _ h => h.ok), res_ok hd g1 g2 h1 h2⟩

theorem sum_lt {c1 c2 s1 s2 : Nat} (h1 : c1 ≤ 9999999999999999999) (h2 : c2 ≤ 9999999999999999999) (hs1 : s1 ≤ 19) (hs2 : s2 ≤ 19) : c1 * 10 ^ (s2 - s1) + c2 * 10 ^ (s1 - s2) < 10 ^ 38 := by
  have e38 : (10 : Nat) ^ 38 = 100000000000000000000000000000000000000 := rfl
  have hk : ∀ k, k ≤ 19 → 10 ^ k ≤ 10000000000000000000 := fun k hk => Nat.le_trans (Nat.pow_le_pow_right (by omega) hk) (by decide : 10 ^ 19 ≤ 10000000000000000000)
  rw [e38]
  rcases Nat.le_total s1 s2 with h | h
  · rw [show s1 - s2 = 0 by omega, Nat.pow_zero, Nat.mul_one]
    have := Nat.mul_le_mul h1 (hk (s2 - s1) (by omega))
    omega
  · rw [show s2 - s1 = 0 by omega, Nat.pow_zero, Nat.mul_one]
    have := Nat.mul_le_mul h2 (hk (s1 - s2) (by omega))
    omega

theorem sumC_le (m1 m2 : Bool) (a e : Nat) : sumC m1 m2 a e ≤ a + e := by
  unfold sumC adf
  split
  · omega
  · split <;> omega

theorem mul_lt38 {c1 c2 : Nat} (h1 : c1 ≤ 9999999999999999999) (h2 : c2 ≤ 9999999999999999999) : c1 * c2 < 10 ^ 38 := by
  have := Nat.mul_le_mul h1 h2
  rw [show (10 : Nat) ^ 38 = 100000000000000000000000000000000000000 from rfl]
  omega

end Go.Proofs.YtjdfapoomjeabaaGreatDoor
