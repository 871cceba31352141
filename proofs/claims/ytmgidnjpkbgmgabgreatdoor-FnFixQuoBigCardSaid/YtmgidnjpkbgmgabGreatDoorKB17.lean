/- The plain law of sums and products of two decimals: sign, coefficient, scale. -/
import Derived.Test.YtmgidnjpkbgmgabGreatDoorKB12
import Derived.Test.YtmgidnjpkbgmgabGreatDoorKB15
import Derived.Test.YtmgidnjpkbgmgabGreatDoorKB16
namespace Go.Proofs.YtmgidnjpkbgmgabGreatDoor
open Go.RowKit

theorem good_zero {d c s : Nat} (hd : 0 < d) (h : Good 0 d c s) : c = 0 := by
  obtain ⟨_, _, h | ⟨_, h⟩⟩ := h
  · rw [Nat.zero_mul] at h
    rcases Nat.mul_eq_zero.1 h with h | h
    · exact h
    · omega
  · rw [h, Nat.zero_mul]
    exact rhe_exact hd (by rw [Nat.zero_mul])

theorem out_sign {z : Int} {neg : Bool} {c : Nat} (h1 : z < 0 → neg = true) (h2 : 0 < z → neg = false) (h3 : z = 0 → c = 0) : zfix (neg && decide (0 < c)) c = sgnN z c := by
  rw [zfix_canon]
  unfold zfix sgnN
  rcases Int.lt_trichotomy z 0 with h | h | h
  · rw [h1 h, if_pos rfl, if_pos h]
  · rw [h3 h]; cases neg <;> simp
  · rw [h2 h, if_neg (by simp), if_neg (by omega)]

theorem mul_sign (m1 m2 : Bool) (c1 c2 : Nat) : (zfix m1 c1 * zfix m2 c2 < 0 → (m1 != m2) = true) ∧ (0 < zfix m1 c1 * zfix m2 c2 → (m1 != m2) = false) := by
  have h : (0 : Int) ≤ (c1 : Int) * (c2 : Int) := Int.mul_nonneg (by omega) (by omega)
  unfold zfix
  cases m1 <;> cases m2 <;> simp only [if_true, Bool.false_eq_true, if_false, Int.neg_mul, Int.mul_neg, Int.neg_neg] <;> constructor <;> intro k <;> first | rfl | (exfalso; omega)

end Go.Proofs.YtmgidnjpkbgmgabGreatDoor

/- What sums and products return: a decimal, and a fault or none. -/
namespace Go.Proofs.YtmgidnjpkbgmgabGreatDoor
open Go.RowKit

/-- the call returns a decimal, and an error or none -/
def DOut (w : World) (nz : Bool) (sz cz : Nat) (Pv : Value → Prop) (e : Ending) (w' : World) : Prop := ∃ ev, e = .returned (.tuple #[gd nz sz cz, ev]) ∧ Pv ev ∧ Fresh w w'

def NoErr (v : Value) : Prop := v = .nilIface
def AnErr (v : Value) : Prop := ∃ a : Addr, v = .iface 121 (.pointer (some a))

theorem DOut.of_ok {w w' : World} {nz : Bool} {sz cz : Nat} {e : Ending} (h : VRet w (.tuple #[gd nz sz cz, .nilIface]) e w') : DOut w nz sz cz NoErr e w' := ⟨_, h.1, rfl, h.2⟩
theorem DOut.of_err {w w' : World} {e : Ending} (h : ClampErr w e w') : DOut w false 0 0 AnErr e w' := by
  obtain ⟨a, h1, h2⟩ := h
  exact ⟨_, h1, ⟨a, rfl⟩, h2⟩

/-- the decimal is a result for z / d with at least ms places -/
def ResOK (z : Int) (d ms : Nat) (nz : Bool) (sz cz : Nat) : Prop := Good z.natAbs d cz sz ∧ ms ≤ sz ∧ (nz = true → 0 < cz) ∧ zfix nz cz = sgnN z cz

theorem res_ok {z : Int} {d ms s c : Nat} {neg : Bool} (hd : 0 < d) (hg : Good z.natAbs d c s) (hms : ms ≤ s) (h1 : z < 0 → neg = true) (h2 : 0 < z → neg = false) : ResOK z d ms (neg && decide (0 < c)) s c :=
  ⟨hg, hms, fun h => canon_pos h, out_sign h1 h2 (fun h => good_zero hd (by rw [h] at hg; exact hg))⟩

theorem DOut.ok {w w' : World} {nz : Bool} {sz cz : Nat} {e : Ending} (h : DOut w nz sz cz NoErr e w') : VRet w (.tuple #[gd nz sz cz, .nilIface]) e w' := by
  obtain ⟨ev, h1, h2, h3⟩ := h
  exact ⟨by rw [h1, show ev = .nilIface from h2], h3⟩

theorem DOut.err {w w' : World} {e : Ending} (h : DOut w false 0 0 AnErr e w') : ClampErr w e w' := by
  obtain ⟨ev, h1, ⟨a, h2⟩, h3⟩ := h
  exact ⟨a, by rw [h1, h2], h3⟩

theorem cells6 {V : World} {g : Nat} {m1 m2 : Bool} {c1 s1 c2 s2 : Nat} {T1 T2 : TypeId} (r1 : V.heap[g]? = some (.cells #[.bool m1, .int .i8 s1, .int .u64 c1] T1 (0, 0))) (r2 : V.heap[g + 1]? = some (.cells #[.bool m2, .int .i8 s2, .int .u64 c2] T2 (0, 0))) :
    V.cell? ⟨g, 0, none⟩ = some (.bool m1) ∧ V.cell? ⟨g, 1, none⟩ = some (.int .i8 s1) ∧ V.cell? ⟨g, 2, none⟩ = some (.int .u64 c1) ∧ V.cell? ⟨g + 1, 0, none⟩ = some (.bool m2) ∧ V.cell? ⟨g + 1, 1, none⟩ = some (.int .i8 s2) ∧ V.cell? ⟨g + 1, 2, none⟩ = some (.int .u64 c2) :=
  ⟨row_cell r1 0, row_cell r1 1, row_cell r1 2, row_cell r2 0, row_cell r2 1, row_cell r2 2⟩

end Go.Proofs.YtmgidnjpkbgmgabGreatDoor
