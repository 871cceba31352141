/- govalues: newFromBint, all ways. -/
import Derived.Test.YtjjolcjeiogdmabGreatDoorK10
import Derived.Test.YtjjolcjeiogdmabGreatDoorK12
import Derived.Test.YtjjolcjeiogdmabGreatDoorK15
import Derived.Test.YtjjolcjeiogdmabGreatDoorK17
import Derived.Test.YtjjolcjeiogdmabGreatDoorK19
import Derived.Test.YtjjolcjeiogdmabGreatDoorK27
namespace Go.Proofs.YtjjolcjeiogdmabGreatDoor
open Go.RowKit

/-- what newFromBint returns -/
def NBRet (w : World) (g : Nat) (v : Value) (neg : Bool) (o : Option (Nat × Nat)) : Ending → World → Prop :=
  match o with
  | none => NBOut w g v false 0 0 AnErr
  | some (c, s) => NBOut w g v (neg && decide (0 < c)) s c NoErr

theorem isPrec20 : IsPrec 10000000000000000000 20 := ⟨by decide, fun _ => by decide⟩
theorem rhe20 : rhe 10000000000000000000 (10 ^ (20 - 19)) = 1000000000000000000 := by decide

end Go.Proofs.YtjjolcjeiogdmabGreatDoor

/- Inside addBint and mulBint: what lies where. -/
namespace Go.Proofs.YtjjolcjeiogdmabGreatDoor
open Go.RowKit

/-- inside addBint and mulBint: the two decimals, the result's place, the two whole numbers -/
structure BS (w V : World) (g : Nat) (m1 m2 : Bool) (c1 s1 c2 s2 : Nat) (v u : Value) (a e : Nat) : Prop where
  r1 : V.heap[g]? = some (.cells #[.bool m1, .int .i8 s1, .int .u64 c1] 40 (0, 0))
  r2 : V.heap[g + 1]? = some (.cells #[.bool m2, .int .i8 s2, .int .u64 c2] 40 (0, 0))
  r3 : V.heap[g + 1 + 1]? = some (.cells #[.bool false, .int .i8 0, .int .u64 0] 40 (0, 0))
  z : BI V (g + 3) v a
  y : BI V (g + 4) u e
  ov : ∀ k, v.ownBlock = some k → g + 5 ≤ k
  ou : ∀ k, u.ownBlock = some k → g + 5 ≤ k
  od : ∀ k, v.ownBlock = some k → u.ownBlock ≠ some k
  f : Fresh w V
  hg : g = w.heap.size
  hs : g + 5 ≤ V.heap.size

section
variable {w V V' : World} {g : Nat} {m1 m2 : Bool} {c1 s1 c2 s2 : Nat} {v u : Value} {a e m : Nat}

theorem BS.cells (h : BS w V g m1 m2 c1 s1 c2 s2 v u a e) : V.cell? ⟨g, 0, none⟩ = some (.bool m1) ∧ V.cell? ⟨g, 1, none⟩ = some (.int .i8 s1) ∧ V.cell? ⟨g, 2, none⟩ = some (.int .u64 c1) ∧
    V.cell? ⟨g + 1, 0, none⟩ = some (.bool m2) ∧ V.cell? ⟨g + 1, 1, none⟩ = some (.int .i8 s2) ∧ V.cell? ⟨g + 1, 2, none⟩ = some (.int .u64 c2) :=
  ⟨row_cell h.r1 0, row_cell h.r1 1, row_cell h.r1 2, row_cell h.r2 0, row_cell h.r2 1, row_cell h.r2 2⟩

theorem BS.fresh (h : BS w V g m1 m2 c1 s1 c2 s2 v u a e) (hf : Fresh V V') : BS w V' g m1 m2 c1 s1 c2 s2 v u a e :=
  ⟨row_fresh h.r1 hf, row_fresh h.r2 hf, row_fresh h.r3 hf, h.z.fresh hf, h.y.fresh hf, h.ov, h.ou, h.od, fresh_trans h.f hf, h.hg, Nat.le_trans h.hs hf.size⟩

theorem BS.setP (h : BS w V g m1 m2 c1 s1 c2 s2 v u a e) (hb : BSet V (g + 3) v m V') : ∃ v', BS w V' g m1 m2 c1 s1 c2 s2 v' u m e := by
  obtain ⟨v', h1, h2, h3⟩ := hb
  have no : ∀ k, k ≤ g + 2 → ¬ (k = g + 3 ∨ v.ownBlock = some k) := fun k hk hh => by
    rcases hh with hh | hh
    · omega
    · have := h.ov k hh; omega
  refine ⟨v', row_keep h.r1 h2 (no _ (by omega)), row_keep h.r2 h2 (no _ (by omega)), row_keep h.r3 h2 (no _ (by omega)), h1, h.y.keep h2 ?_ ?_, ?_, h.ou, ?_, h.f.trans h2 (fun _ _ h => h) ?_, h.hg, Nat.le_trans h.hs h2.size⟩
  · rintro (hh | hh)
    · omega
    · have := h.ov _ hh; omega
  · rintro k hk (hh | hh)
    · have := h.ou k hk; omega
    · exact h.od k hh hk
  · intro k hk
    rcases h3 k hk with hh | hh
    · exact h.ov k hh
    · have := h.hs; omega
  · intro k hk hh
    rcases h3 k hk with h' | h'
    · exact h.od k h' hh
    · have := h.y.own_lt hh; omega
  · intro k hk hh
    have := h.hg
    rcases hh with rfl | hh
    · omega
    · have := h.ov k hh; omega

theorem BS.setQ (h : BS w V g m1 m2 c1 s1 c2 s2 v u a e) (hb : BSet V (g + 4) u m V') : ∃ u', BS w V' g m1 m2 c1 s1 c2 s2 v u' a m := by
  obtain ⟨u', h1, h2, h3⟩ := hb
  have no : ∀ k, k ≤ g + 2 → ¬ (k = g + 4 ∨ u.ownBlock = some k) := fun k hk hh => by
    rcases hh with hh | hh
    · omega
    · have := h.ou k hh; omega
  refine ⟨u', row_keep h.r1 h2 (no _ (by omega)), row_keep h.r2 h2 (no _ (by omega)), row_keep h.r3 h2 (no _ (by omega)), h.z.keep h2 ?_ ?_, h1, h.ov, ?_, ?_, h.f.trans h2 (fun _ _ h => h) ?_, h.hg, Nat.le_trans h.hs h2.size⟩
  · rintro (hh | hh)
    · omega
    · have := h.ou _ hh; omega
  · rintro k hk (hh | hh)
    · have := h.ov k hk; omega
    · exact h.od k hk hh
  · intro k hk
    rcases h3 k hk with hh | hh
    · exact h.ou k hh
    · have := h.hs; omega
  · intro k hk hh
    rcases h3 k hh with h' | h'
    · exact h.od k hk h'
    · have := h.z.own_lt hk; omega
  · intro k hk hh
    have := h.hg
    rcases hh with rfl | hh
    · omega
    · have := h.ou k hh; omega

end

end Go.Proofs.YtjjolcjeiogdmabGreatDoor

/- big: lshVU, rshVU: words shifted by fewer bits than a word has. -/
namespace Go.Proofs.YtjjolcjeiogdmabGreatDoor
open Go.RowKit

/-- words shifted up, p being the word below -/
def shlL : List Nat → Nat → Nat → List Nat
  | [], _, _ => []
  | x :: xs, p, s => (x * 2 ^ s % 18446744073709551616 + p / 2 ^ (64 - s)) :: shlL xs x s

/-- the last word, p if there is none -/
def lastW : List Nat → Nat → Nat
  | [], p => p
  | x :: xs, _ => lastW xs x

/-- words shifted down -/
def shrL : List Nat → Nat → List Nat
  | [], _ => []
  | [x], s => [x / 2 ^ s]
  | x :: y :: t, s => (x / 2 ^ s + y * 2 ^ (64 - s) % 18446744073709551616) :: shrL (y :: t) s

theorem two_split {s : Nat} (hs : s ≤ 64) : 2 ^ (64 - s) * 2 ^ s = 18446744073709551616 := by rw [← Nat.pow_add, show 64 - s + s = 64 by omega]

theorem shl_word (x : Nat) {s : Nat} (hs : s ≤ 64) : x * 2 ^ s % 18446744073709551616 + 18446744073709551616 * (x / 2 ^ (64 - s)) = x * 2 ^ s := by
  have e : x * 2 ^ s / 18446744073709551616 = x / 2 ^ (64 - s) := by
    rw [← two_split hs, Nat.mul_div_mul_right _ _ (Nat.pow_pos (by omega))]
  have := Nat.mod_add_div (x * 2 ^ s) 18446744073709551616
  rw [e] at this
  exact this

theorem shlL_length : ∀ (xs : List Nat) (p s : Nat), (shlL xs p s).length = xs.length
  | [], _, _ => rfl
  | x :: xs, p, s => by simp only [shlL, List.length_cons]; rw [shlL_length xs x s]

theorem shlL_val {s : Nat} (hs : s ≤ 64) : ∀ (xs : List Nat) (p : Nat), val (shlL xs p s) + wpow xs.length * (lastW xs p / 2 ^ (64 - s)) = val xs * 2 ^ s + p / 2 ^ (64 - s)
  | [], p => by simp [shlL, lastW, val, wpow_zero]
  | x :: xs, p => by
    have ih := shlL_val hs xs x
    have e := shl_word x hs
    simp only [shlL, lastW, val, List.length_cons, wpow_succ]
    rw [Nat.add_mul]
    generalize lastW xs x / 2 ^ (64 - s) = l at *
    generalize x / 2 ^ (64 - s) = h at *
    generalize x * 2 ^ s % 18446744073709551616 = a at *
    generalize p / 2 ^ (64 - s) = b at *
    generalize val (shlL xs x s) = v at *
    have e1 : 18446744073709551616 * wpow xs.length * l = 18446744073709551616 * (wpow xs.length * l) := Nat.mul_assoc _ _ _
    have e2 : 18446744073709551616 * val xs * 2 ^ s = 18446744073709551616 * (val xs * 2 ^ s) := Nat.mul_assoc _ _ _
    generalize wpow xs.length * l = c at *
    generalize val xs * 2 ^ s = d at *
    omega

theorem getD_cons1 (a : Nat) (l : List Nat) (i : Nat) : (a :: l).getD (i + 1) 0 = l.getD i 0 := rfl

theorem shlL_getD {s : Nat} : ∀ (xs : List Nat) (p i : Nat), i < xs.length → (shlL xs p s).getD i 0 = xs.getD i 0 * 2 ^ s % 18446744073709551616 + (if i = 0 then p else xs.getD (i - 1) 0) / 2 ^ (64 - s)
  | [], _, _, h => by simp at h
  | x :: xs, p, 0, _ => rfl
  | x :: xs, p, i + 1, h => by
    have := shlL_getD (s := s) xs x i (by simpa using h)
    simp only [shlL]
    rw [getD_cons1, this, getD_cons1, if_neg (show ¬ i + 1 = 0 by omega)]
    cases i with
    | zero => rw [if_pos rfl]; rfl
    | succ i => rw [if_neg (by omega)]; rfl

theorem lastW_getD : ∀ (xs : List Nat) (p : Nat), 0 < xs.length → lastW xs p = xs.getD (xs.length - 1) 0
  | [], _, h => by simp at h
  | [x], _, _ => rfl
  | x :: y :: t, p, _ => by
    have := lastW_getD (y :: t) x (by simp)
    simp only [lastW] at *
    rw [this]
    rfl

/-- the bits of a word shifted up, and of another one shifted down, stand side by side -/
theorem or_shift {x p s : Nat} (hs : s ≤ 64) (hp : p < 18446744073709551616) :
    bits BinOp.or IntKind.u64 ((x * 2 ^ s % 18446744073709551616 : Nat) : Int) ((p / 2 ^ (64 - s) : Nat) : Int) = ((x * 2 ^ s % 18446744073709551616 + p / 2 ^ (64 - s) : Nat) : Int) ∧
    bits BinOp.or IntKind.u64 ((p / 2 ^ (64 - s) : Nat) : Int) ((x * 2 ^ s % 18446744073709551616 : Nat) : Int) = ((x * 2 ^ s % 18446744073709551616 + p / 2 ^ (64 - s) : Nat) : Int) ∧ x * 2 ^ s % 18446744073709551616 + p / 2 ^ (64 - s) < 18446744073709551616 := by
  have e := two_split hs
  have h1 : p / 2 ^ (64 - s) < 2 ^ s := by rw [Nat.div_lt_iff_lt_mul (Nat.pow_pos (by omega)), Nat.mul_comm, e]; exact hp
  have h2 : x * 2 ^ s % 18446744073709551616 = (x % 2 ^ (64 - s)) * 2 ^ s := by rw [← e, Nat.mul_mod_mul_right]
  have h3 := Nat.shiftLeft_add_eq_or_of_lt h1 (x % 2 ^ (64 - s))
  rw [Nat.shiftLeft_eq] at h3
  have h4 : (x % 2 ^ (64 - s) + 1) * 2 ^ s ≤ 2 ^ (64 - s) * 2 ^ s := Nat.mul_le_mul_right _ (Nat.mod_lt _ (Nat.pow_pos (by omega)))
  rw [e, Nat.add_mul, Nat.one_mul] at h4
  have h5 : p / 2 ^ (64 - s) < 18446744073709551616 := Nat.lt_of_le_of_lt (Nat.div_le_self _ _) hp
  have h6 := Nat.mod_lt (x * 2 ^ s) (show 0 < 18446744073709551616 by omega)
  refine ⟨?_, ?_, by rw [h2]; omega⟩
  · rw [bits_or_u64_nat _ _ h6 h5, h2, ← h3]
  · rw [bits_or_u64_nat _ _ h5 h6, Nat.or_comm, h2, ← h3]

theorem shlL_lt {s : Nat} (hs : s ≤ 64) : ∀ (xs : List Nat) (p : Nat), (∀ a ∈ xs, a < 18446744073709551616) → p < 18446744073709551616 → ∀ a ∈ shlL xs p s, a < 18446744073709551616
  | [], _, _, _ => by simp [shlL]
  | x :: xs, p, hx, hp => by
    intro a ha
    simp only [shlL, List.mem_cons] at ha
    rcases ha with rfl | ha
    · exact (or_shift hs hp).2.2
    · exact shlL_lt hs xs x (fun b hb => hx b (by simp [hb])) (hx x (by simp)) a ha

theorem shrL_length : ∀ (xs : List Nat) (s : Nat), (shrL xs s).length = xs.length
  | [], _ => rfl
  | [x], _ => rfl
  | x :: y :: t, s => by simp only [shrL, List.length_cons]; rw [shrL_length (y :: t) s]; rfl

theorem shr_word (y : Nat) {s : Nat} (hs : s ≤ 64) : y * 2 ^ (64 - s) % 18446744073709551616 * 2 ^ s = 18446744073709551616 * (y % 2 ^ s) := by
  have e := two_split hs
  have h2 : y * 2 ^ (64 - s) % 18446744073709551616 = (y % 2 ^ s) * 2 ^ (64 - s) := by rw [← e, Nat.mul_comm (2 ^ (64 - s)) (2 ^ s), Nat.mul_mod_mul_right]
  rw [h2, Nat.mul_assoc, e, Nat.mul_comm]

theorem shrL_val {s : Nat} (hs : s ≤ 64) : ∀ (xs : List Nat), val (shrL xs s) * 2 ^ s + xs.getD 0 0 % 2 ^ s = val xs
  | [] => by simp [shrL, val]
  | [x] => by
    have := Nat.div_add_mod x (2 ^ s)
    simp only [shrL, val, Nat.mul_zero, Nat.add_zero]
    rw [Nat.mul_comm]
    exact this
  | x :: y :: t => by
    have ih := shrL_val hs (y :: t)
    have e := shr_word y hs
    have d := Nat.div_add_mod x (2 ^ s)
    have e0 : (y :: t).getD 0 0 = y := rfl
    have e1 : (x :: y :: t).getD 0 0 = x := rfl
    rw [e0] at ih
    rw [e1, show val (x :: y :: t) = x + 18446744073709551616 * val (y :: t) from rfl, ← ih]
    simp only [shrL]
    rw [show val ((x / 2 ^ s + y * 2 ^ (64 - s) % 18446744073709551616) :: shrL (y :: t) s) = (x / 2 ^ s + y * 2 ^ (64 - s) % 18446744073709551616) + 18446744073709551616 * val (shrL (y :: t) s) from rfl]
    rw [Nat.add_mul, Nat.add_mul, e, Nat.mul_assoc]
    rw [Nat.mul_comm (2 ^ s)] at d
    generalize val (shrL (y :: t) s) * 2 ^ s = v at *
    omega

theorem shrL_getD {s : Nat} : ∀ (xs : List Nat) (i : Nat), i < xs.length → (shrL xs s).getD i 0 = xs.getD i 0 / 2 ^ s + (if i + 1 = xs.length then 0 else xs.getD (i + 1) 0 * 2 ^ (64 - s) % 18446744073709551616)
  | [], _, h => by simp at h
  | [x], 0, _ => rfl
  | [x], i + 1, h => by simp at h
  | x :: y :: t, 0, _ => rfl
  | x :: y :: t, i + 1, h => by
    have := shrL_getD (s := s) (y :: t) i (by simpa using h)
    simp only [shrL]
    rw [getD_cons1, this]
    have e : (i + 1 + 1 = (x :: y :: t).length) = (i + 1 = (y :: t).length) := by simp
    simp only [e]
    rfl

theorem shrL_lt {s : Nat} (hs0 : 0 < s) (hs : s ≤ 64) {xs : List Nat} (hx : ∀ a ∈ xs, a < 18446744073709551616) : ∀ a ∈ shrL xs s, a < 18446744073709551616 := by
  intro a ha
  obtain ⟨i, hi, rfl⟩ := List.mem_iff_getElem.1 ha
  have hl := shrL_length xs s
  have hg := shrL_getD (s := s) xs i (by omega)
  rw [show (shrL xs s)[i] = (shrL xs s).getD i 0 by simp [List.getD, hi], hg]
  split
  · have := getD_lt hx pos64 i
    have := Nat.div_le_self (xs.getD i 0) (2 ^ s)
    omega
  · have h := (or_shift (x := xs.getD (i + 1) 0) (p := xs.getD i 0) (s := 64 - s) (by omega) (getD_lt hx pos64 i)).2.2
    rw [show 64 - (64 - s) = s by omega] at h
    omega

theorem and63 : ∀ s : Fin 64, bits BinOp.and IntKind.u64 ((s.val : Nat) : Int) 63 = ((s.val : Nat) : Int) := by decide

theorem drop_getD {Z : List Nat} {k : Nat} (h : k < Z.length) : Z.drop k = Z.getD k 0 :: Z.drop (k + 1) := by
  rw [List.drop_eq_getElem_cons h]; simp [List.getD, h]

set_option maxRecDepth 20000 in
set_option maxHeartbeats 4000000 in
theorem lshVU_g_any (gz oz cz gx ox cx n s : Nat) (Lz Lx : List Nat) (w : World) (hn : 0 < n) (hlen : n ≤ 1000000) (hs0 : 0 < s) (hs : s < 64)
    (bz : Blk .u64 w gz Lz) (bx : Blk .u64 w gx Lx) (hz : oz + n ≤ Lz.length) (hx : ox + n ≤ Lx.length) (hbx : ∀ a ∈ Lx, a < 18446744073709551616) (hax : gx ≠ gz ∨ ox = oz) :
    Calls Tryz.prog 170 #[.slice (some ⟨gz, oz, none⟩) n cz, .slice (some ⟨gx, ox, none⟩) n cx, .int .u64 s] w
      fun e w' => e = .returned (.int .u64 ((lastW (seg Lx ox n) 0 / 2 ^ (64 - s) : Nat) : Int)) ∧ Hid (∃ nd, Puts .u64 gz (spl Lz oz (shlL (seg Lx ox n) 0 s)) (w.drewN nd) w') := by
  have t0 : ((s : Int) == 0) = false := by rw [beq_eq_false_iff_ne]; omega
  have t1 : ((n : Int) == 0) = false := by rw [beq_eq_false_iff_ne]; omega
  have u1 : bits BinOp.and IntKind.u64 (s : Int) 63 = (s : Int) := and63 ⟨s, hs⟩
  obtain ⟨c, hc⟩ : ∃ c, c = 64 - s := ⟨_, rfl⟩
  have ic : (64 : Int) - (s : Int) = (c : Int) := by omega
  have wc : IntKind.u64.wrap (c : Int) = (c : Int) := wrap_u64m _ (by omega)
  have u2 : bits BinOp.and IntKind.u64 (c : Int) 63 = (c : Int) := and63 ⟨c, by omega⟩
  have hxl := seg_length hx
  have hxb : ∀ a ∈ seg Lx ox n, a < 18446744073709551616 := fun a ha => hbx a (seg_mem ha)
  have hxg : ∀ j, j < n → (seg Lx ox n).getD j 0 = Lx.getD (ox + j) 0 := fun j hj => seg_getD hj
  generalize seg Lx ox n = xs at *
  have hZl := shlL_length xs 0 s
  have hZg := fun i h => shlL_getD (s := s) xs 0 i h
  have hlast := lastW_getD xs 0 (by omega)
  rw [← hc] at hZg ⊢
  generalize shlL xs 0 s = Z at *
  obtain ⟨b, hb⟩ : ∃ b, b = n - 1 := ⟨_, rfl⟩
  have ib : (n : Int) - 1 = (b : Int) := by omega
  have wb : IntKind.i64.wrap (b : Int) = (b : Int) := by rw [IntKind.wrap_i64]; omega
  have lb : (b : Int) < (n : Int) := by omega
  have hcb := bx.cell (o := ox + b) (by omega)
  rw [← hxg b (by omega), hb, ← hxl, ← hlast, hxl, ← hb] at hcb
  obtain ⟨r, hr⟩ : ∃ r, r = lastW xs 0 / 2 ^ c := ⟨_, rfl⟩
  have ir : ((lastW xs 0 : Nat) : Int) / 2 ^ c = (r : Int) := by rw [hr]; simp
  rw [← hr]
  have hsN : ¬ s = 0 := by omega
  have hnN : ¬ n = 0 := by omega
  have hs64 : (s : Int) < 64 := by omega
  have hc64 : (c : Int) < 64 := by omega
  generalize lastW xs 0 = lw at *
  have H_bz := Lib.hid bz; clear bz
  have H_bx := Lib.hid bx; clear bx
  have H_hz := Lib.hid hz; clear hz
  have H_hx := Lib.hid hx; clear hx
  have H_hbx := Lib.hid hbx; clear hbx
  have H_hax := Lib.hid hax; clear hax
  have H_hxl := Lib.hid hxl; clear hxl
  have H_hxb := Lib.hid hxb; clear hxb
  have H_hxg := Lib.hid hxg; clear hxg
  have H_hZl := Lib.hid hZl; clear hZl
  have H_hZg := Lib.hid hZg; clear hZg
  have H_hlast := Lib.hid hlast; clear hlast
  have H_hb := Lib.hid hb; clear hb
  have H_hr := Lib.hid hr; clear hr
  have H_hc := Lib.hid hc; clear hc
  go_enter Tryz.func170, Tryz.ntmps170
  go_wp2_with (fail)
  go_loopw [8] (fun i wr => ∃ k nd : Nat, i = .int .i64 (k : Int) ∧ k < n ∧ Hid (Puts .u64 gz (spl Lz (oz + (k + 1)) (Z.drop (k + 1))) (w.drewN nd) wr)) (fun i _ => (intOf i).toNat)
  case atStart =>
    refine ⟨b, 0, rfl, by omega, Lib.hid ?_⟩
    rw [List.drop_eq_nil_of_le (by have := H_hZl.out; have := H_hxl.out; omega), spl_nil]
    exact Puts.refl H_bz.out
  case round =>
    obtain ⟨k, nd, rfl, hk, hp⟩ := hrel
    have hzk : (spl Lz (oz + (k + 1)) (Z.drop (k + 1))).length = Lz.length := spl_length (by have := H_hZl.out; have := H_hxl.out; have := H_hz.out; simp; omega)
    have rd : ∀ i, i ≤ k → wr.cell? ⟨gx, ox + i, none⟩ = some (wd .u64 (xs.getD i 0)) := by
      intro i hi
      rw [H_hxg.out i (by omega)]
      have := H_hx.out; have := H_hz.out
      by_cases e : gx = gz
      · obtain rfl : Lx = Lz := Blk.uniq (by rw [e] at H_bx; exact H_bx.out) H_bz.out
        rw [e, hp.out.blk.cell (by rw [hzk]; omega), spl_getD (by have := H_hZl.out; have := H_hxl.out; simp; omega), if_neg (by have := H_hax.out; omega)]
      · exact (hp.out.other e (H_bx.out.drewN nd)).cell (by omega)
    have hcz := hp.out.blk.cell (o := oz + k) (by have := H_hz.out; rw [hzk]; omega)
    have hfz := hp.out.blk.frozen (oz + k)
    generalize (spl Lz (oz + (k + 1)) (Z.drop (k + 1))).getD (oz + k) 0 = z0 at *
    have hZk := H_hZg.out k (by rw [H_hxl.out]; exact hk)
    have hZd := drop_getD (Z := Z) (k := k) (by rw [H_hZl.out, H_hxl.out]; exact hk)
    have hcl : ∀ v, (spl Lz (oz + (k + 1)) (Z.drop (k + 1))).set (oz + k) v = spl Lz (oz + k) (v :: Z.drop (k + 1)) := by
      intro v
      rw [show oz + (k + 1) = oz + k + 1 by omega]
      exact spl_cons v (by have := H_hZl.out; have := H_hxl.out; have := H_hz.out; simp; omega)
    have lk : (k : Int) < (n : Int) := by omega
    rcases Nat.eq_zero_or_pos k with hk0 | hk0
    · subst hk0
      have t2 : decide ((0 : Int) < ((0 : Nat) : Int)) = false := by simp
      have h0 := rd 0 (Nat.le_refl _)
      rw [Nat.add_zero] at h0
      generalize xs.getD 0 0 = x0 at *
      have wz : IntKind.u64.wrap ((x0 : Int) * 2 ^ s) = ((x0 * 2 ^ s % 18446744073709551616 : Nat) : Int) := by
        rw [show (x0 : Int) * 2 ^ s = ((x0 * 2 ^ s : Nat) : Int) from by simp]; exact wrap_u64_mod _
      rw [if_pos rfl, Nat.zero_div, Nat.add_zero] at hZk
      generalize x0 * 2 ^ s % 18446744073709551616 = z1 at *
      rw [Nat.add_zero] at hcz hfz
      have hp1 := hp.out.set (oz + 0) z1
      rw [hcl, ← hZk, ← hZd, List.drop_zero, Nat.add_zero] at hp1
      rw [hZk] at hp1
      clear rd
      have l0 : (0 : Int) < (n : Int) := by omega
      have H_hp1 := Lib.hid hp1; clear hp1
      have H_hZk := Lib.hid hZk; clear hZk
      have H_hZd := Lib.hid hZd; clear hZd
      have H_hcl := Lib.hid hcl; clear hcl
      have H_hzk := Lib.hid hzk; clear hzk
      go_wp2_with (fail)
      go_ret
      exact ⟨rfl, nd, H_hp1.out⟩
    · have t2 : decide ((0 : Int) < (k : Int)) = true := by simp; omega
      have hk0' : 0 < k := hk0
      obtain ⟨j, hj⟩ : ∃ j, j = k - 1 := ⟨_, rfl⟩
      have ij : (k : Int) - 1 = (j : Int) := by omega
      have wj : IntKind.i64.wrap (j : Int) = (j : Int) := by rw [IntKind.wrap_i64]; omega
      have lj : (j : Int) < (n : Int) := by omega
      have h0 := rd k (Nat.le_refl _)
      have h1 := rd j (by omega)
      rw [if_neg (by omega), ← hj] at hZk
      have hos := or_shift (x := xs.getD k 0) (p := xs.getD j 0) (s := s) (by omega) (getD_lt H_hxb.out pos64 j)
      rw [← H_hc.out] at hos
      generalize xs.getD k 0 = x0 at *
      generalize xs.getD j 0 = x1 at *
      have wz : IntKind.u64.wrap ((x0 : Int) * 2 ^ s) = ((x0 * 2 ^ s % 18446744073709551616 : Nat) : Int) := by
        rw [show (x0 : Int) * 2 ^ s = ((x0 * 2 ^ s : Nat) : Int) from by simp]; exact wrap_u64_mod _
      have wy : (x1 : Int) / 2 ^ c = ((x1 / 2 ^ c : Nat) : Int) := by simp
      generalize x0 * 2 ^ s % 18446744073709551616 = z1 at *
      generalize x1 / 2 ^ c = z2 at *
      obtain ⟨hos1, _, _⟩ := hos
      rw [← hZk] at hos1
      have hp1 : ∀ q, Puts .u64 gz (spl Lz (oz + k) (Z.drop k)) (w.drewN nd) ((wr.drewN q).setCell ⟨gz, oz + k, none⟩ (wd .u64 (Z.getD k 0))) := by
        intro q
        have := (hp.out.drewN q).set (oz + k) (Z.getD k 0)
        rw [hcl, ← hZd] at this
        exact this
      generalize Z.getD k 0 = zk at *
      clear rd
      have H_hp1 := Lib.hid hp1; clear hp1
      have H_hZk := Lib.hid hZk; clear hZk
      have H_hZd := Lib.hid hZd; clear hZd
      have H_hcl := Lib.hid hcl; clear hcl
      have H_hzk := Lib.hid hzk; clear hzk
      have H_hj := Lib.hid hj; clear hj
      go_wp2_with (fail)
      go_still_tail 17, (by kernel_rfl)
      change wpList _ _ _ _ _ (World.drew _)
      go_wp2_with (fail)
      go_roundw
      case rel =>
        refine ⟨j, nd, by simp, by omega, Lib.hid ?_⟩
        have := H_hp1.out 1
        rw [show j + 1 = k by have := H_hj.out; omega]
        exact this
      case measure => simp [intOf]; omega

end Go.Proofs.YtjjolcjeiogdmabGreatDoor

/- big: lshVU, rshVU. -/
namespace Go.Proofs.YtjjolcjeiogdmabGreatDoor
open Go.RowKit

theorem lshVU_any (gz oz cz gx ox cx n s : Nat) (Lz Lx : List Nat) (w : World) (hn : 0 < n) (hlen : n ≤ 1000000) (hs0 : 0 < s) (hs : s < 64)
    (bz : Blk .u64 w gz Lz) (bx : Blk .u64 w gx Lx) (hz : oz + n ≤ Lz.length) (hx : ox + n ≤ Lx.length) (hbx : ∀ a ∈ Lx, a < 18446744073709551616) (hax : gx ≠ gz ∨ ox = oz) :
    Calls Tryz.prog 138 #[.slice (some ⟨gz, oz, none⟩) n cz, .slice (some ⟨gx, ox, none⟩) n cx, .int .u64 s] w
      fun e w' => e = .returned (.int .u64 ((lastW (seg Lx ox n) 0 / 2 ^ (64 - s) : Nat) : Int)) ∧ Hid (Keep (fun k => k = gz) w w' ∧ Blk .u64 w' gz (spl Lz oz (shlL (seg Lx ox n) 0 s))) := by
  have H := Lib.hid (lshVU_g_any gz oz cz gx ox cx n s Lz Lx w hn hlen hs0 hs bz bx hz hx hbx hax)
  clear bz bx hz hx hbx hax
  generalize lastW (seg Lx ox n) 0 / 2 ^ (64 - s) = r at *
  go_enter Tryz.func138, Tryz.ntmps138
  go_wp2_with (go_at_call 170; refine H.out.mono ?_; rintro e w' ⟨rfl, hp⟩)
  go_ret
  obtain ⟨nd, hp⟩ := hp.out
  exact ⟨rfl, Lib.hid ⟨hp.keep.of_drewN, hp.blk⟩⟩

set_option maxRecDepth 20000 in
set_option maxHeartbeats 4000000 in
theorem rshVU_g_any (g o cz cx n s : Nat) (L : List Nat) (w : World) (hn : 0 < n) (hlen : n ≤ 1000000) (hs0 : 0 < s) (hs : s < 64)
    (bz : Blk .u64 w g L) (hz : o + n ≤ L.length) (hbx : ∀ a ∈ L, a < 18446744073709551616) :
    Calls Tryz.prog 173 #[.slice (some ⟨g, o, none⟩) n cz, .slice (some ⟨g, o, none⟩) n cx, .int .u64 s] w
      fun e w' => (∃ c : Nat, e = .returned (.int .u64 (c : Int))) ∧ Hid (∃ nd, Puts .u64 g (spl L o (shrL (seg L o n) s)) (w.drewN nd) w') := by
  have t0 : ((s : Int) == 0) = false := by rw [beq_eq_false_iff_ne]; omega
  have t1 : ((n : Int) == 0) = false := by rw [beq_eq_false_iff_ne]; omega
  have u1 : bits BinOp.and IntKind.u64 (s : Int) 63 = (s : Int) := and63 ⟨s, hs⟩
  obtain ⟨c, hc⟩ : ∃ c, c = 64 - s := ⟨_, rfl⟩
  have ic : (64 : Int) - (s : Int) = (c : Int) := by omega
  have wc : IntKind.u64.wrap (c : Int) = (c : Int) := wrap_u64m _ (by omega)
  have u2 : bits BinOp.and IntKind.u64 (c : Int) 63 = (c : Int) := and63 ⟨c, by omega⟩
  have hxl := seg_length hz
  have hxb : ∀ a ∈ seg L o n, a < 18446744073709551616 := fun a ha => hbx a (seg_mem ha)
  have hxg : ∀ j, j < n → (seg L o n).getD j 0 = L.getD (o + j) 0 := fun j hj => seg_getD hj
  generalize seg L o n = xs at *
  have hZl := shrL_length xs s
  have hZg := fun i h => shrL_getD (s := s) xs i h
  rw [← hc] at hZg
  generalize shrL xs s = Z at *
  obtain ⟨b, hb⟩ : ∃ b, b = n - 1 := ⟨_, rfl⟩
  have ib : (n : Int) - 1 = (b : Int) := by omega
  have wb : IntKind.i64.wrap (b : Int) = (b : Int) := by rw [IntKind.wrap_i64]; omega
  have lb : (b : Int) < (n : Int) := by omega
  have ln0 : (0 : Int) < (n : Int) := by omega
  have h00 := bz.cell (o := o) (by omega)
  have hsN : ¬ s = 0 := by omega
  have hnN : ¬ n = 0 := by omega
  have hs64 : (s : Int) < 64 := by omega
  have hc64 : (c : Int) < 64 := by omega
  generalize L.getD o 0 = x00 at *
  obtain ⟨r, hr⟩ : ∃ r, r = x00 * 2 ^ c % 18446744073709551616 := ⟨_, rfl⟩
  have ir : IntKind.u64.wrap ((x00 : Int) * 2 ^ c) = (r : Int) := by
    rw [show (x00 : Int) * 2 ^ c = ((x00 * 2 ^ c : Nat) : Int) from by simp, hr]; exact wrap_u64_mod _
  clear hr
  have H_bz := Lib.hid bz; clear bz
  have H_hz := Lib.hid hz; clear hz
  have H_hbx := Lib.hid hbx; clear hbx
  have H_hxl := Lib.hid hxl; clear hxl
  have H_hxb := Lib.hid hxb; clear hxb
  have H_hxg := Lib.hid hxg; clear hxg
  have H_hZl := Lib.hid hZl; clear hZl
  have H_hZg := Lib.hid hZg; clear hZg
  have H_hb := Lib.hid hb; clear hb
  have H_hc := Lib.hid hc; clear hc
  go_enter Tryz.func173, Tryz.ntmps173
  go_wp2_with (fail)
  go_loopw [8] (fun i wr => ∃ k nd : Nat, i = .int .i64 ((k + 1 : Nat) : Int) ∧ k < n ∧ Hid (Puts .u64 g (spl L o (Z.take k)) (w.drewN nd) wr)) (fun i _ => n - (intOf i).toNat)
  case atStart =>
    refine ⟨0, 0, by simp, by omega, Lib.hid ?_⟩
    rw [List.take_zero, spl_nil]
    exact Puts.refl H_bz.out
  case round =>
    obtain ⟨k, nd, rfl, hk, hp⟩ := hrel
    have hZt : (Z.take k).length = k := by have := H_hZl.out; have := H_hxl.out; simp; omega
    have hzk : (spl L o (Z.take k)).length = L.length := spl_length (by have := H_hz.out; omega)
    have rd : ∀ i, k ≤ i → i < n → wr.cell? ⟨g, o + i, none⟩ = some (wd .u64 (xs.getD i 0)) := by
      intro i hi hin
      rw [H_hxg.out i hin]
      have := H_hz.out
      rw [hp.out.blk.cell (by rw [hzk]; omega), spl_getD (by omega), if_neg (by omega)]
    have h0 := rd k (Nat.le_refl _) hk
    have hfz := hp.out.blk.frozen (o + k)
    have hZk := H_hZg.out k (by rw [H_hxl.out]; exact hk)
    have hZt1 : Z.take (k + 1) = Z.take k ++ [Z.getD k 0] := by
      rw [List.take_succ_eq_append_getElem (by have := H_hZl.out; have := H_hxl.out; omega)]
      simp [List.getD, show k < Z.length by have := H_hZl.out; have := H_hxl.out; omega]
    have hcl : ∀ v, (spl L o (Z.take k)).set (o + k) v = spl L o (Z.take k ++ [v]) := fun v => spl_set (by rw [hZt]) (by have := H_hz.out; omega)
    have lk : (k : Int) < (n : Int) := by omega
    obtain ⟨k1, hk1⟩ : ∃ a, a = k + 1 := ⟨_, rfl⟩
    rw [← hk1]
    have ik1 : (k1 : Int) - 1 = (k : Int) := by omega
    have wk : IntKind.i64.wrap (k : Int) = (k : Int) := by rw [IntKind.wrap_i64]; omega
    rw [← hk1] at hZk hZt1
    rcases Nat.lt_or_ge k1 n with hlt | hge
    · have t2 : decide ((k1 : Int) < (n : Int)) = true := by simp; omega
      have hlt' : (k1 : Int) < (n : Int) := by omega
      have h1 := rd k1 (by omega) hlt
      rw [if_neg (by have := H_hxl.out; omega)] at hZk
      have hos := or_shift (x := xs.getD k1 0) (p := xs.getD k 0) (s := c) (by have := H_hc.out; omega) (getD_lt H_hxb.out pos64 k)
      rw [show 64 - c = s by have := H_hc.out; omega] at hos
      generalize xs.getD k 0 = x0 at *
      generalize xs.getD k1 0 = x1 at *
      have wz : IntKind.u64.wrap ((x1 : Int) * 2 ^ c) = ((x1 * 2 ^ c % 18446744073709551616 : Nat) : Int) := by
        rw [show (x1 : Int) * 2 ^ c = ((x1 * 2 ^ c : Nat) : Int) from by simp]; exact wrap_u64_mod _
      have wy : (x0 : Int) / 2 ^ s = ((x0 / 2 ^ s : Nat) : Int) := by simp
      generalize x1 * 2 ^ c % 18446744073709551616 = z1 at *
      generalize x0 / 2 ^ s = z2 at *
      obtain ⟨_, hos1, _⟩ := hos
      rw [show z1 + z2 = Z.getD k 0 by omega] at hos1
      have hp1 : ∀ q, Puts .u64 g (spl L o (Z.take k1)) (w.drewN nd) ((wr.drewN q).setCell ⟨g, o + k, none⟩ (wd .u64 (Z.getD k 0))) := by
        intro q
        have := (hp.out.drewN q).set (o + k) (Z.getD k 0)
        rw [hcl, ← hZt1] at this
        exact this
      generalize Z.getD k 0 = zk at *
      have ik2 : (k1 : Int) + 1 = ((k1 + 1 : Nat) : Int) := by omega
      have wk2 : IntKind.i64.wrap ((k1 + 1 : Nat) : Int) = ((k1 + 1 : Nat) : Int) := by rw [IntKind.wrap_i64]; omega
      obtain ⟨k2, hk2⟩ : ∃ a, a = k1 + 1 := ⟨_, rfl⟩
      rw [← hk2] at ik2 wk2
      clear rd
      have H_hp1 := Lib.hid hp1; clear hp1
      have H_hZk := Lib.hid hZk; clear hZk
      have H_hZt1 := Lib.hid hZt1; clear hZt1
      have H_hcl := Lib.hid hcl; clear hcl
      have H_hzk := Lib.hid hzk; clear hzk
      have H_hk1 := Lib.hid hk1; clear hk1
      have H_hZt := Lib.hid hZt; clear hZt
      have H_hk2 := Lib.hid hk2; clear hk2
      go_wp2_with (fail)
      go_still_tail 18, (by kernel_rfl)
      change wpList _ _ _ _ _ (World.drew _)
      go_wp2_with (fail)
      go_roundw
      case rel =>
        refine ⟨k1, nd, by rw [H_hk2.out], by omega, Lib.hid ?_⟩
        exact H_hp1.out 1
      case measure => simp [intOf]; have := H_hk2.out; omega
    · have hkb : k = b := by have := H_hb.out; omega
      have t2 : decide ((k1 : Int) < (n : Int)) = false := by simp; omega
      have t2n : ¬ k1 < n := by omega
      rw [if_pos (by have := H_hxl.out; omega), Nat.add_zero] at hZk
      subst hkb
      generalize xs.getD k 0 = x0 at *
      have wy : (x0 : Int) / 2 ^ s = ((x0 / 2 ^ s : Nat) : Int) := by simp
      rw [← hZk] at wy
      have hp1 := hp.out.set (o + k) (Z.getD k 0)
      rw [hcl, ← hZt1, show k1 = n by omega, List.take_of_length_le (by have := H_hZl.out; have := H_hxl.out; omega)] at hp1
      generalize Z.getD k 0 = zk at *
      clear rd
      have H_hp1 := Lib.hid hp1; clear hp1
      have H_hZk := Lib.hid hZk; clear hZk
      have H_hZt1 := Lib.hid hZt1; clear hZt1
      have H_hcl := Lib.hid hcl; clear hcl
      have H_hzk := Lib.hid hzk; clear hzk
      have H_hk1 := Lib.hid hk1; clear hk1
      have H_hZt := Lib.hid hZt; clear hZt
      go_wp2_with (fail)
      go_ret
      exact ⟨⟨r, rfl⟩, nd, H_hp1.out⟩

theorem rshVU_any (g o cz cx n s : Nat) (L : List Nat) (w : World) (hn : 0 < n) (hlen : n ≤ 1000000) (hs0 : 0 < s) (hs : s < 64)
    (bz : Blk .u64 w g L) (hz : o + n ≤ L.length) (hbx : ∀ a ∈ L, a < 18446744073709551616) :
    Calls Tryz.prog 141 #[.slice (some ⟨g, o, none⟩) n cz, .slice (some ⟨g, o, none⟩) n cx, .int .u64 s] w
      fun e w' => (∃ c : Nat, e = .returned (.int .u64 (c : Int))) ∧ Hid (Keep (fun k => k = g) w w' ∧ Blk .u64 w' g (spl L o (shrL (seg L o n) s))) := by
  have H := Lib.hid (rshVU_g_any g o cz cx n s L w hn hlen hs0 hs bz hz hbx)
  clear bz hz hbx
  go_enter Tryz.func141, Tryz.ntmps141
  go_wp2_with (go_at_call 173; refine H.out.mono ?_; rintro e w' ⟨⟨c, rfl⟩, hp⟩)
  go_ret
  obtain ⟨nd, hp⟩ := hp.out
  exact ⟨⟨c, rfl⟩, Lib.hid ⟨hp.keep.of_drewN, hp.blk⟩⟩

end Go.Proofs.YtjjolcjeiogdmabGreatDoor

/- The plain law of long division by words (Knuth's algorithm D): what a guessed digit comes to. No program is in sight. -/
namespace Go.Proofs.YtjjolcjeiogdmabGreatDoor
open Go.RowKit

/-- the first digit of what is divided is at most that of the divisor -/
theorem kd_top {b v1 v2 p vr V u0 u1 u2 ur U : Nat} (hV : V = (v1 * b + v2) * p + vr) (hvr : vr < p) (hv2 : v2 < b) (hU : U = ((u0 * b + u1) * b + u2) * p + ur) (hlt : U < V * b) : u0 ≤ v1 := by
  rcases Nat.lt_or_ge v1 u0 with h | h
  · exfalso
    have hb : 0 < b := by omega
    have a1 : (v1 + 1) * b * b * p ≤ ((u0 * b + u1) * b + u2) * p := Nat.mul_le_mul_right p (by
      have h1 := Nat.mul_le_mul_right b (Nat.mul_le_mul_right b (show v1 + 1 ≤ u0 from h))
      have h2 := Nat.mul_le_mul_right b (Nat.le_add_right (u0 * b) u1)
      omega)
    have a2 : V < (v1 * b + v2 + 1) * p := by rw [hV, Nat.add_mul (v1 * b + v2) 1 p]; omega
    have a3 : (v1 * b + v2 + 1) * p * b ≤ (v1 + 1) * b * p * b := Nat.mul_le_mul_right b (Nat.mul_le_mul_right p (by rw [Nat.add_mul, Nat.one_mul]; omega))
    have a4 := Nat.mul_lt_mul_of_pos_right a2 hb
    have a5 : (v1 + 1) * b * p * b = (v1 + 1) * b * b * p := Nat.mul_right_comm _ _ _
    omega
  · exact h

/-- the greatest digit is guessed: at most one too great -/
theorem kd_max {b v1 v2 p vr V u1 u2 ur U : Nat} (hV : V = (v1 * b + v2) * p + vr) (hvr : vr < p) (hv2 : v2 < b) (hb : b ≤ 2 * v1) (hU : U = ((v1 * b + u1) * b + u2) * p + ur) (hlt : U < V * b) :
    U / V ≤ b - 1 ∧ b - 1 ≤ U / V + 1 := by
  have hb0 : 0 < b := by omega
  have hp : 0 < p := by omega
  have hvp : 0 < v1 := by omega
  have hV0 : 0 < V := by
    rw [hV]
    have : 1 * 1 ≤ (v1 * b + v2) * p := Nat.mul_le_mul (by have := Nat.mul_le_mul hvp hb0; omega) hp
    omega
  constructor
  · have : U / V < b := by rw [Nat.div_lt_iff_lt_mul hV0, Nat.mul_comm]; exact hlt
    exact Nat.le_sub_one_of_lt this
  · rcases Nat.lt_or_ge b 2 with h | h
    · generalize U / V = x; omega
    · obtain ⟨c, rfl⟩ : ∃ c, b = c + 2 := ⟨b - 2, by omega⟩
      have a2 : V ≤ (v1 + 1) * (c + 2) * p := by
        have h1 : V < (v1 * (c + 2) + v2 + 1) * p := by rw [hV, Nat.add_mul (v1 * (c + 2) + v2) 1 p]; omega
        have h2 : (v1 * (c + 2) + v2 + 1) * p ≤ (v1 + 1) * (c + 2) * p := Nat.mul_le_mul_right p (by rw [Nat.add_mul, Nat.one_mul]; omega)
        omega
      have a3 : c * (v1 + 1) ≤ v1 * (c + 2) := by
        rw [Nat.mul_add, Nat.mul_add, Nat.mul_comm c v1]; omega
      have a4 : c * V ≤ v1 * (c + 2) * ((c + 2) * p) := by
        have h1 := Nat.mul_le_mul_left c a2
        have h2 : c * ((v1 + 1) * (c + 2) * p) = c * (v1 + 1) * ((c + 2) * p) := by rw [Nat.mul_assoc (v1 + 1), Nat.mul_assoc]
        have h3 := Nat.mul_le_mul_right ((c + 2) * p) a3
        omega
      have a5 : v1 * (c + 2) * ((c + 2) * p) ≤ U := by
        have h1 : v1 * (c + 2) * ((c + 2) * p) = v1 * (c + 2) * (c + 2) * p := by rw [← Nat.mul_assoc]
        have h2 : v1 * (c + 2) * (c + 2) * p ≤ ((v1 * (c + 2) + u1) * (c + 2) + u2) * p := Nat.mul_le_mul_right p (by
          have := Nat.mul_le_mul_right (c + 2) (Nat.le_add_right (v1 * (c + 2)) u1)
          omega)
        omega
      have : c ≤ U / V := by rw [Nat.le_div_iff_mul_le hV0]; omega
      exact Nat.succ_le_succ this

/-- a digit guessed by three digits over two: at most one too great -/
theorem kd_three {b V2 p vr V U3 ur U q : Nat} (hV : V = V2 * p + vr) (hvr : vr < p) (hV2 : b ≤ V2) (hU : U = U3 * p + ur) (hur : ur < p) (h1 : U3 / V2 ≤ q) (h2 : q * V2 ≤ U3) (hq : q < b) :
    U / V ≤ q ∧ q ≤ U / V + 1 := by
  have hb0 : 0 < b := by omega
  have hV20 : 0 < V2 := by omega
  have hp : 0 < p := by omega
  have hV0 : 0 < V := by
    have : 1 * 1 ≤ V2 * p := Nat.mul_le_mul hV20 hp
    omega
  constructor
  · have e1 : U3 < (q + 1) * V2 := by
      have := Nat.lt_mul_of_div_lt (show U3 / V2 < q + 1 by omega) hV20
      exact this
    have e2 : (U3 + 1) * p ≤ (q + 1) * V2 * p := Nat.mul_le_mul_right p e1
    have e3 : (q + 1) * V2 * p ≤ (q + 1) * V := by rw [Nat.mul_assoc, hV]; exact Nat.mul_le_mul_left _ (by omega)
    have e4 : U < (U3 + 1) * p := by rw [hU, Nat.add_mul]; omega
    have : U / V < q + 1 := by rw [Nat.div_lt_iff_lt_mul hV0]; omega
    exact Nat.le_of_lt_succ this
  · rcases Nat.eq_zero_or_pos q with h | h
    · rw [h]; exact Nat.zero_le _
    · obtain ⟨c, rfl⟩ : ∃ c, q = c + 1 := ⟨q - 1, by omega⟩
      have e1 : (c + 1) * V2 * p ≤ U := by
        have := Nat.mul_le_mul_right p h2
        omega
      have e2 : (c + 1) * V = (c + 1) * V2 * p + (c + 1) * vr := by rw [hV, Nat.mul_add, Nat.mul_assoc]
      have e3 : (c + 1) * vr ≤ b * p := Nat.mul_le_mul (by omega) (by omega)
      have e4 : b * p ≤ V2 * p := Nat.mul_le_mul_right p hV2
      have e5 : (c + 1) * V = c * V + V := by rw [Nat.add_mul, Nat.one_mul]
      have : c ≤ U / V := by rw [Nat.le_div_iff_mul_le hV0]; omega
      exact Nat.succ_le_succ this

theorem val_snoc (l : List Nat) (x : Nat) : val (l ++ [x]) = val l + wpow l.length * x := by
  rw [val_append]; simp [val]

/-- the last of n + 1 words, split off -/
theorem last_split {D : List Nat} {n : Nat} (h : D.length = n + 1) : D = D.take n ++ [D.getD n 0] ∧ (D.take n).length = n := by
  refine ⟨?_, by simp; omega⟩
  have := List.take_succ_eq_append_getElem (l := D) (i := n) (by omega)
  rw [List.take_of_length_le (by omega)] at this
  rw [show D.getD n 0 = D[n] by simp [List.getD, h]]
  exact this

/-- words whose worth is below that of n words: the word behind them is 0 -/
theorem top_zero {D : List Nat} {n : Nat} (h : D.length = n + 1) (hv : val D < wpow n) : D = D.take n ++ [0] ∧ val (D.take n) = val D := by
  obtain ⟨e, hl⟩ := last_split h
  have e2 : val D = val (D.take n) + wpow n * D.getD n 0 := by
    have := val_snoc (D.take n) (D.getD n 0)
    rw [← e, hl] at this; exact this
  have h0 : D.getD n 0 = 0 := by
    rcases Nat.eq_zero_or_pos (D.getD n 0) with h | h
    · exact h
    · have : wpow n * 1 ≤ wpow n * D.getD n 0 := Nat.mul_le_mul_left _ h
      omega
  rw [h0] at e e2
  exact ⟨e, by omega⟩

/-- the product of the divisor with the guessed digit, n + 1 words -/
def kdP (v : List Nat) (q : Nat) : List Nat := (mulVs v q 0).1 ++ [(mulVs v q 0).2]

theorem kdP_length (v : List Nat) (q : Nat) : (kdP v q).length = v.length + 1 := by simp [kdP, mulVs_length]

theorem kdP_val (v : List Nat) (q : Nat) : val (kdP v q) = val v * q := by
  have := mulVs_val v q 0
  rw [kdP, val_snoc, mulVs_length]; omega

theorem kdP_lt {v : List Nat} {q : Nat} (hv : ∀ a ∈ v, a < 18446744073709551616) (hq : q < 18446744073709551616) : ∀ a ∈ kdP v q, a < 18446744073709551616 := by
  intro a ha
  simp only [kdP, List.mem_append, List.mem_singleton] at ha
  rcases ha with ha | rfl
  · exact mulVs_lt v q 0 a ha
  · exact mulVs_carry v q 0 hv hq (by omega)

/-- no borrow: the digit is right, and what is left stands in n words -/
theorem kd_fine {v W : List Nat} {n q : Nat} (hW : W.length = n + 1) (hv : v.length = n) (hWb : ∀ a ∈ W, a < 18446744073709551616) (hvb : ∀ a ∈ v, a < 18446744073709551616) (hqb : q < 18446744073709551616)
    (h0 : 0 < val v) (h1 : val W / val v ≤ q) (hc : (subVs W (kdP v q) 0).2 = 0) :
    q = val W / val v ∧ (subVs W (kdP v q) 0).1 = (subVs W (kdP v q) 0).1.take n ++ [0] ∧ val ((subVs W (kdP v q) 0).1.take n) = val W % val v := by
  have hl := subVs_length W (kdP v q) 0 (by rw [hW, kdP_length, hv])
  have e := subVs_val W (kdP v q) 0 (by rw [hW, kdP_length, hv]) hWb (kdP_lt hvb hqb) (by omega)
  rw [hc, kdP_val] at e
  generalize (subVs W (kdP v q) 0).1 = D at *
  have hq : q = val W / val v := by
    have : q ≤ val W / val v := by rw [Nat.le_div_iff_mul_le h0, Nat.mul_comm]; omega
    omega
  have hd := Nat.div_add_mod (val W) (val v)
  rw [← hq] at hd
  have hm := Nat.mod_lt (val W) h0
  have hvl := val_lt hvb
  rw [hv] at hvl
  have hD : val D = val W % val v := by omega
  obtain ⟨t1, t2⟩ := top_zero (n := n) (by rw [hl, hW]) (by omega)
  exact ⟨hq, t1, by rw [t2, hD]⟩

/-- a borrow: the digit is one too great; the divisor, added back, puts it right -/
theorem kd_back {v W : List Nat} {n q : Nat} (hW : W.length = n + 1) (hv : v.length = n) (hWb : ∀ a ∈ W, a < 18446744073709551616) (hvb : ∀ a ∈ v, a < 18446744073709551616) (hqb : q < 18446744073709551616)
    (h0 : 0 < val v) (h2 : q ≤ val W / val v + 1) (hc : (subVs W (kdP v q) 0).2 = 1) :
    q = val W / val v + 1 ∧ val (addVs ((subVs W (kdP v q) 0).1.take n) v 0).1 = val W % val v ∧
      ((subVs W (kdP v q) 0).1.getD n 0 + (addVs ((subVs W (kdP v q) 0).1.take n) v 0).2) % 18446744073709551616 = 0 := by
  have hl := subVs_length W (kdP v q) 0 (by rw [hW, kdP_length, hv])
  have hDb := subVs_lt W (kdP v q) 0
  have e := subVs_val W (kdP v q) 0 (by rw [hW, kdP_length, hv]) hWb (kdP_lt hvb hqb) (by omega)
  rw [hc, kdP_val] at e
  generalize (subVs W (kdP v q) 0).1 = D at *
  obtain ⟨hs, hsl⟩ := last_split (show D.length = n + 1 by rw [hl, hW])
  have hDv := val_lt hDb
  rw [hl, hW] at hDv
  rw [hW] at e
  have hq : q = val W / val v + 1 := by
    rcases Nat.lt_or_ge q (val W / val v + 1) with h | h
    · exfalso
      have h3 : q * val v ≤ val W := by
        rw [← Nat.le_div_iff_mul_le h0]; omega
      rw [Nat.mul_comm] at h3
      omega
    · omega
  have hd := Nat.div_add_mod (val W) (val v)
  have hm := Nat.mod_lt (val W) h0
  have hvl := val_lt hvb
  rw [hv] at hvl
  have ea := addVs_val (D.take n) v 0 (by rw [hsl, hv])
  have hal := addVs_lt (D.take n) v 0
  have hall := addVs_length (D.take n) v 0 (by rw [hsl, hv])
  rw [hsl] at hall ea
  have hSv := val_lt hal
  rw [hall] at hSv
  have hDs : val D = val (D.take n) + wpow n * D.getD n 0 := by
    have := val_snoc (D.take n) (D.getD n 0)
    rw [← hs, hsl] at this; exact this
  have hDn : D.getD n 0 < 18446744073709551616 := getD_lt hDb pos64 n
  generalize (addVs (D.take n) v 0).1 = S at *
  generalize hc2 : (addVs (D.take n) v 0).2 = c2 at *
  have hc1 : c2 ≤ 1 := by rw [← hc2]; exact addVs_carry _ _ _ (fun a ha => hDb a (List.mem_of_mem_take ha)) hvb (by omega)
  generalize D.getD n 0 = t at *
  generalize val (D.take n) = d at *
  have hw := wpow_succ n
  have hsum : val S + wpow n * (c2 + t) = wpow n * 18446744073709551616 + val W % val v := by
    rw [Nat.mul_add]
    have : val v * q = val v * (val W / val v) + val v := by rw [hq, Nat.mul_add, Nat.mul_one]
    rw [Nat.mul_comm (wpow n) 18446744073709551616, ← hw]
    omega
  generalize val W % val v = r at *
  have hp := wpow_pos n
  have hct : c2 + t = 18446744073709551616 := by
    rcases Nat.lt_trichotomy (c2 + t) 18446744073709551616 with h | h | h
    · have : wpow n * (c2 + t + 1) ≤ wpow n * 18446744073709551616 := Nat.mul_le_mul_left _ h
      rw [Nat.mul_add, Nat.mul_one] at this
      omega
    · exact h
    · have : wpow n * (18446744073709551616 + 1) ≤ wpow n * (c2 + t) := Nat.mul_le_mul_left _ h
      rw [Nat.mul_add, Nat.mul_one] at this
      omega
  refine ⟨hq, ?_, ?_⟩
  · rw [hct] at hsum; omega
  · rw [Nat.add_comm, hct]

/-- one digit more of the quotient -/
theorem kd_next {x Q V : Nat} {R Qs : List Nat} (_hR : R.length = Qs.length ∨ True) (h : val (x :: R) / V = Q) (U' : Nat) (hU : U' = val Qs * V + val R) :
    x + 18446744073709551616 * U' = val (Q :: Qs) * V + val (x :: R) % V := by
  subst hU
  have hd := Nat.div_add_mod (val (x :: R)) V
  rw [h] at hd
  simp only [val] at *
  rw [Nat.add_mul, Nat.mul_add, Nat.mul_assoc]
  rw [Nat.mul_comm V Q] at hd
  omega

end Go.Proofs.YtjjolcjeiogdmabGreatDoor
