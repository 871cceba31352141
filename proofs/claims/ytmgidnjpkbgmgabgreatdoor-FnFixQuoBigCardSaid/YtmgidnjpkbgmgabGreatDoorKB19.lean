/- The contracts of math/bits' functions on words. -/
import Derived.Test.YtmgidnjpkbgmgabGreatDoorProg
import Derived.Outline
import Derived.WalkLawsBesides
import Derived.WalkSpells
import Derived.Shelf.Spec.BitsCarry
import Derived.Shelf.Bits.Mul64
import Derived.Test.YtmgidnjpkbgmgabGreatDoorKB1
namespace Go.Proofs.YtmgidnjpkbgmgabGreatDoor
open Go.RowKit

def addC (x y c : Nat) : Nat := (x + y + c) / 18446744073709551616
def addS (x y c : Nat) : Nat := (x + y + c) % 18446744073709551616
def subC (x y c : Nat) : Nat := if x < y + c then 1 else 0
def subS (x y c : Nat) : Nat := (x + 18446744073709551616 - y - c) % 18446744073709551616
def mulH (x y : Nat) : Nat := x * y / 18446744073709551616
def mulL (x y : Nat) : Nat := x * y % 18446744073709551616

theorem run_Add64 (x y c : Nat) (hc : c ≤ 1) (w : World) :
    (callFunc 230 #[.int .u64 x, .int .u64 y, .int .u64 c]).run Tryz.prog w =
      .ok (.value (.tuple #[.int .u64 (((x + y + c) % 18446744073709551616 : Nat) : Int), .int .u64 (((x + y + c) / 18446744073709551616 : Nat) : Int)])) w := by
  rw [run_callFunc_extern Tryz.func230 (by kernel_rfl) (by kernel_rfl) (by kernel_rfl) (e := add64Entry) (by kernel_rfl), run_add64 x y c (by omega) (by omega) (by omega) (by omega)]
  simp only [Result.andThen]
  congr 5 <;> omega

theorem run_Sub64 (x y b : Nat) (hb : b ≤ 1) (w : World) :
    (callFunc 232 #[.int .u64 x, .int .u64 y, .int .u64 b]).run Tryz.prog w =
      .ok (.value (.tuple #[.int .u64 (((x + 18446744073709551616 - y - b) % 18446744073709551616 : Nat) : Int), .int .u64 ((if x < y + b then 1 else 0 : Nat) : Int)])) w := by
  rw [run_callFunc_extern Tryz.func232 (by kernel_rfl) (by kernel_rfl) (by kernel_rfl) (e := sub64Entry) (by kernel_rfl), run_sub64 x y b hb]
  rfl

set_option maxHeartbeats 400000 in
theorem bits_Add0 (x y c : Nat) (hc : c ≤ 1) (w : World) :
    Calls Tryz.prog 203 #[.int .u64 x, .int .u64 y, .int .u64 c] w fun e w' => e = .returned (.tuple #[.int .u64 (((x + y + c) % 18446744073709551616 : Nat) : Int), .int .u64 (((x + y + c) / 18446744073709551616 : Nat) : Int)]) ∧ w = w' := by
  have hr := run_Add64 x y c hc
  go_enter Tryz.func203, Tryz.ntmps203
  go_wp2
  go_ret2
  exact ⟨rfl, rfl⟩

theorem bits_Add (x y c : Nat) (hc : c ≤ 1) (w : World) :
    Calls Tryz.prog 203 #[.int .u64 x, .int .u64 y, .int .u64 c] w fun e w' => e = .returned (.tuple #[.int .u64 (addS x y c : Nat), .int .u64 (addC x y c : Nat)]) ∧ w = w' :=
  bits_Add0 x y c hc w

set_option maxHeartbeats 400000 in
theorem bits_Sub0 (x y c : Nat) (hc : c ≤ 1) (w : World) :
    Calls Tryz.prog 205 #[.int .u64 x, .int .u64 y, .int .u64 c] w fun e w' => e = .returned (.tuple #[.int .u64 (((x + 18446744073709551616 - y - c) % 18446744073709551616 : Nat) : Int), .int .u64 ((if x < y + c then 1 else 0 : Nat) : Int)]) ∧ w = w' := by
  have hr := run_Sub64 x y c hc
  go_enter Tryz.func205, Tryz.ntmps205
  go_wp2
  all_goals (go_ret2; exact ⟨rfl, rfl⟩)

theorem bits_Sub (x y c : Nat) (hc : c ≤ 1) (w : World) :
    Calls Tryz.prog 205 #[.int .u64 x, .int .u64 y, .int .u64 c] w fun e w' => e = .returned (.tuple #[.int .u64 (subS x y c : Nat), .int .u64 (subC x y c : Nat)]) ∧ w = w' :=
  bits_Sub0 x y c hc w

section
set_option maxHeartbeats 1000000
open Mul64 in
theorem bits_Mul64 (x y : Nat) (hx : x < 18446744073709551616) (hy : y < 18446744073709551616) (w : World) :
    Calls Tryz.prog 260 #[.int .u64 x, .int .u64 y] w fun e w' => e = .returned (.tuple #[.int .u64 ((x * y / 18446744073709551616 : Nat) : Int), .int .u64 ((x * y % 18446744073709551616 : Nat) : Int)]) ∧ w = w' := by
  obtain ⟨bd, bt, bw, hhi⟩ := Lib.mul64_hi x y hx hy
  have ba := Lib.half_mul_le (a := x / 4294967296) (b := y / 4294967296) (by omega) (by omega)
  have bb := Lib.half_mul_le (a := x / 4294967296) (b := y % 4294967296) (by omega) (by omega)
  have bc := Lib.half_mul_le (a := x % 4294967296) (b := y / 4294967296) (by omega) (by omega)
  have ba' : x / 4294967296 * (y / 4294967296) < 18446744073709551616 := by omega
  have bb' : x / 4294967296 * (y % 4294967296) < 18446744073709551616 := by omega
  have bc' : x % 4294967296 * (y / 4294967296) < 18446744073709551616 := by omega
  have bh1 : x / 4294967296 * (y / 4294967296) + (x / 4294967296 * (y % 4294967296) + x % 4294967296 * (y % 4294967296) / 4294967296) / 4294967296 < 18446744073709551616 := by omega
  have bh : x / 4294967296 * (y / 4294967296) + (x / 4294967296 * (y % 4294967296) + x % 4294967296 * (y % 4294967296) / 4294967296) / 4294967296 + ((x / 4294967296 * (y % 4294967296) + x % 4294967296 * (y % 4294967296) / 4294967296) % 4294967296 + x % 4294967296 * (y / 4294967296)) / 4294967296 < 18446744073709551616 := by omega
  go_enter Tryz.func260, Tryz.ntmps260
  go_wp2
  simp only [Mul64.maskN x hx, Mul64.maskN y hy, Mul64.divN, Mul64.mulN, Mul64.addN, Mul64.wrapN _ bd, Mul64.wrapN _ bb', Mul64.wrapN _ bt, Mul64.maskN _ bt, Mul64.wrapN _ bc', Mul64.wrapN _ bw, Mul64.wrapN _ ba', Mul64.wrapN _ bh1, Mul64.wrapN _ bh, Mul64.wrapM (x * y)]
  rw [hhi]
  go_ret2
  exact ⟨rfl, rfl⟩

theorem bits_Mul0 (x y : Nat) (hx : x < 18446744073709551616) (hy : y < 18446744073709551616) (w : World) :
    Calls Tryz.prog 239 #[.int .u64 x, .int .u64 y] w fun e w' => e = .returned (.tuple #[.int .u64 ((x * y / 18446744073709551616 : Nat) : Int), .int .u64 ((x * y % 18446744073709551616 : Nat) : Int)]) ∧ w = w' := by
  go_enter Tryz.func239, Tryz.ntmps239
  go_wp2_with (go_at_call 260; refine (bits_Mul64 x y hx hy _).mono ?_; rintro e w' ⟨rfl, rfl⟩)
  go_ret2
  exact ⟨rfl, rfl⟩
end

theorem bits_Mul (x y : Nat) (hx : x < 18446744073709551616) (hy : y < 18446744073709551616) (w : World) :
    Calls Tryz.prog 239 #[.int .u64 x, .int .u64 y] w fun e w' => e = .returned (.tuple #[.int .u64 (mulH x y : Nat), .int .u64 (mulL x y : Nat)]) ∧ w = w' :=
  bits_Mul0 x y hx hy w

def maH (x y c : Nat) : Nat := (x * y + c) / 18446744073709551616
def maL (x y c : Nat) : Nat := (x * y + c) % 18446744073709551616

theorem mul_lt_sq {x y : Nat} (hx : x < 18446744073709551616) (hy : y < 18446744073709551616) : x * y ≤ 18446744073709551615 * 18446744073709551615 :=
  Nat.mul_le_mul (by omega) (by omega)

theorem maH_eq {x y c : Nat} : mulH x y + addC (mulL x y) c 0 = maH x y c := by
  unfold mulH addC mulL maH; generalize x * y = p; omega

theorem maH_lt {x y c : Nat} (hx : x < 18446744073709551616) (hy : y < 18446744073709551616) (hc : c < 18446744073709551616) : maH x y c < 18446744073709551616 := by
  have h := mul_lt_sq hx hy
  unfold maH; generalize x * y = p at *; omega

theorem maL_eq {x y c : Nat} : addS (mulL x y) c 0 = maL x y c := by
  unfold addS mulL maL; generalize x * y = p; omega

theorem maL_lt (x y c : Nat) : maL x y c < 18446744073709551616 := by unfold maL; omega
theorem addS_lt (x y c : Nat) : addS x y c < 18446744073709551616 := by unfold addS; omega
theorem subS_lt (x y c : Nat) : subS x y c < 18446744073709551616 := by unfold subS; omega
theorem subC_le (x y c : Nat) : subC x y c ≤ 1 := by unfold subC; split <;> omega
theorem addC_le {x y c : Nat} (hx : x < 18446744073709551616) (hy : y < 18446744073709551616) (hc : c ≤ 1) : addC x y c ≤ 1 := by unfold addC; omega

theorem wrap_add {a b : Nat} (h : a + b < 18446744073709551616) : IntKind.u64.wrap ((a : Int) + (b : Int)) = ((a + b : Nat) : Int) := by
  rw [IntKind.wrap_u64]; omega

set_option maxHeartbeats 400000 in
theorem mulAddWWW_g (x y c : Nat) (hx : x < 18446744073709551616) (hy : y < 18446744073709551616) (hc : c < 18446744073709551616) (w : World) :
    Calls Tryz.prog 271 #[.int .u64 x, .int .u64 y, .int .u64 c] w fun e w' => e = .returned (.tuple #[.int .u64 (maH x y c : Nat), .int .u64 (maL x y c : Nat)]) ∧ w = w' := by
  have hw := wrap_add (a := mulH x y) (b := addC (mulL x y) c 0) (by rw [maH_eq]; exact maH_lt hx hy hc)
  rw [maH_eq] at hw
  rw [← maL_eq]
  generalize maH x y c = m at *
  have HW := Lib.hid hw; clear hw
  go_enter Tryz.func271, Tryz.ntmps271
  go_wp2_with (first
    | (go_at_call 239; refine (bits_Mul x y hx hy _).mono ?_; rintro e w' ⟨rfl, rfl⟩)
    | (go_at_call 203; refine (bits_Add _ c 0 (by omega) _).mono ?_; rintro e w' ⟨rfl, rfl⟩))
  go_ret2
  refine ⟨?_, rfl⟩
  rw [HW.out]; rfl

end Go.Proofs.YtmgidnjpkbgmgabGreatDoor

/- The contracts of math/big's functions on vectors of words: sums, differences, products. -/
namespace Go.Proofs.YtmgidnjpkbgmgabGreatDoor
open Go.RowKit

/-- the words of a sum, and what is carried on -/
def addVs : List Nat → List Nat → Nat → List Nat × Nat
  | x :: xs, y :: ys, c => let r := addVs xs ys (addC x y c); (addS x y c :: r.1, r.2)
  | _, _, c => ([], c)

/-- the words of a difference, and what is borrowed -/
def subVs : List Nat → List Nat → Nat → List Nat × Nat
  | x :: xs, y :: ys, c => let r := subVs xs ys (subC x y c); (subS x y c :: r.1, r.2)
  | _, _, c => ([], c)

/-- the words of a product with a word, and what is carried on -/
def mulVs : List Nat → Nat → Nat → List Nat × Nat
  | x :: xs, y, c => let r := mulVs xs y (maH x y c); (maL x y c :: r.1, r.2)
  | [], _, c => ([], c)

/-- the words of x + y * m + c, and what is carried on -/
def amVs : List Nat → List Nat → Nat → Nat → List Nat × Nat
  | x :: xs, y :: ys, m, c => let r := amVs xs ys m (maH y m x + addC (maL y m x) c 0); (addS (maL y m x) c 0 :: r.1, r.2)
  | _, _, _, c => ([], c)

theorem addVs_snoc (x y : Nat) : ∀ (xs ys : List Nat) (c : Nat), xs.length = ys.length → addVs (xs ++ [x]) (ys ++ [y]) c = ((addVs xs ys c).1 ++ [addS x y (addVs xs ys c).2], addC x y (addVs xs ys c).2)
  | [], [], c, _ => rfl
  | a :: xs, b :: ys, c, h => by
    have ih := addVs_snoc x y xs ys (addC a b c) (by simpa using h)
    simp only [List.cons_append, addVs, ih]

theorem addVs_length : ∀ (xs ys : List Nat) (c : Nat), xs.length = ys.length → (addVs xs ys c).1.length = xs.length
  | [], [], c, _ => rfl
  | a :: xs, b :: ys, c, h => by simp only [addVs, List.length_cons]; rw [addVs_length xs ys _ (by simpa using h)]

theorem addVs_lt : ∀ (xs ys : List Nat) (c : Nat), ∀ a ∈ (addVs xs ys c).1, a < 18446744073709551616
  | [], _, c => by simp [addVs]
  | _ :: _, [], c => by simp [addVs]
  | a :: xs, b :: ys, c => by
    intro z hz
    simp only [addVs, List.mem_cons] at hz
    rcases hz with rfl | hz
    · exact addS_lt _ _ _
    · exact addVs_lt xs ys _ z hz

theorem subVs_snoc (x y : Nat) : ∀ (xs ys : List Nat) (c : Nat), xs.length = ys.length → subVs (xs ++ [x]) (ys ++ [y]) c = ((subVs xs ys c).1 ++ [subS x y (subVs xs ys c).2], subC x y (subVs xs ys c).2)
  | [], [], c, _ => rfl
  | a :: xs, b :: ys, c, h => by
    have ih := subVs_snoc x y xs ys (subC a b c) (by simpa using h)
    simp only [List.cons_append, subVs, ih]

theorem subVs_length : ∀ (xs ys : List Nat) (c : Nat), xs.length = ys.length → (subVs xs ys c).1.length = xs.length
  | [], [], c, _ => rfl
  | a :: xs, b :: ys, c, h => by simp only [subVs, List.length_cons]; rw [subVs_length xs ys _ (by simpa using h)]

theorem subVs_lt : ∀ (xs ys : List Nat) (c : Nat), ∀ a ∈ (subVs xs ys c).1, a < 18446744073709551616
  | [], _, c => by simp [subVs]
  | _ :: _, [], c => by simp [subVs]
  | a :: xs, b :: ys, c => by
    intro z hz
    simp only [subVs, List.mem_cons] at hz
    rcases hz with rfl | hz
    · exact subS_lt _ _ _
    · exact subVs_lt xs ys _ z hz

theorem addVs_carry : ∀ (xs ys : List Nat) (c : Nat), (∀ a ∈ xs, a < 18446744073709551616) → (∀ a ∈ ys, a < 18446744073709551616) → c ≤ 1 → (addVs xs ys c).2 ≤ 1
  | [], _, c, _, _, h => h
  | _ :: _, [], c, _, _, h => h
  | a :: xs, b :: ys, c, hx, hy, h =>
    addVs_carry xs ys _ (fun a ha => hx a (by simp [ha])) (fun a ha => hy a (by simp [ha])) (addC_le (hx a (by simp)) (hy b (by simp)) h)

theorem subVs_carry : ∀ (xs ys : List Nat) (c : Nat), c ≤ 1 → (subVs xs ys c).2 ≤ 1
  | [], _, _, h => h
  | _ :: _, [], _, h => h
  | _ :: xs, _ :: ys, _, _ => subVs_carry xs ys _ (subC_le _ _ _)

theorem mulVs_snoc (x y : Nat) : ∀ (xs : List Nat) (c : Nat), mulVs (xs ++ [x]) y c = ((mulVs xs y c).1 ++ [maL x y (mulVs xs y c).2], maH x y (mulVs xs y c).2)
  | [], c => rfl
  | a :: xs, c => by
    have ih := mulVs_snoc x y xs (maH a y c)
    simp only [List.cons_append, mulVs, ih]

theorem mulVs_length : ∀ (xs : List Nat) (y c : Nat), (mulVs xs y c).1.length = xs.length
  | [], _, c => rfl
  | a :: xs, y, c => by simp only [mulVs, List.length_cons]; rw [mulVs_length xs y]

theorem mulVs_lt : ∀ (xs : List Nat) (y c : Nat), ∀ a ∈ (mulVs xs y c).1, a < 18446744073709551616
  | [], _, c => by simp [mulVs]
  | a :: xs, y, c => by
    intro z hz
    simp only [mulVs, List.mem_cons] at hz
    rcases hz with rfl | hz
    · exact maL_lt _ _ _
    · exact mulVs_lt xs y _ z hz

theorem mulVs_carry : ∀ (xs : List Nat) (y c : Nat), (∀ a ∈ xs, a < 18446744073709551616) → y < 18446744073709551616 → c < 18446744073709551616 → (mulVs xs y c).2 < 18446744073709551616
  | [], y, c, _, _, h => h
  | a :: xs, y, c, hx, hy, h => mulVs_carry xs y _ (fun a ha => hx a (by simp [ha])) hy (maH_lt (hx a (by simp)) hy h)

theorem amVs_snoc (x y m : Nat) : ∀ (xs ys : List Nat) (c : Nat), xs.length = ys.length →
    amVs (xs ++ [x]) (ys ++ [y]) m c = ((amVs xs ys m c).1 ++ [addS (maL y m x) (amVs xs ys m c).2 0], maH y m x + addC (maL y m x) (amVs xs ys m c).2 0)
  | [], [], c, _ => rfl
  | a :: xs, b :: ys, c, h => by
    have ih := amVs_snoc x y m xs ys (maH b m a + addC (maL b m a) c 0) (by simpa using h)
    simp only [List.cons_append, amVs, ih]

theorem amVs_length : ∀ (xs ys : List Nat) (m c : Nat), xs.length = ys.length → (amVs xs ys m c).1.length = xs.length
  | [], [], _, c, _ => rfl
  | a :: xs, b :: ys, m, c, h => by simp only [amVs, List.length_cons]; rw [amVs_length xs ys _ _ (by simpa using h)]

theorem amVs_lt : ∀ (xs ys : List Nat) (m c : Nat), ∀ a ∈ (amVs xs ys m c).1, a < 18446744073709551616
  | [], _, _, c => by simp [amVs]
  | _ :: _, [], _, c => by simp [amVs]
  | a :: xs, b :: ys, m, c => by
    intro z hz
    simp only [amVs, List.mem_cons] at hz
    rcases hz with rfl | hz
    · exact addS_lt _ _ _
    · exact amVs_lt xs ys _ _ z hz

theorem am_lt {x y m c : Nat} (hx : x < 18446744073709551616) (hy : y < 18446744073709551616) (hm : m < 18446744073709551616) (hc : c < 18446744073709551616) :
    maH y m x + addC (maL y m x) c 0 < 18446744073709551616 := by
  have h := mul_lt_sq hy hm
  unfold maH maL addC; generalize y * m = p at *; omega

theorem amVs_carry : ∀ (xs ys : List Nat) (m c : Nat), (∀ a ∈ xs, a < 18446744073709551616) → (∀ a ∈ ys, a < 18446744073709551616) → m < 18446744073709551616 → c < 18446744073709551616 → (amVs xs ys m c).2 < 18446744073709551616
  | [], _, _, c, _, _, _, h => h
  | _ :: _, [], _, c, _, _, _, h => h
  | a :: xs, b :: ys, m, c, hx, hy, hm, h =>
    amVs_carry xs ys _ _ (fun a ha => hx a (by simp [ha])) (fun a ha => hy a (by simp [ha])) hm (am_lt (hx a (by simp)) (hy b (by simp)) hm h)

theorem pos64 : 0 < 18446744073709551616 := by omega

set_option maxHeartbeats 400000 in
theorem addVV_g (gz oz cz gx ox cx gy oy cy n : Nat) (Lz Lx Ly : List Nat) (w : World) (hlen : n ≤ 1000000)
    (bz : Blk .u64 w gz Lz) (bx : Blk .u64 w gx Lx) (by_ : Blk .u64 w gy Ly) (hz : oz + n ≤ Lz.length) (hx : ox + n ≤ Lx.length) (hy : oy + n ≤ Ly.length)
    (hbx : ∀ a ∈ Lx, a < 18446744073709551616) (hby : ∀ a ∈ Ly, a < 18446744073709551616)
    (hax : gx ≠ gz ∨ oz ≤ ox) (hay : gy ≠ gz ∨ oz ≤ oy) :
    Calls Tryz.prog 202 #[.slice (some ⟨gz, oz, none⟩) n cz, .slice (some ⟨gx, ox, none⟩) n cx, .slice (some ⟨gy, oy, none⟩) n cy] w
      fun e w' => e = .returned (.int .u64 ((addVs (seg Lx ox n) (seg Ly oy n) 0).2 : Nat)) ∧ Puts .u64 gz (spl Lz oz (addVs (seg Lx ox n) (seg Ly oy n) 0).1) w w' := by
  have H_bz := Lib.hid bz; clear bz
  have H_bx := Lib.hid bx; clear bx
  have H_by_ := Lib.hid by_; clear by_
  have H_hz := Lib.hid hz; clear hz
  have H_hx := Lib.hid hx; clear hx
  have H_hy := Lib.hid hy; clear hy
  have H_hbx := Lib.hid hbx; clear hbx
  have H_hby := Lib.hid hby; clear hby
  have H_hax := Lib.hid hax; clear hax
  have H_hay := Lib.hid hay; clear hay
  go_enter Tryz.func202, Tryz.ntmps202
  go_wp2_with (fail)
  go_loopw [6, 25] (fun c i wr => ∃ k : Nat, k ≤ n ∧ i = .int .i64 k ∧ c = .int .u64 ((addVs (seg Lx ox k) (seg Ly oy k) 0).2 : Nat) ∧ Puts .u64 gz (spl Lz oz (addVs (seg Lx ox k) (seg Ly oy k) 0).1) w wr) (fun _ i _ => n - (intOf i).toNat)
  case atStart => exact ⟨0, Nat.zero_le _, rfl, by simp [seg_zero, addVs], by rw [seg_zero, seg_zero]; simp only [addVs]; rw [spl_nil]; exact Puts.refl H_bz.out⟩
  case round =>
    obtain ⟨k, hk, rfl, rfl, hp⟩ := hrel
    by_cases hlt : k < n
    · have hl : (addVs (seg Lx ox k) (seg Ly oy k) 0).1.length = k := by
        have := H_hx.out; have := H_hy.out
        rw [addVs_length _ _ _ (by rw [seg_length (by omega), seg_length (by omega)]), seg_length (by omega)]
      have hs := addVs_snoc (Lx.getD (ox + k) 0) (Ly.getD (oy + k) 0) (seg Lx ox k) (seg Ly oy k) 0 (by have := H_hx.out; have := H_hy.out; rw [seg_length (by omega), seg_length (by omega)])
      rw [← seg_succ (by have := H_hx.out; omega), ← seg_succ (by have := H_hy.out; omega)] at hs
      have h3 := addVs_carry (seg Lx ox k) (seg Ly oy k) 0 (fun a ha => H_hbx.out a (seg_mem ha)) (fun a ha => H_hby.out a (seg_mem ha)) (by omega)
      generalize hr : addVs (seg Lx ox k) (seg Ly oy k) 0 = r at *
      obtain ⟨l, c⟩ := r
      simp only at h3 hl hp hs
      have H_hs := Lib.hid hs; clear hs
      have H_hr := Lib.hid hr; clear hr
      have H_hp := Lib.hid hp; clear hp
      have H_hl := Lib.hid hl; clear hl
      have hcx : wr.cell? ⟨gx, ox + k, none⟩ = some (wd .u64 (Lx.getD (ox + k) 0)) := by
        have := H_hx.out; have := H_hz.out; have := H_hl.out
        by_cases e : gx = gz
        · obtain rfl : Lx = Lz := Blk.uniq (by rw [e] at H_bx; exact H_bx.out) H_bz.out
          rw [e, H_hp.out.blk.cell (by rw [spl_length (by omega)]; omega), spl_getD (by omega), if_neg (by have := H_hax.out; omega)]
        · exact (H_hp.out.other e H_bx.out).cell (by omega)
      have hcy : wr.cell? ⟨gy, oy + k, none⟩ = some (wd .u64 (Ly.getD (oy + k) 0)) := by
        have := H_hy.out; have := H_hz.out; have := H_hl.out
        by_cases e : gy = gz
        · obtain rfl : Ly = Lz := Blk.uniq (by rw [e] at H_by_; exact H_by_.out) H_bz.out
          rw [e, H_hp.out.blk.cell (by rw [spl_length (by omega)]; omega), spl_getD (by omega), if_neg (by have := H_hay.out; omega)]
        · exact (H_hp.out.other e H_by_.out).cell (by omega)
      have hz1 := H_hp.out.blk.cell (o := oz + k) (by have := H_hz.out; have := H_hl.out; rw [spl_length (by omega)]; omega)
      have hz2 := H_hp.out.blk.frozen (oz + k)
      generalize Lx.getD (ox + k) 0 = x at *
      generalize Ly.getD (oy + k) 0 = y at *
      generalize (spl Lz oz l).getD (oz + k) 0 = z0 at *
      go_wp2_with (first | go_quiet ((go_at_call 203; exact quietSame (bits_Add _ _ _ (by assumption) _))))
      go_roundw
      case rel =>
        refine ⟨k + 1, by omega, by go_num, by rw [H_hs.out], ?_⟩
        rw [H_hs.out]
        have := (H_hp.out.drewN nq).set (oz + k) (addS x y c)
        rw [spl_set (by rw [H_hl.out]) (by have := H_hz.out; omega)] at this
        exact this
      case measure => simp [intOf]; omega
    · have HE := Lib.hid (show k = n by omega)
      have H_hp := Lib.hid hp; clear hp
      go_wp2
      go_ret
      have ep := H_hp.out
      rw [HE.out] at ep ⊢
      exact ⟨rfl, ep⟩

theorem addVV (gz oz cz gx ox cx gy oy cy n : Nat) (Lz Lx Ly : List Nat) (w : World) (hlen : n ≤ 1000000)
    (bz : Blk .u64 w gz Lz) (bx : Blk .u64 w gx Lx) (by_ : Blk .u64 w gy Ly) (hz : oz + n ≤ Lz.length) (hx : ox + n ≤ Lx.length) (hy : oy + n ≤ Ly.length)
    (hbx : ∀ a ∈ Lx, a < 18446744073709551616) (hby : ∀ a ∈ Ly, a < 18446744073709551616)
    (hax : gx ≠ gz ∨ oz ≤ ox) (hay : gy ≠ gz ∨ oz ≤ oy) :
    Calls Tryz.prog 179 #[.slice (some ⟨gz, oz, none⟩) n cz, .slice (some ⟨gx, ox, none⟩) n cx, .slice (some ⟨gy, oy, none⟩) n cy] w
      fun e w' => e = .returned (.int .u64 ((addVs (seg Lx ox n) (seg Ly oy n) 0).2 : Nat)) ∧ Puts .u64 gz (spl Lz oz (addVs (seg Lx ox n) (seg Ly oy n) 0).1) w w' := by
  have H := Lib.hid (addVV_g gz oz cz gx ox cx gy oy cy n Lz Lx Ly w hlen bz bx by_ hz hx hy hbx hby hax hay)
  clear bz bx by_ hz hx hy hbx hby hax hay
  go_enter Tryz.func179, Tryz.ntmps179
  go_wp2_with (go_at_call 202; refine H.out.mono ?_; rintro e w' ⟨rfl, hp⟩)
  go_ret
  exact ⟨rfl, hp⟩

set_option maxHeartbeats 400000 in
theorem subVV_g (gz oz cz gx ox cx gy oy cy n : Nat) (Lz Lx Ly : List Nat) (w : World) (hlen : n ≤ 1000000)
    (bz : Blk .u64 w gz Lz) (bx : Blk .u64 w gx Lx) (by_ : Blk .u64 w gy Ly) (hz : oz + n ≤ Lz.length) (hx : ox + n ≤ Lx.length) (hy : oy + n ≤ Ly.length)
    (hax : gx ≠ gz ∨ oz ≤ ox) (hay : gy ≠ gz ∨ oz ≤ oy) :
    Calls Tryz.prog 204 #[.slice (some ⟨gz, oz, none⟩) n cz, .slice (some ⟨gx, ox, none⟩) n cx, .slice (some ⟨gy, oy, none⟩) n cy] w
      fun e w' => e = .returned (.int .u64 ((subVs (seg Lx ox n) (seg Ly oy n) 0).2 : Nat)) ∧ Puts .u64 gz (spl Lz oz (subVs (seg Lx ox n) (seg Ly oy n) 0).1) w w' := by
  have H_bz := Lib.hid bz; clear bz
  have H_bx := Lib.hid bx; clear bx
  have H_by_ := Lib.hid by_; clear by_
  have H_hz := Lib.hid hz; clear hz
  have H_hx := Lib.hid hx; clear hx
  have H_hy := Lib.hid hy; clear hy
  have H_hax := Lib.hid hax; clear hax
  have H_hay := Lib.hid hay; clear hay
  go_enter Tryz.func204, Tryz.ntmps204
  go_wp2_with (fail)
  go_loopw [6, 25] (fun c i wr => ∃ k : Nat, k ≤ n ∧ i = .int .i64 k ∧ c = .int .u64 ((subVs (seg Lx ox k) (seg Ly oy k) 0).2 : Nat) ∧ Puts .u64 gz (spl Lz oz (subVs (seg Lx ox k) (seg Ly oy k) 0).1) w wr) (fun _ i _ => n - (intOf i).toNat)
  case atStart => exact ⟨0, Nat.zero_le _, rfl, by simp [seg_zero, subVs], by rw [seg_zero, seg_zero]; simp only [subVs]; rw [spl_nil]; exact Puts.refl H_bz.out⟩
  case round =>
    obtain ⟨k, hk, rfl, rfl, hp⟩ := hrel
    by_cases hlt : k < n
    · have hl : (subVs (seg Lx ox k) (seg Ly oy k) 0).1.length = k := by
        have := H_hx.out; have := H_hy.out
        rw [subVs_length _ _ _ (by rw [seg_length (by omega), seg_length (by omega)]), seg_length (by omega)]
      have hs := subVs_snoc (Lx.getD (ox + k) 0) (Ly.getD (oy + k) 0) (seg Lx ox k) (seg Ly oy k) 0 (by have := H_hx.out; have := H_hy.out; rw [seg_length (by omega), seg_length (by omega)])
      rw [← seg_succ (by have := H_hx.out; omega), ← seg_succ (by have := H_hy.out; omega)] at hs
      have h3 := subVs_carry (seg Lx ox k) (seg Ly oy k) 0 (by omega)
      generalize hr : subVs (seg Lx ox k) (seg Ly oy k) 0 = r at *
      obtain ⟨l, c⟩ := r
      simp only at h3 hl hp hs
      have H_hs := Lib.hid hs; clear hs
      have H_hr := Lib.hid hr; clear hr
      have H_hp := Lib.hid hp; clear hp
      have H_hl := Lib.hid hl; clear hl
      have hcx : wr.cell? ⟨gx, ox + k, none⟩ = some (wd .u64 (Lx.getD (ox + k) 0)) := by
        have := H_hx.out; have := H_hz.out; have := H_hl.out
        by_cases e : gx = gz
        · obtain rfl : Lx = Lz := Blk.uniq (by rw [e] at H_bx; exact H_bx.out) H_bz.out
          rw [e, H_hp.out.blk.cell (by rw [spl_length (by omega)]; omega), spl_getD (by omega), if_neg (by have := H_hax.out; omega)]
        · exact (H_hp.out.other e H_bx.out).cell (by omega)
      have hcy : wr.cell? ⟨gy, oy + k, none⟩ = some (wd .u64 (Ly.getD (oy + k) 0)) := by
        have := H_hy.out; have := H_hz.out; have := H_hl.out
        by_cases e : gy = gz
        · obtain rfl : Ly = Lz := Blk.uniq (by rw [e] at H_by_; exact H_by_.out) H_bz.out
          rw [e, H_hp.out.blk.cell (by rw [spl_length (by omega)]; omega), spl_getD (by omega), if_neg (by have := H_hay.out; omega)]
        · exact (H_hp.out.other e H_by_.out).cell (by omega)
      have hz1 := H_hp.out.blk.cell (o := oz + k) (by have := H_hz.out; have := H_hl.out; rw [spl_length (by omega)]; omega)
      have hz2 := H_hp.out.blk.frozen (oz + k)
      generalize Lx.getD (ox + k) 0 = x at *
      generalize Ly.getD (oy + k) 0 = y at *
      generalize (spl Lz oz l).getD (oz + k) 0 = z0 at *
      go_wp2_with (first | go_quiet ((go_at_call 205; exact quietSame (bits_Sub _ _ _ (by assumption) _))))
      go_roundw
      case rel =>
        refine ⟨k + 1, by omega, by go_num, by rw [H_hs.out], ?_⟩
        rw [H_hs.out]
        have := (H_hp.out.drewN nq).set (oz + k) (subS x y c)
        rw [spl_set (by rw [H_hl.out]) (by have := H_hz.out; omega)] at this
        exact this
      case measure => simp [intOf]; omega
    · have HE := Lib.hid (show k = n by omega)
      have H_hp := Lib.hid hp; clear hp
      go_wp2
      go_ret
      have ep := H_hp.out
      rw [HE.out] at ep ⊢
      exact ⟨rfl, ep⟩

theorem subVV (gz oz cz gx ox cx gy oy cy n : Nat) (Lz Lx Ly : List Nat) (w : World) (hlen : n ≤ 1000000)
    (bz : Blk .u64 w gz Lz) (bx : Blk .u64 w gx Lx) (by_ : Blk .u64 w gy Ly) (hz : oz + n ≤ Lz.length) (hx : ox + n ≤ Lx.length) (hy : oy + n ≤ Ly.length)
    (hax : gx ≠ gz ∨ oz ≤ ox) (hay : gy ≠ gz ∨ oz ≤ oy) :
    Calls Tryz.prog 182 #[.slice (some ⟨gz, oz, none⟩) n cz, .slice (some ⟨gx, ox, none⟩) n cx, .slice (some ⟨gy, oy, none⟩) n cy] w
      fun e w' => e = .returned (.int .u64 ((subVs (seg Lx ox n) (seg Ly oy n) 0).2 : Nat)) ∧ Puts .u64 gz (spl Lz oz (subVs (seg Lx ox n) (seg Ly oy n) 0).1) w w' := by
  have H := Lib.hid (subVV_g gz oz cz gx ox cx gy oy cy n Lz Lx Ly w hlen bz bx by_ hz hx hy hax hay)
  clear bz bx by_ hz hx hy hax hay
  go_enter Tryz.func182, Tryz.ntmps182
  go_wp2_with (go_at_call 204; refine H.out.mono ?_; rintro e w' ⟨rfl, hp⟩)
  go_ret
  exact ⟨rfl, hp⟩

set_option maxHeartbeats 400000 in
theorem mulAddVWW_g (gz oz cz gx ox cx n y r : Nat) (Lz Lx : List Nat) (w : World) (hlen : n ≤ 1000000)
    (bz : Blk .u64 w gz Lz) (bx : Blk .u64 w gx Lx) (hz : oz + n ≤ Lz.length) (hx : ox + n ≤ Lx.length)
    (hbx : ∀ a ∈ Lx, a < 18446744073709551616) (hy : y < 18446744073709551616) (hr0 : r < 18446744073709551616) (hax : gx ≠ gz ∨ oz ≤ ox) :
    Calls Tryz.prog 253 #[.slice (some ⟨gz, oz, none⟩) n cz, .slice (some ⟨gx, ox, none⟩) n cx, .int .u64 y, .int .u64 r] w
      fun e w' => e = .returned (.int .u64 ((mulVs (seg Lx ox n) y r).2 : Nat)) ∧ Puts .u64 gz (spl Lz oz (mulVs (seg Lx ox n) y r).1) w w' := by
  have H_bz := Lib.hid bz; clear bz
  have H_bx := Lib.hid bx; clear bx
  have H_hz := Lib.hid hz; clear hz
  have H_hx := Lib.hid hx; clear hx
  have H_hbx := Lib.hid hbx; clear hbx
  have H_hr0 := Lib.hid hr0; clear hr0
  have H_hax := Lib.hid hax; clear hax
  go_enter Tryz.func253, Tryz.ntmps253
  go_wp2_with (fail)
  go_loopw [8, 19] (fun c i wr => ∃ k : Nat, k ≤ n ∧ i = .int .i64 k ∧ c = .int .u64 ((mulVs (seg Lx ox k) y r).2 : Nat) ∧ Puts .u64 gz (spl Lz oz (mulVs (seg Lx ox k) y r).1) w wr) (fun _ i _ => n - (intOf i).toNat)
  case atStart => exact ⟨0, Nat.zero_le _, rfl, by simp [seg_zero, mulVs], by rw [seg_zero]; simp only [mulVs]; rw [spl_nil]; exact Puts.refl H_bz.out⟩
  case round =>
    obtain ⟨k, hk, rfl, rfl, hp⟩ := hrel
    by_cases hlt : k < n
    · have hl : (mulVs (seg Lx ox k) y r).1.length = k := by
        have := H_hx.out
        rw [mulVs_length, seg_length (by omega)]
      have hs := mulVs_snoc (Lx.getD (ox + k) 0) y (seg Lx ox k) r
      rw [← seg_succ (by have := H_hx.out; omega)] at hs
      have h3 := mulVs_carry (seg Lx ox k) y r (fun a ha => H_hbx.out a (seg_mem ha)) hy H_hr0.out
      have h4 := getD_lt H_hbx.out pos64 (ox + k)
      generalize hr : mulVs (seg Lx ox k) y r = res at *
      obtain ⟨l, c⟩ := res
      simp only at h3 hl hp hs
      have H_hs := Lib.hid hs; clear hs
      have H_hr := Lib.hid hr; clear hr
      have H_hp := Lib.hid hp; clear hp
      have H_hl := Lib.hid hl; clear hl
      have hcx : wr.cell? ⟨gx, ox + k, none⟩ = some (wd .u64 (Lx.getD (ox + k) 0)) := by
        have := H_hx.out; have := H_hz.out; have := H_hl.out
        by_cases e : gx = gz
        · obtain rfl : Lx = Lz := Blk.uniq (by rw [e] at H_bx; exact H_bx.out) H_bz.out
          rw [e, H_hp.out.blk.cell (by rw [spl_length (by omega)]; omega), spl_getD (by omega), if_neg (by have := H_hax.out; omega)]
        · exact (H_hp.out.other e H_bx.out).cell (by omega)
      have hz1 := H_hp.out.blk.cell (o := oz + k) (by have := H_hz.out; have := H_hl.out; rw [spl_length (by omega)]; omega)
      have hz2 := H_hp.out.blk.frozen (oz + k)
      generalize Lx.getD (ox + k) 0 = x at *
      generalize (spl Lz oz l).getD (oz + k) 0 = z0 at *
      go_wp2_with (go_at_call 271; refine (mulAddWWW_g x y c h4 hy h3 _).mono ?_; rintro e w' ⟨rfl, rfl⟩)
      go_roundw
      case rel =>
        refine ⟨k + 1, by omega, by go_num, by rw [H_hs.out], ?_⟩
        rw [H_hs.out]
        have := (H_hp.out).set (oz + k) (maL x y c)
        rw [spl_set (by rw [H_hl.out]) (by have := H_hz.out; omega)] at this
        exact this
      case measure => simp [intOf]; omega
    · have HE := Lib.hid (show k = n by omega)
      have H_hp := Lib.hid hp; clear hp
      go_wp2
      go_ret
      have ep := H_hp.out
      rw [HE.out] at ep ⊢
      exact ⟨rfl, ep⟩

theorem mulAddVWW (gz oz cz gx ox cx n y r : Nat) (Lz Lx : List Nat) (w : World) (hlen : n ≤ 1000000)
    (bz : Blk .u64 w gz Lz) (bx : Blk .u64 w gx Lx) (hz : oz + n ≤ Lz.length) (hx : ox + n ≤ Lx.length)
    (hbx : ∀ a ∈ Lx, a < 18446744073709551616) (hy : y < 18446744073709551616) (hr0 : r < 18446744073709551616) (hax : gx ≠ gz ∨ oz ≤ ox) :
    Calls Tryz.prog 227 #[.slice (some ⟨gz, oz, none⟩) n cz, .slice (some ⟨gx, ox, none⟩) n cx, .int .u64 y, .int .u64 r] w
      fun e w' => e = .returned (.int .u64 ((mulVs (seg Lx ox n) y r).2 : Nat)) ∧ Puts .u64 gz (spl Lz oz (mulVs (seg Lx ox n) y r).1) w w' := by
  have H := Lib.hid (mulAddVWW_g gz oz cz gx ox cx n y r Lz Lx w hlen bz bx hz hx hbx hy hr0 hax)
  clear bz bx hz hx hbx hr0 hax hy
  go_enter Tryz.func227, Tryz.ntmps227
  go_wp2_with (go_at_call 253; refine H.out.mono ?_; rintro e w' ⟨rfl, hp⟩)
  go_ret
  exact ⟨rfl, hp⟩

set_option maxHeartbeats 400000 in
theorem addMulVVWW_g (gz oz cz gx ox cx gy oy cy n m r : Nat) (Lz Lx Ly : List Nat) (w : World) (hlen : n ≤ 1000000)
    (bz : Blk .u64 w gz Lz) (bx : Blk .u64 w gx Lx) (by_ : Blk .u64 w gy Ly) (hz : oz + n ≤ Lz.length) (hx : ox + n ≤ Lx.length) (hy : oy + n ≤ Ly.length)
    (hbx : ∀ a ∈ Lx, a < 18446744073709551616) (hby : ∀ a ∈ Ly, a < 18446744073709551616) (hm : m < 18446744073709551616) (hr0 : r < 18446744073709551616)
    (hax : gx ≠ gz ∨ oz ≤ ox) (hay : gy ≠ gz ∨ oz ≤ oy) :
    Calls Tryz.prog 261 #[.slice (some ⟨gz, oz, none⟩) n cz, .slice (some ⟨gx, ox, none⟩) n cx, .slice (some ⟨gy, oy, none⟩) n cy, .int .u64 m, .int .u64 r] w
      fun e w' => e = .returned (.int .u64 ((amVs (seg Lx ox n) (seg Ly oy n) m r).2 : Nat)) ∧ Puts .u64 gz (spl Lz oz (amVs (seg Lx ox n) (seg Ly oy n) m r).1) w w' := by
  have H_bz := Lib.hid bz; clear bz
  have H_bx := Lib.hid bx; clear bx
  have H_by_ := Lib.hid by_; clear by_
  have H_hz := Lib.hid hz; clear hz
  have H_hx := Lib.hid hx; clear hx
  have H_hy := Lib.hid hy; clear hy
  have H_hbx := Lib.hid hbx; clear hbx
  have H_hby := Lib.hid hby; clear hby
  have H_hr0 := Lib.hid hr0; clear hr0
  have H_hax := Lib.hid hax; clear hax
  have H_hay := Lib.hid hay; clear hay
  go_enter Tryz.func261, Tryz.ntmps261
  go_wp2_with (fail)
  go_loopw [10, 32] (fun c i wr => ∃ k : Nat, k ≤ n ∧ i = .int .i64 k ∧ c = .int .u64 ((amVs (seg Lx ox k) (seg Ly oy k) m r).2 : Nat) ∧ Puts .u64 gz (spl Lz oz (amVs (seg Lx ox k) (seg Ly oy k) m r).1) w wr) (fun _ i _ => n - (intOf i).toNat)
  case atStart => exact ⟨0, Nat.zero_le _, rfl, by simp [seg_zero, amVs], by rw [seg_zero, seg_zero]; simp only [amVs]; rw [spl_nil]; exact Puts.refl H_bz.out⟩
  case round =>
    obtain ⟨k, hk, rfl, rfl, hp⟩ := hrel
    by_cases hlt : k < n
    · have hl : (amVs (seg Lx ox k) (seg Ly oy k) m r).1.length = k := by
        have := H_hx.out; have := H_hy.out
        rw [amVs_length _ _ _ _ (by rw [seg_length (by omega), seg_length (by omega)]), seg_length (by omega)]
      have hs := amVs_snoc (Lx.getD (ox + k) 0) (Ly.getD (oy + k) 0) m (seg Lx ox k) (seg Ly oy k) r (by have := H_hx.out; have := H_hy.out; rw [seg_length (by omega), seg_length (by omega)])
      rw [← seg_succ (by have := H_hx.out; omega), ← seg_succ (by have := H_hy.out; omega)] at hs
      have h3 := amVs_carry (seg Lx ox k) (seg Ly oy k) m r (fun a ha => H_hbx.out a (seg_mem ha)) (fun a ha => H_hby.out a (seg_mem ha)) hm H_hr0.out
      have h4 := getD_lt H_hbx.out pos64 (ox + k)
      have h5 := getD_lt H_hby.out pos64 (oy + k)
      generalize hr : amVs (seg Lx ox k) (seg Ly oy k) m r = res at *
      obtain ⟨l, c⟩ := res
      simp only at h3 hl hp hs
      have H_hs := Lib.hid hs; clear hs
      have H_hr := Lib.hid hr; clear hr
      have H_hp := Lib.hid hp; clear hp
      have H_hl := Lib.hid hl; clear hl
      have hcx : wr.cell? ⟨gx, ox + k, none⟩ = some (wd .u64 (Lx.getD (ox + k) 0)) := by
        have := H_hx.out; have := H_hz.out; have := H_hl.out
        by_cases e : gx = gz
        · obtain rfl : Lx = Lz := Blk.uniq (by rw [e] at H_bx; exact H_bx.out) H_bz.out
          rw [e, H_hp.out.blk.cell (by rw [spl_length (by omega)]; omega), spl_getD (by omega), if_neg (by have := H_hax.out; omega)]
        · exact (H_hp.out.other e H_bx.out).cell (by omega)
      have hcy : wr.cell? ⟨gy, oy + k, none⟩ = some (wd .u64 (Ly.getD (oy + k) 0)) := by
        have := H_hy.out; have := H_hz.out; have := H_hl.out
        by_cases e : gy = gz
        · obtain rfl : Ly = Lz := Blk.uniq (by rw [e] at H_by_; exact H_by_.out) H_bz.out
          rw [e, H_hp.out.blk.cell (by rw [spl_length (by omega)]; omega), spl_getD (by omega), if_neg (by have := H_hay.out; omega)]
        · exact (H_hp.out.other e H_by_.out).cell (by omega)
      have hz1 := H_hp.out.blk.cell (o := oz + k) (by have := H_hz.out; have := H_hl.out; rw [spl_length (by omega)]; omega)
      have hz2 := H_hp.out.blk.frozen (oz + k)
      generalize Lx.getD (ox + k) 0 = x at *
      generalize Ly.getD (oy + k) 0 = y at *
      generalize (spl Lz oz l).getD (oz + k) 0 = z0 at *
      have hw := wrap_add (a := addC (maL y m x) c 0) (b := maH y m x) (by have := am_lt h4 h5 hm h3; omega)
      have H_hw := Lib.hid hw; clear hw
      go_wp2_with (first
        | go_quiet ((go_at_call 271; exact quietSame (mulAddWWW_g y m x h5 hm h4 _)))
        | (go_at_call 203; refine (bits_Add _ c 0 (by omega) _).mono ?_; rintro e w' ⟨rfl, rfl⟩))
      go_roundw
      case rel =>
        refine ⟨k + 1, by omega, by go_num, by rw [H_hs.out, H_hw.out, Nat.add_comm], ?_⟩
        rw [H_hs.out]
        have := (H_hp.out.drewN nq).set (oz + k) (addS (maL y m x) c 0)
        rw [spl_set (by rw [H_hl.out]) (by have := H_hz.out; omega)] at this
        exact this
      case measure => simp [intOf]; omega
    · have HE := Lib.hid (show k = n by omega)
      have H_hp := Lib.hid hp; clear hp
      go_wp2
      go_ret
      have ep := H_hp.out
      rw [HE.out] at ep ⊢
      exact ⟨rfl, ep⟩

theorem addMulVVWW (gz oz cz gx ox cx gy oy cy n m r : Nat) (Lz Lx Ly : List Nat) (w : World) (hlen : n ≤ 1000000)
    (bz : Blk .u64 w gz Lz) (bx : Blk .u64 w gx Lx) (by_ : Blk .u64 w gy Ly) (hz : oz + n ≤ Lz.length) (hx : ox + n ≤ Lx.length) (hy : oy + n ≤ Ly.length)
    (hbx : ∀ a ∈ Lx, a < 18446744073709551616) (hby : ∀ a ∈ Ly, a < 18446744073709551616) (hm : m < 18446744073709551616) (hr0 : r < 18446744073709551616)
    (hax : gx ≠ gz ∨ oz ≤ ox) (hay : gy ≠ gz ∨ oz ≤ oy) :
    Calls Tryz.prog 240 #[.slice (some ⟨gz, oz, none⟩) n cz, .slice (some ⟨gx, ox, none⟩) n cx, .slice (some ⟨gy, oy, none⟩) n cy, .int .u64 m, .int .u64 r] w
      fun e w' => e = .returned (.int .u64 ((amVs (seg Lx ox n) (seg Ly oy n) m r).2 : Nat)) ∧ Puts .u64 gz (spl Lz oz (amVs (seg Lx ox n) (seg Ly oy n) m r).1) w w' := by
  have H := Lib.hid (addMulVVWW_g gz oz cz gx ox cx gy oy cy n m r Lz Lx Ly w hlen bz bx by_ hz hx hy hbx hby hm hr0 hax hay)
  clear bz bx by_ hz hx hy hbx hby hr0 hax hay hm
  go_enter Tryz.func240, Tryz.ntmps240
  go_wp2_with (go_at_call 261; refine H.out.mono ?_; rintro e w' ⟨rfl, hp⟩)
  go_ret
  exact ⟨rfl, hp⟩

end Go.Proofs.YtmgidnjpkbgmgabGreatDoor

/- The contracts of math/big's functions on vectors of words and one word: addVW, subVW. -/
namespace Go.Proofs.YtmgidnjpkbgmgabGreatDoor
open Go.RowKit

/-- the words of a sum with one word, and what is carried on -/
def addWs : List Nat → Nat → List Nat × Nat
  | x :: xs, c => let r := addWs xs (addC x c 0); (addS x c 0 :: r.1, r.2)
  | [], c => ([], c)

theorem addWs_append (ys : List Nat) : ∀ (xs : List Nat) (c : Nat), addWs (xs ++ ys) c = ((addWs xs c).1 ++ (addWs ys (addWs xs c).2).1, (addWs ys (addWs xs c).2).2)
  | [], c => rfl
  | a :: xs, c => by
    have ih := addWs_append ys xs (addC a c 0)
    simp only [List.cons_append, addWs, ih]

theorem addWs_length : ∀ (xs : List Nat) (c : Nat), (addWs xs c).1.length = xs.length
  | [], c => rfl
  | a :: xs, c => by simp only [addWs, List.length_cons]; rw [addWs_length xs]

theorem addWs_zero : ∀ (xs : List Nat), (∀ a ∈ xs, a < 18446744073709551616) → addWs xs 0 = (xs, 0)
  | [], _ => rfl
  | a :: xs, h => by
    have h1 := h a (by simp)
    simp only [addWs]
    rw [show addC a 0 0 = 0 by unfold addC; omega, show addS a 0 0 = a by unfold addS; omega, addWs_zero xs (fun b hb => h b (by simp [hb]))]

theorem addWs_lt : ∀ (xs : List Nat) (c : Nat), ∀ a ∈ (addWs xs c).1, a < 18446744073709551616
  | [], c => by simp [addWs]
  | a :: xs, c => by
    intro z hz
    simp only [addWs, List.mem_cons] at hz
    rcases hz with rfl | hz
    · exact addS_lt _ _ _
    · exact addWs_lt xs _ z hz

/-- the words of a difference with one word, and what is borrowed -/
def subWs : List Nat → Nat → List Nat × Nat
  | x :: xs, c => let r := subWs xs (subC x c 0); (subS x c 0 :: r.1, r.2)
  | [], c => ([], c)

theorem subWs_append (ys : List Nat) : ∀ (xs : List Nat) (c : Nat), subWs (xs ++ ys) c = ((subWs xs c).1 ++ (subWs ys (subWs xs c).2).1, (subWs ys (subWs xs c).2).2)
  | [], c => rfl
  | a :: xs, c => by
    have ih := subWs_append ys xs (subC a c 0)
    simp only [List.cons_append, subWs, ih]

theorem subWs_length : ∀ (xs : List Nat) (c : Nat), (subWs xs c).1.length = xs.length
  | [], c => rfl
  | a :: xs, c => by simp only [subWs, List.length_cons]; rw [subWs_length xs]

theorem subWs_zero : ∀ (xs : List Nat), (∀ a ∈ xs, a < 18446744073709551616) → subWs xs 0 = (xs, 0)
  | [], _ => rfl
  | a :: xs, h => by
    have h1 := h a (by simp)
    simp only [subWs]
    rw [show subC a 0 0 = 0 by unfold subC; rw [if_neg (by omega)], show subS a 0 0 = a by unfold subS; omega, subWs_zero xs (fun b hb => h b (by simp [hb]))]

theorem subWs_lt : ∀ (xs : List Nat) (c : Nat), ∀ a ∈ (subWs xs c).1, a < 18446744073709551616
  | [], c => by simp [subWs]
  | a :: xs, c => by
    intro z hz
    simp only [subWs, List.mem_cons] at hz
    rcases hz with rfl | hz
    · exact subS_lt _ _ _
    · exact subWs_lt xs _ z hz

theorem seg_split {L : List Nat} {off n m : Nat} (h : m ≤ n) (_hn : off + n ≤ L.length) : seg L off n = seg L off m ++ seg L (off + m) (n - m) := by
  simp only [seg]
  rw [show List.drop (off + m) L = (L.drop off).drop m by rw [List.drop_drop]]
  conv => lhs; rw [show n = m + (n - m) by omega, List.take_add]

theorem spl_spl {L : List Nat} {off : Nat} {l m : List Nat} {o : Nat} (ho : o = off + l.length) (h : o + m.length ≤ L.length) : spl (spl L off l) o m = spl L off (l ++ m) := by
  subst ho
  apply ext_getD
  · rw [spl_length (by rw [spl_length (by omega)]; omega), spl_length (by omega), spl_length (by simp; omega)]
  · intro i _
    rw [spl_getD (by rw [spl_length (by omega)]; omega), spl_getD (by omega), spl_getD (by simp; omega), getD_append]
    simp only [List.length_append]
    by_cases a : off + l.length ≤ i ∧ i < off + l.length + m.length
    · rw [if_pos a, if_pos (by omega), if_neg (by omega), show i - (off + l.length) = i - off - l.length by omega]
    · rw [if_neg a]
      by_cases b : off ≤ i ∧ i < off + l.length
      · rw [if_pos b, if_pos (by omega), if_pos (by omega)]
      · rw [if_neg b, if_neg (by omega)]

theorem addWs_stop {L : List Nat} {off n k y : Nat} (hL : ∀ a ∈ L, a < 18446744073709551616) (hk : k ≤ n) (hn : off + n ≤ L.length) (h : (addWs (seg L off k) y).2 = 0) :
    addWs (seg L off n) y = ((addWs (seg L off k) y).1 ++ seg L (off + k) (n - k), 0) := by
  rw [seg_split hk hn, addWs_append, h, addWs_zero _ (fun a ha => hL a (seg_mem ha))]

theorem subWs_stop {L : List Nat} {off n k y : Nat} (hL : ∀ a ∈ L, a < 18446744073709551616) (hk : k ≤ n) (hn : off + n ≤ L.length) (h : (subWs (seg L off k) y).2 = 0) :
    subWs (seg L off n) y = ((subWs (seg L off k) y).1 ++ seg L (off + k) (n - k), 0) := by
  rw [seg_split hk hn, subWs_append, h, subWs_zero _ (fun a ha => hL a (seg_mem ha))]

theorem addWs_succ {L : List Nat} {off k y : Nat} (h : off + k < L.length) : addWs (seg L off (k + 1)) y = ((addWs (seg L off k) y).1 ++ [addS (L.getD (off + k) 0) (addWs (seg L off k) y).2 0], addC (L.getD (off + k) 0) (addWs (seg L off k) y).2 0) := by
  rw [seg_succ h, addWs_append]; rfl

theorem subWs_succ {L : List Nat} {off k y : Nat} (h : off + k < L.length) : subWs (seg L off (k + 1)) y = ((subWs (seg L off k) y).1 ++ [subS (L.getD (off + k) 0) (subWs (seg L off k) y).2 0], subC (L.getD (off + k) 0) (subWs (seg L off k) y).2 0) := by
  rw [seg_succ h, subWs_append]; rfl

theorem addC_le' {x y : Nat} (hx : x < 18446744073709551616) (hy : y < 18446744073709551616) : addC x y 0 ≤ 1 := by unfold addC; omega

theorem add1_max : addS 18446744073709551615 1 0 = 0 ∧ addC 18446744073709551615 1 0 = 1 := by unfold addS addC; omega
theorem add1_not {x : Nat} (hx : x < 18446744073709551616) (h : x ≠ 18446744073709551615) : addS x 1 0 = x + 1 ∧ addC x 1 0 = 0 := by unfold addS addC; omega
theorem sub1_zero : subS 0 1 0 = 18446744073709551615 ∧ subC 0 1 0 = 1 := by unfold subS subC; exact ⟨by omega, by rw [if_pos (by omega)]⟩
theorem sub1_not {x : Nat} (hx : x < 18446744073709551616) (h : x ≠ 0) : subS x 1 0 = x - 1 ∧ subC x 1 0 = 0 := by
  unfold subS subC; exact ⟨by omega, by rw [if_neg (by omega)]⟩

theorem spl_more {L : List Nat} {off n : Nat} {l : List Nat} {o : Nat} (h : off + l.length + n ≤ L.length) (ho : o = off + l.length) : spl L off (l ++ seg L o n) = spl L off l := by
  subst ho
  have hl : (seg L (off + l.length) n).length = n := seg_length h
  apply ext_getD
  · rw [spl_length (by simp [hl]; omega), spl_length (by omega)]
  · intro i _
    rw [spl_getD (by simp [hl]; omega), spl_getD (by omega), getD_append]
    simp only [List.length_append, hl]
    by_cases b : off ≤ i ∧ i < off + l.length
    · rw [if_pos (by omega), if_pos (by omega), if_pos b]
    · rw [if_neg b]
      by_cases a : off ≤ i ∧ i < off + (l.length + n)
      · rw [if_pos a, if_neg (by omega), seg_getD (by omega)]; congr 1; omega
      · rw [if_neg a]

set_option maxRecDepth 100000 in
set_option maxHeartbeats 1000000 in
theorem addVW_apart (gz oz cz gx ox cx n y : Nat) (Lz Lx : List Nat) (w : World) (hn : 0 < n) (hlen : n ≤ 1000000)
    (bz : Blk .u64 w gz Lz) (bx : Blk .u64 w gx Lx) (hz : oz + n ≤ Lz.length) (hx : ox + n ≤ Lx.length)
    (hbx : ∀ a ∈ Lx, a < 18446744073709551616) (hy : y < 18446744073709551616) (hax : gx ≠ gz) (hcz : n ≤ cz) (hcx : n ≤ cx) :
    Calls Tryz.prog 180 #[.slice (some ⟨gz, oz, none⟩) n cz, .slice (some ⟨gx, ox, none⟩) n cx, .int .u64 y] w
      fun e w' => e = .returned (.int .u64 ((addWs (seg Lx ox n) y).2 : Nat)) ∧ Puts .u64 gz (spl Lz oz (addWs (seg Lx ox n) y).1) w w' := by
  have hz1 := bz.cell (o := oz) (by omega)
  have hz2 := bz.frozen oz
  have hx1 := bx.cell (o := ox) (by omega)
  have hgz : gz ≠ gx := Ne.symm hax
  have h1s := addWs_succ (L := Lx) (off := ox) (k := 0) (y := y) (by omega)
  have hx0b := getD_lt hbx pos64 ox
  simp only [seg_zero, addWs, List.nil_append, Nat.add_zero, Nat.zero_add] at h1s
  have hset : ∀ v, Lz.set oz v = spl Lz oz [v] := fun v => by
    have := spl_set (L := Lz) (off := oz) (l := []) (o := oz) (n := v) (by simp) (by omega)
    rw [spl_nil] at this; exact this
  generalize hg : Lx.getD ox 0 = x0 at *
  generalize Lz.getD oz 0 = z0 at *
  have pW := (Puts.refl bz).set oz (addS x0 y 0)
  rw [hset] at pW
  clear hset
  have bxW : Blk .u64 (w.setCell ⟨gz, oz, none⟩ (wd .u64 (addS x0 y 0))) gx Lx := bx.of_block (by rw [Go.RowKit.Below.heap_setCell _ _ _ _ hax])
  have H_bz := Lib.hid bz; clear bz
  have H_bx := Lib.hid bx; clear bx
  have H_hz := Lib.hid hz; clear hz
  have H_hx := Lib.hid hx; clear hx
  have H_hbx := Lib.hid hbx; clear hbx
  have H_h1s := Lib.hid h1s; clear h1s
  have H_hg := Lib.hid hg; clear hg
  have H_pW := Lib.hid pW; clear pW
  have H_bxW := Lib.hid bxW; clear bxW
  have H_hx0b := Lib.hid hx0b; clear hx0b
  go_enter Tryz.func180, Tryz.ntmps180
  by_cases hc : addC x0 y 0 = 0
  · have hcb : ((addC x0 y 0 : Nat) : Int) == 0 := by rw [hc]; rfl
    have H_hc := Lib.hid hc; clear hc
    go_wp2_with (go_at_call 203; refine (bits_Add _ y 0 (by omega) _).mono ?_; rintro e w' ⟨rfl, rfl⟩)
    generalize w.setCell ⟨gz, oz, none⟩ (.int .u64 ((addS x0 y 0 : Nat) : Int)) = W at *
    have hne : ∀ nq, (binOp .neq 192 (.pointer (some ⟨gz, oz, none⟩)) (.pointer (some ⟨gx, ox, none⟩))).run Tryz.prog (W.drewN nq) = .ok (.bool true) (W.drewN nq) :=
      fun nq => Blk.neq (H_pW.out.blk.drewN nq) (H_bxW.out.drewN nq) hgz Tryz.underlying192 (by kernel_rfl)
    go_quiet (fail)
    clear hne
    go_wp2_with (fail)
    have h1n : (1 : Int) ≤ (n : Int) := by omega
    go_still_tail 4, (by kernel_rfl)
    clear h1n
    have hzl := H_hz.out
    have hxl := H_hx.out
    refine wpList_copy_puts rfl (.tmp 40) (.tmp 42) 133 133 rfl 164 Tryz.underlying133 (by kernel_rfl) _ _ _ _ _ _ (by rfl) (by rfl) gz (oz + 1) _ (H_pW.out.blk.drewN nq).drew gx (ox + 1) _ (H_bxW.out.drewN nq).drew (n - 1) ?_ ?_ ?_ ?_ ?_
    · simp
    · intro hp
      rw [if_neg (by omega), if_neg (by omega)]; simp
    · rw [spl_length (by simp; omega)]; omega
    · omega
    · intro w' hput
      have hput := (H_pW.out.trans hput.of_drew.of_drewN)
      rw [spl_spl (by simp) (by rw [seg_length (by omega)]; omega)] at hput
      clear hzl hxl
      have H_hput := Lib.hid hput; clear hput
      have hst := addWs_stop (L := Lx) (off := ox) (n := n) (k := 1) (y := y) H_hbx.out (by omega) H_hx.out (by rw [H_h1s.out]; exact H_hc.out)
      rw [H_h1s.out] at hst
      have H_hst := Lib.hid hst; clear hst
      go_wp2
      all_goals (go_ret; rw [H_hst.out]; exact ⟨rfl, H_hput.out⟩)
  · have hcb : (((addC x0 y 0 : Nat) : Int) == 0) = false := by rw [beq_eq_false_iff_ne]; omega
    have hc1 : addC x0 y 0 = 1 := by
      have : addC x0 y 0 ≤ 1 := addC_le' H_hx0b.out hy
      omega
    have H_hc := Lib.hid hc; clear hc
    have H_hc1 := Lib.hid hc1; clear hc1
    go_wp2_with (go_at_call 203; refine (bits_Add _ y 0 (by omega) _).mono ?_; rintro e w' ⟨rfl, rfl⟩)
    generalize w.setCell ⟨gz, oz, none⟩ (.int .u64 ((addS x0 y 0 : Nat) : Int)) = W at *
    generalize ((addC x0 y 0 : Nat) : Int) = CC at *
    generalize ((addS x0 y 0 : Nat) : Int) = SS at *
    go_loopw [9] (fun i wr => ∃ k : Nat, 1 ≤ k ∧ k ≤ n ∧ i = .int .i64 k ∧ Hid ((addWs (seg Lx ox k) y).2 = 1) ∧ Puts .u64 gz (spl Lz oz (addWs (seg Lx ox k) y).1) w wr) (fun i _ => n - (intOf i).toNat)
    case atStart => exact ⟨1, Nat.le_refl _, hn, rfl, by rw [H_h1s.out]; exact H_hc1.out, by rw [H_h1s.out]; exact H_pW.out⟩
    case round =>
      obtain ⟨k, hk1, hk, rfl, hcar, hp⟩ := hrel
      by_cases hlt : k < n
      · have hl : (addWs (seg Lx ox k) y).1.length = k := by
          have := H_hx.out
          rw [addWs_length, seg_length (by omega)]
        have hsu := addWs_succ (L := Lx) (off := ox) (k := k) (y := y) (by have := H_hx.out; omega)
        rw [hcar.out] at hsu
        have hxb := getD_lt H_hbx.out pos64 (ox + k)
        have H_hl := Lib.hid hl; clear hl
        have H_hsu := Lib.hid hsu; clear hsu
        have H_hp := Lib.hid hp; clear hp
        have hcx' : wr.cell? ⟨gx, ox + k, none⟩ = some (wd .u64 (Lx.getD (ox + k) 0)) := (H_hp.out.other hax H_bx.out).cell (by have := H_hx.out; omega)
        have bxr := Lib.hid (H_hp.out.other hax H_bx.out)
        have hz1' := H_hp.out.blk.cell (o := oz + k) (by have := H_hz.out; have := H_hl.out; rw [spl_length (by omega)]; omega)
        have hz2' := H_hp.out.blk.frozen (oz + k)
        generalize (spl Lz oz (addWs (seg Lx ox k) y).1).getD (oz + k) 0 = zk at *
        generalize hxk : Lx.getD (ox + k) 0 = x at *
        have H_hxk := Lib.hid hxk; clear hxk
        by_cases hm : x = 18446744073709551615
        · have ht1 : ((x : Int) != 18446744073709551615) = false := by subst hm; rfl
          have ht2 : ((x : Int) == 18446744073709551615) = true := by subst hm; rfl
          have H_hm := Lib.hid hm; clear hm
          go_wp2
          go_roundw
          case rel =>
            have hs2 := H_hsu.out
            rw [H_hm.out, add1_max.1, add1_max.2] at hs2
            refine ⟨k + 1, by omega, by omega, by go_num, by rw [hs2]; exact rfl, ?_⟩
            rw [hs2]
            have := (H_hp.out).set (oz + k) 0
            rw [spl_set (by rw [H_hl.out]) (by have := H_hz.out; omega)] at this
            exact this
          case measure => simp [intOf]; omega
        · have ht1 : ((x : Int) != 18446744073709551615) = true := by rw [bne_iff_ne]; omega
          have ht2 : ((x : Int) == 18446744073709551615) = false := by rw [beq_eq_false_iff_ne]; omega
          have hwr : IntKind.u64.wrap ((x : Int) + 1) = ((x + 1 : Nat) : Int) := by rw [IntKind.wrap_u64]; omega
          have H_hm := Lib.hid hm; clear hm
          go_wp2_with (fail)
          have pV : Puts .u64 gz _ w (wr.setCell ⟨gz, oz + k, none⟩ (.int .u64 ((x : Int) + 1))) := (H_hp.out).set (oz + k) (x + 1)
          rw [spl_set (by rw [H_hl.out]) (by have := H_hz.out; omega)] at pV
          have H_pV := Lib.hid pV; clear pV
          have bxV : Blk .u64 (wr.setCell ⟨gz, oz + k, none⟩ (.int .u64 ((x : Int) + 1))) gx Lx := bxr.out.of_block (by rw [Go.RowKit.Below.heap_setCell _ _ _ _ hax])
          have H_bxV := Lib.hid bxV; clear bxV
          generalize wr.setCell ⟨gz, oz + k, none⟩ (.int .u64 ((x : Int) + 1)) = V at *
          have hne : ∀ nq, (binOp .neq 192 (.pointer (some ⟨gz, oz, none⟩)) (.pointer (some ⟨gx, ox, none⟩))).run Tryz.prog (V.drewN nq) = .ok (.bool true) (V.drewN nq) :=
            fun nq => Blk.neq (H_pV.out.blk.drewN nq) (H_bxV.out.drewN nq) hgz Tryz.underlying192 (by kernel_rfl)
          go_quiet (fail)
          clear hne
          have h1k : (0 : Int) ≤ (k : Int) + 1 := by omega
          have h1n : (k : Int) + 1 ≤ (n : Int) := by omega
          have hkw : IntKind.i64.wrap ((k : Int) + 1) = (k : Int) + 1 := by rw [IntKind.wrap_i64]; omega
          have hkt : ((k : Int) + 1).toNat = k + 1 := by omega
          go_wp2_with (fail)
          go_still_tail 8, (by kernel_rfl)
          clear h1n h1k hkw hkt
          have hzl := H_hz.out
          have hxl := H_hx.out
          refine wpList_copy_puts rfl (.tmp 69) (.tmp 73) 133 133 rfl 164 Tryz.underlying133 (by kernel_rfl) _ _ _ _ _ _ (by rfl) (by rfl) gz (oz + (k + 1)) _ (H_pV.out.blk.drewN nq).drew gx (ox + (k + 1)) _ (H_bxV.out.drewN nq).drew (n - (k + 1)) ?_ ?_ ?_ ?_ ?_
          · simp
          · intro hp
            rw [if_neg (by omega), if_neg (by omega)]; simp
          · rw [spl_length (by simp; rw [H_hl.out]; omega)]; omega
          · omega
          · intro w' hput
            have hput := (H_pV.out.trans hput.of_drew.of_drewN)
            rw [spl_spl (by simp; rw [H_hl.out]) (by rw [seg_length (by omega)]; omega)] at hput
            clear hzl hxl
            have H_hput := Lib.hid hput; clear hput
            have hs2 := H_hsu.out
            rw [(add1_not hxb H_hm.out).1, (add1_not hxb H_hm.out).2] at hs2
            have hst := addWs_stop (L := Lx) (off := ox) (n := n) (k := k + 1) (y := y) H_hbx.out (by omega) H_hx.out (by rw [hs2])
            rw [hs2] at hst
            have H_hst := Lib.hid hst; clear hst
            go_wp2
            all_goals (go_ret; rw [H_hst.out]; exact ⟨rfl, H_hput.out⟩)
      · have HE := Lib.hid (show k = n by omega)
        have H_hp := Lib.hid hp; clear hp
        go_wp2
        go_ret
        have ep := H_hp.out
        have ec := hcar.out
        rw [HE.out] at ep ec
        rw [ec]
        exact ⟨rfl, ep⟩

set_option maxRecDepth 100000 in
set_option maxHeartbeats 1000000 in
theorem addVW_same (gz oz cz cx n y : Nat) (Lz : List Nat) (w : World) (hn : 0 < n) (hlen : n ≤ 1000000)
    (bz : Blk .u64 w gz Lz) (hz : oz + n ≤ Lz.length)
    (hbx : ∀ a ∈ Lz, a < 18446744073709551616) (hy : y < 18446744073709551616) (_hcz : n ≤ cz) (_hcx : n ≤ cx) :
    Calls Tryz.prog 180 #[.slice (some ⟨gz, oz, none⟩) n cz, .slice (some ⟨gz, oz, none⟩) n cx, .int .u64 y] w
      fun e w' => e = .returned (.int .u64 ((addWs (seg Lz oz n) y).2 : Nat)) ∧ Puts .u64 gz (spl Lz oz (addWs (seg Lz oz n) y).1) w w' := by
  have hx1 := bz.cell (o := oz) (by omega)
  have hz2 := bz.frozen oz
  obtain ⟨jt, hjt⟩ : ∃ j, Tryz.prog.info? 164 = some j := by
    have h : (Tryz.prog.info? 164).isSome = true := by kernel_rfl
    exact Option.isSome_iff_exists.1 h
  have h1s := addWs_succ (L := Lz) (off := oz) (k := 0) (y := y) (by omega)
  have hx0b := getD_lt hbx pos64 oz
  simp only [seg_zero, addWs, List.nil_append, Nat.add_zero, Nat.zero_add] at h1s
  have hset : ∀ v, Lz.set oz v = spl Lz oz [v] := fun v => by
    have := spl_set (L := Lz) (off := oz) (l := []) (o := oz) (n := v) (by simp) (by omega)
    rw [spl_nil] at this; exact this
  generalize hg : Lz.getD oz 0 = x0 at *
  have pW := (Puts.refl bz).set oz (addS x0 y 0)
  rw [hset] at pW
  clear hset
  have H_bz := Lib.hid bz; clear bz
  have H_hz := Lib.hid hz; clear hz
  have H_hbx := Lib.hid hbx; clear hbx
  have H_h1s := Lib.hid h1s; clear h1s
  have H_hg := Lib.hid hg; clear hg
  have H_pW := Lib.hid pW; clear pW
  have H_hx0b := Lib.hid hx0b; clear hx0b
  go_enter Tryz.func180, Tryz.ntmps180
  by_cases hc : addC x0 y 0 = 0
  · have hcb : ((addC x0 y 0 : Nat) : Int) == 0 := by rw [hc]; rfl
    have H_hc := Lib.hid hc; clear hc
    go_wp2_with (go_at_call 203; refine (bits_Add _ y 0 (by omega) _).mono ?_; rintro e w' ⟨rfl, rfl⟩)
    generalize w.setCell ⟨gz, oz, none⟩ (.int .u64 ((addS x0 y 0 : Nat) : Int)) = W at *
    have hne : ∀ nq, (binOp .neq 192 (.pointer (some ⟨gz, oz, none⟩)) (.pointer (some ⟨gz, oz, none⟩))).run Tryz.prog (W.drewN nq) = .ok (.bool false) (W.drewN nq) :=
      fun nq => Go.Lib.run_neq_ptr_same _ _ Tryz.underlying192 hjt
    go_quiet (fail)
    clear hne
    go_wp2
    go_ret
    have hst := addWs_stop (L := Lz) (off := oz) (n := n) (k := 1) (y := y) H_hbx.out (by omega) H_hz.out (by rw [H_h1s.out]; exact H_hc.out)
    rw [H_h1s.out] at hst
    rw [hst]
    refine ⟨rfl, ?_⟩
    have := H_pW.out.drewN nq
    rw [show spl Lz oz ([addS x0 y 0] ++ seg Lz (oz + 1) (n - 1)) = spl Lz oz [addS x0 y 0] from ?_]
    · exact this
    · exact spl_more (by have := H_hz.out; simp; omega) (by simp)
  · have hcb : (((addC x0 y 0 : Nat) : Int) == 0) = false := by rw [beq_eq_false_iff_ne]; omega
    have hc1 : addC x0 y 0 = 1 := by
      have : addC x0 y 0 ≤ 1 := addC_le' H_hx0b.out hy
      omega
    have H_hc := Lib.hid hc; clear hc
    have H_hc1 := Lib.hid hc1; clear hc1
    go_wp2_with (go_at_call 203; refine (bits_Add _ y 0 (by omega) _).mono ?_; rintro e w' ⟨rfl, rfl⟩)
    generalize w.setCell ⟨gz, oz, none⟩ (.int .u64 ((addS x0 y 0 : Nat) : Int)) = W at *
    generalize ((addC x0 y 0 : Nat) : Int) = CC at *
    generalize ((addS x0 y 0 : Nat) : Int) = SS at *
    go_loopw [9] (fun i wr => ∃ k : Nat, 1 ≤ k ∧ k ≤ n ∧ i = .int .i64 k ∧ Hid ((addWs (seg Lz oz k) y).2 = 1) ∧ Puts .u64 gz (spl Lz oz (addWs (seg Lz oz k) y).1) w wr) (fun i _ => n - (intOf i).toNat)
    case atStart => exact ⟨1, Nat.le_refl _, hn, rfl, by rw [H_h1s.out]; exact H_hc1.out, by rw [H_h1s.out]; exact H_pW.out⟩
    case round =>
      obtain ⟨k, hk1, hk, rfl, hcar, hp⟩ := hrel
      by_cases hlt : k < n
      · have hl : (addWs (seg Lz oz k) y).1.length = k := by
          have := H_hz.out
          rw [addWs_length, seg_length (by omega)]
        have hsu := addWs_succ (L := Lz) (off := oz) (k := k) (y := y) (by have := H_hz.out; omega)
        rw [hcar.out] at hsu
        have hxb := getD_lt H_hbx.out pos64 (oz + k)
        have H_hl := Lib.hid hl; clear hl
        have H_hsu := Lib.hid hsu; clear hsu
        have H_hp := Lib.hid hp; clear hp
        have hcx' : wr.cell? ⟨gz, oz + k, none⟩ = some (wd .u64 (Lz.getD (oz + k) 0)) := by
          have := H_hz.out; have := H_hl.out
          rw [H_hp.out.blk.cell (by rw [spl_length (by omega)]; omega), spl_getD (by omega), if_neg (by omega)]
        have hz2' := H_hp.out.blk.frozen (oz + k)
        generalize hxk : Lz.getD (oz + k) 0 = x at *
        have H_hxk := Lib.hid hxk; clear hxk
        by_cases hm : x = 18446744073709551615
        · have ht1 : ((x : Int) != 18446744073709551615) = false := by subst hm; rfl
          have ht2 : ((x : Int) == 18446744073709551615) = true := by subst hm; rfl
          have H_hm := Lib.hid hm; clear hm
          go_wp2
          go_roundw
          case rel =>
            have hs2 := H_hsu.out
            rw [H_hm.out, add1_max.1, add1_max.2] at hs2
            refine ⟨k + 1, by omega, by omega, by go_num, by rw [hs2]; exact rfl, ?_⟩
            rw [hs2]
            have := (H_hp.out).set (oz + k) 0
            rw [spl_set (by rw [H_hl.out]) (by have := H_hz.out; omega)] at this
            exact this
          case measure => simp [intOf]; omega
        · have ht1 : ((x : Int) != 18446744073709551615) = true := by rw [bne_iff_ne]; omega
          have ht2 : ((x : Int) == 18446744073709551615) = false := by rw [beq_eq_false_iff_ne]; omega
          have hwr : IntKind.u64.wrap ((x : Int) + 1) = ((x + 1 : Nat) : Int) := by rw [IntKind.wrap_u64]; omega
          have H_hm := Lib.hid hm; clear hm
          go_wp2_with (fail)
          have pV : Puts .u64 gz _ w (wr.setCell ⟨gz, oz + k, none⟩ (.int .u64 ((x : Int) + 1))) := (H_hp.out).set (oz + k) (x + 1)
          rw [spl_set (by rw [H_hl.out]) (by have := H_hz.out; omega)] at pV
          have H_pV := Lib.hid pV; clear pV
          generalize wr.setCell ⟨gz, oz + k, none⟩ (.int .u64 ((x : Int) + 1)) = V at *
          have hne : ∀ nq, (binOp .neq 192 (.pointer (some ⟨gz, oz, none⟩)) (.pointer (some ⟨gz, oz, none⟩))).run Tryz.prog (V.drewN nq) = .ok (.bool false) (V.drewN nq) :=
            fun nq => Go.Lib.run_neq_ptr_same _ _ Tryz.underlying192 hjt
          go_quiet (fail)
          clear hne
          go_wp2
          go_ret
          have hs2 := H_hsu.out
          rw [(add1_not hxb H_hm.out).1, (add1_not hxb H_hm.out).2] at hs2
          have hst := addWs_stop (L := Lz) (off := oz) (n := n) (k := k + 1) (y := y) H_hbx.out (by omega) H_hz.out (by rw [hs2])
          rw [hs2] at hst
          rw [hst]
          refine ⟨rfl, ?_⟩
          rw [spl_more (by simp; rw [H_hl.out]; have := H_hz.out; omega) (by simp; rw [H_hl.out])]
          exact H_pV.out.drewN nq
      · have HE := Lib.hid (show k = n by omega)
        have H_hp := Lib.hid hp; clear hp
        go_wp2
        go_ret
        have ep := H_hp.out
        have ec := hcar.out
        rw [HE.out] at ep ec
        rw [ec]
        exact ⟨rfl, ep⟩

set_option maxRecDepth 100000 in
set_option maxHeartbeats 1000000 in
theorem subVW_apart (gz oz cz gx ox cx n y : Nat) (Lz Lx : List Nat) (w : World) (hn : 0 < n) (hlen : n ≤ 1000000)
    (bz : Blk .u64 w gz Lz) (bx : Blk .u64 w gx Lx) (hz : oz + n ≤ Lz.length) (hx : ox + n ≤ Lx.length)
    (hbx : ∀ a ∈ Lx, a < 18446744073709551616) (_hy : y < 18446744073709551616) (hax : gx ≠ gz) (hcz : n ≤ cz) (hcx : n ≤ cx) :
    Calls Tryz.prog 183 #[.slice (some ⟨gz, oz, none⟩) n cz, .slice (some ⟨gx, ox, none⟩) n cx, .int .u64 y] w
      fun e w' => e = .returned (.int .u64 ((subWs (seg Lx ox n) y).2 : Nat)) ∧ Puts .u64 gz (spl Lz oz (subWs (seg Lx ox n) y).1) w w' := by
  have hz1 := bz.cell (o := oz) (by omega)
  have hz2 := bz.frozen oz
  have hx1 := bx.cell (o := ox) (by omega)
  have hgz : gz ≠ gx := Ne.symm hax
  have h1s := subWs_succ (L := Lx) (off := ox) (k := 0) (y := y) (by omega)
  have hx0b := getD_lt hbx pos64 ox
  simp only [seg_zero, subWs, List.nil_append, Nat.add_zero, Nat.zero_add] at h1s
  have hset : ∀ v, Lz.set oz v = spl Lz oz [v] := fun v => by
    have := spl_set (L := Lz) (off := oz) (l := []) (o := oz) (n := v) (by simp) (by omega)
    rw [spl_nil] at this; exact this
  generalize hg : Lx.getD ox 0 = x0 at *
  generalize Lz.getD oz 0 = z0 at *
  have pW := (Puts.refl bz).set oz (subS x0 y 0)
  rw [hset] at pW
  clear hset
  have bxW : Blk .u64 (w.setCell ⟨gz, oz, none⟩ (wd .u64 (subS x0 y 0))) gx Lx := bx.of_block (by rw [Go.RowKit.Below.heap_setCell _ _ _ _ hax])
  have H_bz := Lib.hid bz; clear bz
  have H_bx := Lib.hid bx; clear bx
  have H_hz := Lib.hid hz; clear hz
  have H_hx := Lib.hid hx; clear hx
  have H_hbx := Lib.hid hbx; clear hbx
  have H_h1s := Lib.hid h1s; clear h1s
  have H_hg := Lib.hid hg; clear hg
  have H_pW := Lib.hid pW; clear pW
  have H_bxW := Lib.hid bxW; clear bxW
  have H_hx0b := Lib.hid hx0b; clear hx0b
  go_enter Tryz.func183, Tryz.ntmps183
  by_cases hc : subC x0 y 0 = 0
  · have hcb : ((subC x0 y 0 : Nat) : Int) == 0 := by rw [hc]; rfl
    have H_hc := Lib.hid hc; clear hc
    go_wp2_with (go_at_call 205; refine (bits_Sub _ y 0 (by omega) _).mono ?_; rintro e w' ⟨rfl, rfl⟩)
    generalize w.setCell ⟨gz, oz, none⟩ (.int .u64 ((subS x0 y 0 : Nat) : Int)) = W at *
    have hne : ∀ nq, (binOp .neq 192 (.pointer (some ⟨gz, oz, none⟩)) (.pointer (some ⟨gx, ox, none⟩))).run Tryz.prog (W.drewN nq) = .ok (.bool true) (W.drewN nq) :=
      fun nq => Blk.neq (H_pW.out.blk.drewN nq) (H_bxW.out.drewN nq) hgz Tryz.underlying192 (by kernel_rfl)
    go_quiet (fail)
    clear hne
    go_wp2_with (fail)
    have h1n : (1 : Int) ≤ (n : Int) := by omega
    go_still_tail 4, (by kernel_rfl)
    clear h1n
    have hzl := H_hz.out
    have hxl := H_hx.out
    refine wpList_copy_puts rfl (.tmp 40) (.tmp 42) 133 133 rfl 164 Tryz.underlying133 (by kernel_rfl) _ _ _ _ _ _ (by rfl) (by rfl) gz (oz + 1) _ (H_pW.out.blk.drewN nq).drew gx (ox + 1) _ (H_bxW.out.drewN nq).drew (n - 1) ?_ ?_ ?_ ?_ ?_
    · simp
    · intro hp
      rw [if_neg (by omega), if_neg (by omega)]; simp
    · rw [spl_length (by simp; omega)]; omega
    · omega
    · intro w' hput
      have hput := (H_pW.out.trans hput.of_drew.of_drewN)
      rw [spl_spl (by simp) (by rw [seg_length (by omega)]; omega)] at hput
      clear hzl hxl
      have H_hput := Lib.hid hput; clear hput
      have hst := subWs_stop (L := Lx) (off := ox) (n := n) (k := 1) (y := y) H_hbx.out (by omega) H_hx.out (by rw [H_h1s.out]; exact H_hc.out)
      rw [H_h1s.out] at hst
      have H_hst := Lib.hid hst; clear hst
      go_wp2
      all_goals (go_ret; rw [H_hst.out]; exact ⟨rfl, H_hput.out⟩)
  · have hcb : (((subC x0 y 0 : Nat) : Int) == 0) = false := by rw [beq_eq_false_iff_ne]; omega
    have hc1 : subC x0 y 0 = 1 := by
      have : subC x0 y 0 ≤ 1 := subC_le _ _ _
      omega
    have H_hc := Lib.hid hc; clear hc
    have H_hc1 := Lib.hid hc1; clear hc1
    go_wp2_with (go_at_call 205; refine (bits_Sub _ y 0 (by omega) _).mono ?_; rintro e w' ⟨rfl, rfl⟩)
    generalize w.setCell ⟨gz, oz, none⟩ (.int .u64 ((subS x0 y 0 : Nat) : Int)) = W at *
    generalize ((subC x0 y 0 : Nat) : Int) = CC at *
    generalize ((subS x0 y 0 : Nat) : Int) = SS at *
    go_loopw [9] (fun i wr => ∃ k : Nat, 1 ≤ k ∧ k ≤ n ∧ i = .int .i64 k ∧ Hid ((subWs (seg Lx ox k) y).2 = 1) ∧ Puts .u64 gz (spl Lz oz (subWs (seg Lx ox k) y).1) w wr) (fun i _ => n - (intOf i).toNat)
    case atStart => exact ⟨1, Nat.le_refl _, hn, rfl, by rw [H_h1s.out]; exact H_hc1.out, by rw [H_h1s.out]; exact H_pW.out⟩
    case round =>
      obtain ⟨k, hk1, hk, rfl, hcar, hp⟩ := hrel
      by_cases hlt : k < n
      · have hl : (subWs (seg Lx ox k) y).1.length = k := by
          have := H_hx.out
          rw [subWs_length, seg_length (by omega)]
        have hsu := subWs_succ (L := Lx) (off := ox) (k := k) (y := y) (by have := H_hx.out; omega)
        rw [hcar.out] at hsu
        have hxb := getD_lt H_hbx.out pos64 (ox + k)
        have H_hl := Lib.hid hl; clear hl
        have H_hsu := Lib.hid hsu; clear hsu
        have H_hp := Lib.hid hp; clear hp
        have hcx' : wr.cell? ⟨gx, ox + k, none⟩ = some (wd .u64 (Lx.getD (ox + k) 0)) := (H_hp.out.other hax H_bx.out).cell (by have := H_hx.out; omega)
        have bxr := Lib.hid (H_hp.out.other hax H_bx.out)
        have hz1' := H_hp.out.blk.cell (o := oz + k) (by have := H_hz.out; have := H_hl.out; rw [spl_length (by omega)]; omega)
        have hz2' := H_hp.out.blk.frozen (oz + k)
        generalize (spl Lz oz (subWs (seg Lx ox k) y).1).getD (oz + k) 0 = zk at *
        generalize hxk : Lx.getD (ox + k) 0 = x at *
        have H_hxk := Lib.hid hxk; clear hxk
        by_cases hm : x = 0
        · have ht1 : ((x : Int) != 0) = false := by subst hm; rfl
          have ht2 : ((x : Int) == 0) = true := by subst hm; rfl
          have H_hm := Lib.hid hm; clear hm
          go_wp2
          go_roundw
          case rel =>
            have hs2 := H_hsu.out
            rw [H_hm.out, sub1_zero.1, sub1_zero.2] at hs2
            refine ⟨k + 1, by omega, by omega, by go_num, by rw [hs2]; exact rfl, ?_⟩
            rw [hs2]
            have := (H_hp.out).set (oz + k) 18446744073709551615
            rw [spl_set (by rw [H_hl.out]) (by have := H_hz.out; omega)] at this
            exact this
          case measure => simp [intOf]; omega
        · have ht1 : ((x : Int) != 0) = true := by rw [bne_iff_ne]; omega
          have ht2 : ((x : Int) == 0) = false := by rw [beq_eq_false_iff_ne]; omega
          have hwr : IntKind.u64.wrap ((x : Int) - 1) = ((x - 1 : Nat) : Int) := by rw [IntKind.wrap_u64]; omega
          have H_hm := Lib.hid hm; clear hm
          go_wp2_with (fail)
          have pV := (H_hp.out).set (oz + k) (x - 1)
          rw [spl_set (by rw [H_hl.out]) (by have := H_hz.out; omega)] at pV
          have H_pV := Lib.hid pV; clear pV
          have bxV : Blk .u64 (wr.setCell ⟨gz, oz + k, none⟩ (wd .u64 (x - 1))) gx Lx := bxr.out.of_block (by rw [Go.RowKit.Below.heap_setCell _ _ _ _ hax])
          have H_bxV := Lib.hid bxV; clear bxV
          generalize wr.setCell ⟨gz, oz + k, none⟩ (.int .u64 ((x - 1 : Nat) : Int)) = V at *
          have hne : ∀ nq, (binOp .neq 192 (.pointer (some ⟨gz, oz, none⟩)) (.pointer (some ⟨gx, ox, none⟩))).run Tryz.prog (V.drewN nq) = .ok (.bool true) (V.drewN nq) :=
            fun nq => Blk.neq (H_pV.out.blk.drewN nq) (H_bxV.out.drewN nq) hgz Tryz.underlying192 (by kernel_rfl)
          go_quiet (fail)
          clear hne
          have h1k : (0 : Int) ≤ (k : Int) + 1 := by omega
          have h1n : (k : Int) + 1 ≤ (n : Int) := by omega
          have hkw : IntKind.i64.wrap ((k : Int) + 1) = (k : Int) + 1 := by rw [IntKind.wrap_i64]; omega
          have hkt : ((k : Int) + 1).toNat = k + 1 := by omega
          go_wp2_with (fail)
          go_still_tail 8, (by kernel_rfl)
          clear h1n h1k hkw hkt
          have hzl := H_hz.out
          have hxl := H_hx.out
          refine wpList_copy_puts rfl (.tmp 69) (.tmp 73) 133 133 rfl 164 Tryz.underlying133 (by kernel_rfl) _ _ _ _ _ _ (by rfl) (by rfl) gz (oz + (k + 1)) _ (H_pV.out.blk.drewN nq).drew gx (ox + (k + 1)) _ (H_bxV.out.drewN nq).drew (n - (k + 1)) ?_ ?_ ?_ ?_ ?_
          · simp
          · intro hp
            rw [if_neg (by omega), if_neg (by omega)]; simp
          · rw [spl_length (by simp; rw [H_hl.out]; omega)]; omega
          · omega
          · intro w' hput
            have hput := (H_pV.out.trans hput.of_drew.of_drewN)
            rw [spl_spl (by simp; rw [H_hl.out]) (by rw [seg_length (by omega)]; omega)] at hput
            clear hzl hxl
            have H_hput := Lib.hid hput; clear hput
            have hs2 := H_hsu.out
            rw [(sub1_not hxb H_hm.out).1, (sub1_not hxb H_hm.out).2] at hs2
            have hst := subWs_stop (L := Lx) (off := ox) (n := n) (k := k + 1) (y := y) H_hbx.out (by omega) H_hx.out (by rw [hs2])
            rw [hs2] at hst
            have H_hst := Lib.hid hst; clear hst
            go_wp2
            all_goals (go_ret; rw [H_hst.out]; exact ⟨rfl, H_hput.out⟩)
      · have HE := Lib.hid (show k = n by omega)
        have H_hp := Lib.hid hp; clear hp
        go_wp2
        go_ret
        have ep := H_hp.out
        have ec := hcar.out
        rw [HE.out] at ep ec
        rw [ec]
        exact ⟨rfl, ep⟩

set_option maxRecDepth 100000 in
set_option maxHeartbeats 1000000 in
theorem subVW_same (gz oz cz cx n y : Nat) (Lz : List Nat) (w : World) (hn : 0 < n) (hlen : n ≤ 1000000)
    (bz : Blk .u64 w gz Lz) (hz : oz + n ≤ Lz.length)
    (hbx : ∀ a ∈ Lz, a < 18446744073709551616) (_hy : y < 18446744073709551616) (_hcz : n ≤ cz) (_hcx : n ≤ cx) :
    Calls Tryz.prog 183 #[.slice (some ⟨gz, oz, none⟩) n cz, .slice (some ⟨gz, oz, none⟩) n cx, .int .u64 y] w
      fun e w' => e = .returned (.int .u64 ((subWs (seg Lz oz n) y).2 : Nat)) ∧ Puts .u64 gz (spl Lz oz (subWs (seg Lz oz n) y).1) w w' := by
  have hx1 := bz.cell (o := oz) (by omega)
  have hz2 := bz.frozen oz
  obtain ⟨jt, hjt⟩ : ∃ j, Tryz.prog.info? 164 = some j := by
    have h : (Tryz.prog.info? 164).isSome = true := by kernel_rfl
    exact Option.isSome_iff_exists.1 h
  have h1s := subWs_succ (L := Lz) (off := oz) (k := 0) (y := y) (by omega)
  have hx0b := getD_lt hbx pos64 oz
  simp only [seg_zero, subWs, List.nil_append, Nat.add_zero, Nat.zero_add] at h1s
  have hset : ∀ v, Lz.set oz v = spl Lz oz [v] := fun v => by
    have := spl_set (L := Lz) (off := oz) (l := []) (o := oz) (n := v) (by simp) (by omega)
    rw [spl_nil] at this; exact this
  generalize hg : Lz.getD oz 0 = x0 at *
  have pW := (Puts.refl bz).set oz (subS x0 y 0)
  rw [hset] at pW
  clear hset
  have H_bz := Lib.hid bz; clear bz
  have H_hz := Lib.hid hz; clear hz
  have H_hbx := Lib.hid hbx; clear hbx
  have H_h1s := Lib.hid h1s; clear h1s
  have H_hg := Lib.hid hg; clear hg
  have H_pW := Lib.hid pW; clear pW
  have H_hx0b := Lib.hid hx0b; clear hx0b
  go_enter Tryz.func183, Tryz.ntmps183
  by_cases hc : subC x0 y 0 = 0
  · have hcb : ((subC x0 y 0 : Nat) : Int) == 0 := by rw [hc]; rfl
    have H_hc := Lib.hid hc; clear hc
    go_wp2_with (go_at_call 205; refine (bits_Sub _ y 0 (by omega) _).mono ?_; rintro e w' ⟨rfl, rfl⟩)
    generalize w.setCell ⟨gz, oz, none⟩ (.int .u64 ((subS x0 y 0 : Nat) : Int)) = W at *
    have hne : ∀ nq, (binOp .neq 192 (.pointer (some ⟨gz, oz, none⟩)) (.pointer (some ⟨gz, oz, none⟩))).run Tryz.prog (W.drewN nq) = .ok (.bool false) (W.drewN nq) :=
      fun nq => Go.Lib.run_neq_ptr_same _ _ Tryz.underlying192 hjt
    go_quiet (fail)
    clear hne
    go_wp2
    go_ret
    have hst := subWs_stop (L := Lz) (off := oz) (n := n) (k := 1) (y := y) H_hbx.out (by omega) H_hz.out (by rw [H_h1s.out]; exact H_hc.out)
    rw [H_h1s.out] at hst
    rw [hst]
    refine ⟨rfl, ?_⟩
    have := H_pW.out.drewN nq
    rw [show spl Lz oz ([subS x0 y 0] ++ seg Lz (oz + 1) (n - 1)) = spl Lz oz [subS x0 y 0] from ?_]
    · exact this
    · exact spl_more (by have := H_hz.out; simp; omega) (by simp)
  · have hcb : (((subC x0 y 0 : Nat) : Int) == 0) = false := by rw [beq_eq_false_iff_ne]; omega
    have hc1 : subC x0 y 0 = 1 := by
      have : subC x0 y 0 ≤ 1 := subC_le _ _ _
      omega
    have H_hc := Lib.hid hc; clear hc
    have H_hc1 := Lib.hid hc1; clear hc1
    go_wp2_with (go_at_call 205; refine (bits_Sub _ y 0 (by omega) _).mono ?_; rintro e w' ⟨rfl, rfl⟩)
    generalize w.setCell ⟨gz, oz, none⟩ (.int .u64 ((subS x0 y 0 : Nat) : Int)) = W at *
    generalize ((subC x0 y 0 : Nat) : Int) = CC at *
    generalize ((subS x0 y 0 : Nat) : Int) = SS at *
    go_loopw [9] (fun i wr => ∃ k : Nat, 1 ≤ k ∧ k ≤ n ∧ i = .int .i64 k ∧ Hid ((subWs (seg Lz oz k) y).2 = 1) ∧ Puts .u64 gz (spl Lz oz (subWs (seg Lz oz k) y).1) w wr) (fun i _ => n - (intOf i).toNat)
    case atStart => exact ⟨1, Nat.le_refl _, hn, rfl, by rw [H_h1s.out]; exact H_hc1.out, by rw [H_h1s.out]; exact H_pW.out⟩
    case round =>
      obtain ⟨k, hk1, hk, rfl, hcar, hp⟩ := hrel
      by_cases hlt : k < n
      · have hl : (subWs (seg Lz oz k) y).1.length = k := by
          have := H_hz.out
          rw [subWs_length, seg_length (by omega)]
        have hsu := subWs_succ (L := Lz) (off := oz) (k := k) (y := y) (by have := H_hz.out; omega)
        rw [hcar.out] at hsu
        have hxb := getD_lt H_hbx.out pos64 (oz + k)
        have H_hl := Lib.hid hl; clear hl
        have H_hsu := Lib.hid hsu; clear hsu
        have H_hp := Lib.hid hp; clear hp
        have hcx' : wr.cell? ⟨gz, oz + k, none⟩ = some (wd .u64 (Lz.getD (oz + k) 0)) := by
          have := H_hz.out; have := H_hl.out
          rw [H_hp.out.blk.cell (by rw [spl_length (by omega)]; omega), spl_getD (by omega), if_neg (by omega)]
        have hz2' := H_hp.out.blk.frozen (oz + k)
        generalize hxk : Lz.getD (oz + k) 0 = x at *
        have H_hxk := Lib.hid hxk; clear hxk
        by_cases hm : x = 0
        · have ht1 : ((x : Int) != 0) = false := by subst hm; rfl
          have ht2 : ((x : Int) == 0) = true := by subst hm; rfl
          have H_hm := Lib.hid hm; clear hm
          go_wp2
          go_roundw
          case rel =>
            have hs2 := H_hsu.out
            rw [H_hm.out, sub1_zero.1, sub1_zero.2] at hs2
            refine ⟨k + 1, by omega, by omega, by go_num, by rw [hs2]; exact rfl, ?_⟩
            rw [hs2]
            have := (H_hp.out).set (oz + k) 18446744073709551615
            rw [spl_set (by rw [H_hl.out]) (by have := H_hz.out; omega)] at this
            exact this
          case measure => simp [intOf]; omega
        · have ht1 : ((x : Int) != 0) = true := by rw [bne_iff_ne]; omega
          have ht2 : ((x : Int) == 0) = false := by rw [beq_eq_false_iff_ne]; omega
          have hwr : IntKind.u64.wrap ((x : Int) - 1) = ((x - 1 : Nat) : Int) := by rw [IntKind.wrap_u64]; omega
          have H_hm := Lib.hid hm; clear hm
          go_wp2_with (fail)
          have pV := (H_hp.out).set (oz + k) (x - 1)
          rw [spl_set (by rw [H_hl.out]) (by have := H_hz.out; omega)] at pV
          have H_pV := Lib.hid pV; clear pV
          generalize wr.setCell ⟨gz, oz + k, none⟩ (.int .u64 ((x - 1 : Nat) : Int)) = V at *
          have hne : ∀ nq, (binOp .neq 192 (.pointer (some ⟨gz, oz, none⟩)) (.pointer (some ⟨gz, oz, none⟩))).run Tryz.prog (V.drewN nq) = .ok (.bool false) (V.drewN nq) :=
            fun nq => Go.Lib.run_neq_ptr_same _ _ Tryz.underlying192 hjt
          go_quiet (fail)
          clear hne
          go_wp2
          go_ret
          have hs2 := H_hsu.out
          rw [(sub1_not hxb H_hm.out).1, (sub1_not hxb H_hm.out).2] at hs2
          have hst := subWs_stop (L := Lz) (off := oz) (n := n) (k := k + 1) (y := y) H_hbx.out (by omega) H_hz.out (by rw [hs2])
          rw [hs2] at hst
          rw [hst]
          refine ⟨rfl, ?_⟩
          rw [spl_more (by simp; rw [H_hl.out]; have := H_hz.out; omega) (by simp; rw [H_hl.out])]
          exact H_pV.out.drewN nq
      · have HE := Lib.hid (show k = n by omega)
        have H_hp := Lib.hid hp; clear hp
        go_wp2
        go_ret
        have ep := H_hp.out
        have ec := hcar.out
        rw [HE.out] at ep ec
        rw [ec]
        exact ⟨rfl, ep⟩

end Go.Proofs.YtmgidnjpkbgmgabGreatDoor

/- What vectors of words are worth, and what the sums, differences and products of vectors are worth. No program is in sight. -/
namespace Go.Proofs.YtmgidnjpkbgmgabGreatDoor
open Go.RowKit

/-- what a vector of words is worth -/
def val : List Nat → Nat
  | [] => 0
  | x :: xs => x + 18446744073709551616 * val xs

/-- the radix to a power -/
def wpow (n : Nat) : Nat := 18446744073709551616 ^ n

theorem wpow_zero : wpow 0 = 1 := rfl
theorem wpow_succ (n : Nat) : wpow (n + 1) = 18446744073709551616 * wpow n := by unfold wpow; rw [Nat.pow_succ, Nat.mul_comm]
theorem wpow_add (m n : Nat) : wpow (m + n) = wpow m * wpow n := by unfold wpow; rw [Nat.pow_add]
theorem wpow_pos (n : Nat) : 0 < wpow n := by unfold wpow; exact Nat.pow_pos (by omega)
theorem wpow_mono {m n : Nat} (h : m ≤ n) : wpow m ≤ wpow n := by unfold wpow; exact Nat.pow_le_pow_right (by omega) h
theorem wpow_lt {m n : Nat} (h : m < n) : wpow m < wpow n := by unfold wpow; exact Nat.pow_lt_pow_right (by omega) h

theorem val_append (xs ys : List Nat) : val (xs ++ ys) = val xs + wpow xs.length * val ys := by
  induction xs with
  | nil => simp [val, wpow_zero]
  | cons x xs ih =>
    simp only [List.cons_append, val, List.length_cons, wpow_succ, ih]
    grind

theorem val_lt {xs : List Nat} (h : ∀ a ∈ xs, a < 18446744073709551616) : val xs < wpow xs.length := by
  induction xs with
  | nil => simp [val, wpow_zero]
  | cons x xs ih =>
    have h1 := h x (by simp)
    have h2 := ih (fun a ha => h a (by simp [ha]))
    simp only [val, List.length_cons, wpow_succ]
    omega

theorem addVs_val : ∀ (xs ys : List Nat) (c : Nat), xs.length = ys.length → val (addVs xs ys c).1 + wpow xs.length * (addVs xs ys c).2 = val xs + val ys + c
  | [], [], c, _ => by simp [addVs, val, wpow_zero]
  | x :: xs, y :: ys, c, h => by
    have ih := addVs_val xs ys (addC x y c) (by simpa using h)
    have e : addS x y c + 18446744073709551616 * addC x y c = x + y + c := by unfold addS addC; omega
    simp only [addVs, val, List.length_cons, wpow_succ]
    grind

theorem subVs_val : ∀ (xs ys : List Nat) (c : Nat), xs.length = ys.length → (∀ a ∈ xs, a < 18446744073709551616) → (∀ a ∈ ys, a < 18446744073709551616) → c ≤ 1 →
    val (subVs xs ys c).1 + val ys + c = val xs + wpow xs.length * (subVs xs ys c).2
  | [], [], c, _, _, _, _ => by simp [subVs, val, wpow_zero]
  | x :: xs, y :: ys, c, h, hx, hy, hc => by
    have ih := subVs_val xs ys (subC x y c) (by simpa using h) (fun a ha => hx a (by simp [ha])) (fun a ha => hy a (by simp [ha])) (subC_le _ _ _)
    have h1 := hx x (by simp)
    have h2 := hy y (by simp)
    have e : subS x y c + y + c = x + 18446744073709551616 * subC x y c := by unfold subS subC; split <;> omega
    simp only [subVs, val, List.length_cons, wpow_succ]
    grind

theorem mulVs_val : ∀ (xs : List Nat) (y c : Nat), val (mulVs xs y c).1 + wpow xs.length * (mulVs xs y c).2 = val xs * y + c
  | [], y, c => by simp [mulVs, val, wpow_zero]
  | x :: xs, y, c => by
    have ih := mulVs_val xs y (maH x y c)
    have e : maL x y c + 18446744073709551616 * maH x y c = x * y + c := by unfold maL maH; omega
    simp only [mulVs, val, List.length_cons, wpow_succ]
    grind

theorem amVs_val : ∀ (xs ys : List Nat) (m c : Nat), xs.length = ys.length → val (amVs xs ys m c).1 + wpow xs.length * (amVs xs ys m c).2 = val xs + val ys * m + c
  | [], [], m, c, _ => by simp [amVs, val, wpow_zero]
  | x :: xs, y :: ys, m, c, h => by
    have ih := amVs_val xs ys m (maH y m x + addC (maL y m x) c 0) (by simpa using h)
    have e : maL y m x + 18446744073709551616 * maH y m x = y * m + x := by unfold maL maH; omega
    have e2 : addS (maL y m x) c 0 + 18446744073709551616 * addC (maL y m x) c 0 = maL y m x + c := by unfold addS addC; omega
    simp only [amVs, val, List.length_cons, wpow_succ]
    grind

theorem addWs_val : ∀ (xs : List Nat) (c : Nat), val (addWs xs c).1 + wpow xs.length * (addWs xs c).2 = val xs + c
  | [], c => by simp [addWs, val, wpow_zero]
  | x :: xs, c => by
    have ih := addWs_val xs (addC x c 0)
    have e : addS x c 0 + 18446744073709551616 * addC x c 0 = x + c := by unfold addS addC; omega
    simp only [addWs, val, List.length_cons, wpow_succ]
    grind

theorem subWs_val : ∀ (xs : List Nat) (c : Nat), (∀ a ∈ xs, a < 18446744073709551616) → c < 18446744073709551616 → val (subWs xs c).1 + c = val xs + wpow xs.length * (subWs xs c).2
  | [], c, _, _ => by simp [subWs, val, wpow_zero]
  | x :: xs, c, hx, hc => by
    have ih := subWs_val xs (subC x c 0) (fun a ha => hx a (by simp [ha])) (by have := subC_le x c 0; omega)
    have h1 := hx x (by simp)
    have e : subS x c 0 + c = x + 18446744073709551616 * subC x c 0 := by unfold subS subC; split <;> omega
    simp only [subWs, val, List.length_cons, wpow_succ]
    grind

theorem subWs_carry : ∀ (xs : List Nat) (c : Nat), c ≤ 1 → (subWs xs c).2 ≤ 1
  | [], _, h => h
  | _ :: xs, _, _ => subWs_carry xs _ (subC_le _ _ _)

theorem addWs_carry : ∀ (xs : List Nat) (c : Nat), (∀ a ∈ xs, a < 18446744073709551616) → c ≤ 1 → (addWs xs c).2 ≤ 1
  | [], _, _, h => h
  | a :: xs, c, hx, h => addWs_carry xs _ (fun a ha => hx a (by simp [ha])) (addC_le (hx a (by simp)) (by omega) (by omega))

theorem val_take_succ {l : List Nat} {k : Nat} (h : k < l.length) : val (l.take (k + 1)) = val (l.take k) + wpow k * l.getD k 0 := by
  rw [List.take_succ_eq_append_getElem h, val_append]
  simp [val, List.getD, h, Nat.min_eq_left (Nat.le_of_lt h)]

theorem Norm.ge {l : List Nat} (h : Norm l) {k : Nat} (hk : l.length = k + 1) : wpow k ≤ val l := by
  have e := val_take_succ (l := l) (k := k) (by omega)
  rw [List.take_of_length_le (by omega)] at e
  rw [e]
  have := h k hk
  have : wpow k * 1 ≤ wpow k * l.getD k 0 := Nat.mul_le_mul_left _ (by omega)
  omega

theorem Norm.len_le {l : List Nat} (h : Norm l) {k : Nat} (hv : val l < wpow k) : l.length ≤ k := by
  rcases Nat.lt_or_ge k l.length with hk | hk
  · obtain ⟨m, hm⟩ : ∃ m, l.length = m + 1 := ⟨l.length - 1, by omega⟩
    have := h.ge hm
    have := wpow_mono (show k ≤ m by omega)
    omega
  · exact hk

theorem val_nil_of {l : List Nat} (h : Norm l) (hv : val l = 0) : l = [] := by
  have := h.len_le (k := 0) (by rw [hv, wpow_zero]; omega)
  exact List.eq_nil_of_length_eq_zero (by omega)

/-- words below the radix, compared -/
theorem val_cmp_len {l m : List Nat} (hl : Norm l) (hm : ∀ a ∈ m, a < 18446744073709551616) (h : m.length < l.length) : val m < val l := by
  obtain ⟨k, hk⟩ : ∃ k, l.length = k + 1 := ⟨l.length - 1, by omega⟩
  have h1 := hl.ge hk
  have h2 := val_lt hm
  have := wpow_mono (show m.length ≤ k by omega)
  omega

end Go.Proofs.YtmgidnjpkbgmgabGreatDoor

/- The contracts of math/big's natural numbers: norm, make, setWord, set, cmp. -/
namespace Go.Proofs.YtmgidnjpkbgmgabGreatDoor
open Go.RowKit

/-- a slice's capacity is a number of Go's -/
def CapOK : Value → Prop
  | .slice _ _ c => c ≤ 9223372036854775807
  | _ => True

/-- the value v is a slice of words that reads as l -/
def NatAt (w : World) (v : Value) (l : List Nat) : Prop :=
  ((∀ x ∈ l, x < 18446744073709551616) ∧ CapOK v) ∧ ((v = .slice none 0 0 ∧ l = []) ∨
    ∃ g off cap L, v = .slice (some ⟨g, off, none⟩) l.length cap ∧ Blk .u64 w g L ∧ l.length ≤ cap ∧ off + cap ≤ L.length ∧ l = seg L off l.length ∧ (∀ x ∈ L, x < 18446744073709551616))

theorem NatAt.bnd {w : World} {v : Value} {l : List Nat} (h : NatAt w v l) : ∀ x ∈ l, x < 18446744073709551616 := h.1.1

theorem NatAt.cap {w : World} {a : Option Addr} {n c : Nat} {l : List Nat} (h : NatAt w (.slice a n c) l) : c ≤ 9223372036854775807 := h.1.2

theorem NatAt.nil (w : World) : NatAt w (.slice none 0 0) [] := ⟨⟨by simp, by simp [CapOK]⟩, .inl ⟨rfl, rfl⟩⟩

theorem NatAt.mk {w : World} {g off n cap : Nat} {L : List Nat} (hc : cap ≤ 9223372036854775807) (h : Blk .u64 w g L) (h1 : n ≤ cap) (h2 : off + cap ≤ L.length) (hL : ∀ x ∈ L, x < 18446744073709551616) :
    NatAt w (.slice (some ⟨g, off, none⟩) n cap) (seg L off n) :=
  ⟨⟨fun x hx => hL x (seg_mem hx), hc⟩, .inr ⟨g, off, cap, L, by rw [seg_length (by omega)], h, by rw [seg_length (by omega)]; exact h1, h2, by rw [seg_length (by omega)], hL⟩⟩

theorem NatAt.keep {S : Nat → Prop} {w w' : World} {v : Value} {l : List Nat} (h : NatAt w v l) (hk : Keep S w w') (hs : ∀ g, v.ownBlock = some g → ¬ S g) : NatAt w' v l := by
  obtain ⟨hb, h⟩ := h
  refine ⟨hb, ?_⟩
  rcases h with h | ⟨g, off, cap, L, rfl, bk, h1, h2, h3, h4⟩
  · exact .inl h
  · exact .inr ⟨g, off, cap, L, rfl, bk.keep hk (hs g rfl), h1, h2, h3, h4⟩

theorem NatAt.drewN {w : World} {v : Value} {l : List Nat} (h : NatAt w v l) (n : Nat) : NatAt (w.drewN n) v l := h
theorem NatAt.drew {w : World} {v : Value} {l : List Nat} (h : NatAt w v l) : NatAt w.drew v l := h

theorem NatAt.lt {w : World} {v : Value} {l : List Nat} (h : NatAt w v l) {g : Nat} (hg : v.ownBlock = some g) : g < w.heap.size := by
  rcases h.2 with ⟨rfl, _⟩ | ⟨g', off, cap, L, rfl, bk, _⟩
  · exact absurd hg (by simp [Value.ownBlock])
  · simp only [Value.ownBlock, Option.some.injEq] at hg; subst hg; exact bk.lt

theorem NatAt.form {w : World} {v : Value} {l : List Nat} (h : NatAt w v l) : ∃ a cap, v = .slice a l.length cap := by
  rcases h.2 with ⟨rfl, rfl⟩ | ⟨g', off, cap, L, rfl, _⟩
  · exact ⟨none, 0, rfl⟩
  · exact ⟨_, _, rfl⟩

/-- a nat that is not empty, laid open -/
theorem NatAt.open_pos {w : World} {v : Value} {l : List Nat} (h : NatAt w v l) (hn : 0 < l.length) :
    ∃ g off cap L, v = .slice (some ⟨g, off, none⟩) l.length cap ∧ Blk .u64 w g L ∧ l.length ≤ cap ∧ off + cap ≤ L.length ∧ l = seg L off l.length ∧ (∀ x ∈ L, x < 18446744073709551616) := by
  rcases h.2 with ⟨_, rfl⟩ | h
  · simp at hn
  · exact h

/-- what may be written does not lie in what is read, but where both begin alike -/
def SafeZ (zv xv : Value) : Prop := ∀ gz oz nz cz gx ox nx cx, zv = .slice (some ⟨gz, oz, none⟩) nz cz → xv = .slice (some ⟨gx, ox, none⟩) nx cx → gx ≠ gz ∨ oz = ox

theorem SafeZ.nil (v : Value) (n c : Nat) : SafeZ (.slice none n c) v := by
  intro gz oz nz cz gx ox nx cx h1 _; simp at h1

theorem SafeZ.ne {zv xv : Value} (h : ∀ g, zv.ownBlock = some g → xv.ownBlock ≠ some g) : SafeZ zv xv := by
  intro gz oz nz cz gx ox nx cx h1 h2
  subst h1 h2
  have := h gz rfl
  simp [Value.ownBlock] at this
  exact .inl this

/-- what a call that returns a number of words does: it may write what z may hold, and make anew -/
structure NatOp (w : World) (zv rv : Value) (l : List Nat) (w' : World) : Prop where
  nat : NatAt w' rv l
  keep : Keep (fun k => zv.ownBlock = some k) w w'
  own : ∀ k, rv.ownBlock = some k → zv.ownBlock = some k ∨ w.heap.size ≤ k

/-- the call returns the number n, without words of 0 at its end -/
def NatRet (w : World) (zv : Value) (n : Nat) (e : Ending) (w' : World) : Prop := ∃ rv l, e = .returned rv ∧ NatOp w zv rv l w' ∧ Norm l ∧ val l = n

theorem normK_val (l : List Nat) : ∀ n, n ≤ l.length → val (l.take (normL.normK l n)) = val (l.take n)
  | 0, _ => rfl
  | n + 1, h => by
    simp only [normL.normK]; split
    · rename_i h0
      rw [normK_val l n (by omega), val_take_succ (by omega), h0]; simp
    · rfl

set_option maxHeartbeats 400000 in
theorem norm_pos (g off cap n : Nat) (L : List Nat) (w : World) (hn : n ≤ 1000000) (bz : Blk .u64 w g L) (h1 : n ≤ cap) (h2 : off + cap ≤ L.length) :
    Calls Tryz.prog 181 #[.slice (some ⟨g, off, none⟩) n cap] w fun e w' => e = .returned (.slice (some ⟨g, off, none⟩) (normL.normK (seg L off n) n) cap) ∧ w = w' := by
  have H_bz := Lib.hid bz; clear bz
  have H_h2 := Lib.hid h2; clear h2
  go_enter Tryz.func181, Tryz.ntmps181
  go_wp2
  go_loop [3] (fun i => ∃ k : Nat, k ≤ n ∧ i = .int .i64 k ∧ Hid (normL.normK (seg L off n) n = normL.normK (seg L off n) k)) (fun i => (intOf i).toNat)
  case atStart => exact ⟨n, Nat.le_refl _, rfl, rfl⟩
  case round =>
    obtain ⟨k, hk, rfl, he⟩ := hrel
    cases k with
    | zero =>
      go_wp2
      go_ret
      refine ⟨?_, rfl⟩
      rw [he.out]; rfl
    | succ k =>
      have hc := H_bz.out.cell (o := off + k) (by have := H_h2.out; omega)
      have hs := seg_getD (L := L) (off := off) (n := n) (j := k) (by omega)
      generalize hx : L.getD (off + k) 0 = x at *
      have H_hs := Lib.hid hs; clear hs
      have H_hx := Lib.hid hx; clear hx
      have e1 : ((k : Int) + 1 - 1) = (k : Int) := by omega
      have e2 : ((k : Int) + 1 - 1).toNat = k := by omega
      by_cases hx0 : x = 0
      · have ht : ((x : Int) == 0) = true := by subst hx0; rfl
        have H_hx0 := Lib.hid hx0; clear hx0
        go_wp2
        go_round
        case rel => 
          refine ⟨k, by omega, by simp, ?_⟩
          have := he.out
          simp only [normL.normK] at this
          rw [if_pos (by rw [H_hs.out]; exact H_hx0.out)] at this
          exact this
        case measure => simp [intOf]
      · have ht : ((x : Int) == 0) = false := by rw [beq_eq_false_iff_ne]; omega
        have H_hx0 := Lib.hid hx0; clear hx0
        go_wp2
        go_ret
        refine ⟨?_, rfl⟩
        rw [he.out]; simp only [normL.normK]; rw [if_neg (by rw [H_hs.out]; exact H_hx0.out)]
        rfl

/-- the same, of a nat: what comes back is the number without words of 0 at its end; it lies where the argument lies -/
def NormRet (w : World) (v : Value) (n : Nat) (e : Ending) (w' : World) : Prop := ∃ rv l, e = .returned rv ∧ NatAt w rv l ∧ Norm l ∧ val l = n ∧ (∀ k, rv.ownBlock = some k → v.ownBlock = some k) ∧ w = w'

set_option maxHeartbeats 400000 in
theorem norm_any (v : Value) (l : List Nat) (w : World) (hn : l.length ≤ 1000000) (h : NatAt w v l) : Calls Tryz.prog 181 #[v] w (NormRet w v (val l)) := by
  rcases h.2 with ⟨rfl, rfl⟩ | ⟨g, off, cap, L, rfl, bk, h1, h2, h3, h4⟩
  · clear h hn
    go_enter Tryz.func181, Tryz.ntmps181
    go_wp2
    refine wp_loop_rounds 1 ?_
    rw [rounds_succ]
    go_wp2
    go_ret
    exact ⟨_, [], rfl, NatAt.nil w, Norm.nil, rfl, fun _ h => h, rfl⟩
  · refine (norm_pos g off cap l.length L w hn bk h1 h2).mono ?_
    rintro e w' ⟨rfl, rfl⟩
    have hk := normK_le (seg L off l.length) l.length
    have e1 : (seg L off l.length).take (normL.normK (seg L off l.length) l.length) = seg L off (normL.normK (seg L off l.length) l.length) := seg_take hk
    refine ⟨_, seg L off (normL.normK (seg L off l.length) l.length), rfl, NatAt.mk h.cap bk (by omega) h2 h4, ?_, ?_, fun _ h => h, rfl⟩
    · rw [← e1]; exact normK_norm _ _ (by rw [seg_length (by omega)]; exact Nat.le_refl _)
    · rw [← e1, normK_val _ _ (by rw [seg_length (by omega)]; exact Nat.le_refl _), List.take_of_length_le (by rw [seg_length (by omega)]; exact Nat.le_refl _), ← h3]

/-- what make hands back: room for n words: z's own, or new room -/
def Made (w : World) (zv : Value) (n : Nat) (e : Ending) (w' : World) : Prop :=
  ∃ g off cap L, e = .returned (.slice (some ⟨g, off, none⟩) n cap) ∧ Blk .u64 w' g L ∧ n ≤ cap ∧ off + cap ≤ L.length ∧ (∀ x ∈ L, x < 18446744073709551616) ∧ Fresh w w' ∧ cap ≤ 9223372036854775807 ∧
    ((w' = w ∧ ∃ n0 c0, zv = .slice (some ⟨g, off, none⟩) n0 c0) ∨ g = w.heap.size)

theorem Blk.made {w : World} {n : Nat} {T : TypeId} : Blk .u64 (w.alloc (.cells (madeCells #[Value.int .u64 0] n) T)) w.heap.size (List.replicate n 0) := by
  refine ⟨T, ?_⟩
  rw [heap_alloc_new]
  congr 2
  apply Array.ext'
  rw [toList_madeCells_one]
  simp

theorem rep_lt {n B : Nat} (hB : 0 < B) : ∀ x ∈ List.replicate n 0, x < B := by
  intro x hx
  rw [List.eq_of_mem_replicate hx]; exact hB

set_option maxRecDepth 20000 in
set_option maxHeartbeats 400000 in
theorem make_any (zv : Value) (zl : List Nat) (n : Nat) (w : World) (hn : 0 < n) (hn2 : n ≤ 1000000) (h : NatAt w zv zl) :
    Calls Tryz.prog 168 #[zv, .int .i64 n] w (Made w zv n) := by
  have hn0 : ((n : Int) == 0) = false := by rw [beq_eq_false_iff_ne]; omega
  obtain ⟨i0, hi, hz0, hz1, hz2⟩ := info_parts (show (Tryz.prog.info? 164).map (fun i => (i.zero, i.size, i.bytes)) = some (some (.int .u64 0), 1, 8) from by kernel_rfl)
  obtain ⟨o1, ho1, mk1⟩ : ∃ o, Hid (Blk .u64 (w.alloc o) w.heap.size (List.replicate 1 0)) ∧ (Instr.makeSlice 134 (.int .i64 1) (.int .i64 1)).run Tryz.prog w = .ok (.slice (some ⟨w.heap.size, 0, none⟩) 1 1) (w.alloc o) := by
    have := run_make (P := Tryz.prog) w 134 164 i0 _ Tryz.underlying134 hi hz0 .i64 .i64 1 1 (by omega) (by omega) (by rw [hz2]; omega) (by omega)
    exact ⟨_, Blk.made (T := 164), by simpa [hz1, Value.cells] using this⟩
  obtain ⟨o2, ho2, mk2⟩ : ∃ o, Hid (Blk .u64 (w.alloc o) w.heap.size (List.replicate (n + 4) 0)) ∧ (Instr.makeSlice 134 (.int .i64 (n : Int)) (.int .i64 ((n : Int) + 4))).run Tryz.prog w = .ok (.slice (some ⟨w.heap.size, 0, none⟩) n (n + 4)) (w.alloc o) := by
    have := run_make (P := Tryz.prog) w 134 164 i0 _ Tryz.underlying134 hi hz0 .i64 .i64 (n : Int) ((n : Int) + 4) (by omega) (by omega) (by rw [hz2]; omega) (by omega)
    rw [show ((n : Int) + 4).toNat = n + 4 from by omega] at this
    exact ⟨_, Blk.made (T := 164), by simpa [hz1, Value.cells] using this⟩
  rcases h.2 with ⟨rfl, rfl⟩ | ⟨g, off, cap, L, rfl, bk, h1, h2, h3, h4⟩
  · clear h hi hz0 hz1 hz2
    by_cases h1 : n = 1
    · subst h1
      clear mk2
      go_enter Tryz.func168, Tryz.ntmps168
      go_wp2
      go_ret
      exact ⟨_, _, _, _, rfl, ho1.out, by omega, by simp, rep_lt (by omega), (Keep.refl _ _).alloc _, by omega, .inr rfl⟩
    · have h1b : ((n : Int) == 1) = false := by rw [beq_eq_false_iff_ne]; omega
      clear mk1
      go_enter Tryz.func168, Tryz.ntmps168
      go_wp2
      go_ret
      exact ⟨_, _, _, _, rfl, ho2.out, by omega, by simp, rep_lt (by omega), (Keep.refl _ _).alloc _, by omega, .inr rfl⟩
  · have hcap := h.cap
    clear h hi hz0 hz1 hz2
    have H_bk := Lib.hid bk; clear bk
    have H_h2 := Lib.hid h2; clear h2
    have H_h3 := Lib.hid h3; clear h3
    have H_h4 := Lib.hid h4; clear h4
    by_cases hc : n ≤ cap
    · clear mk1 mk2
      go_enter Tryz.func168, Tryz.ntmps168
      go_wp2
      go_ret
      exact ⟨_, _, _, _, rfl, H_bk.out, hc, H_h2.out, H_h4.out, Keep.refl _ _, hcap, .inl ⟨rfl, _, _, rfl⟩⟩
    · by_cases h1 : n = 1
      · subst h1
        clear mk2
        go_enter Tryz.func168, Tryz.ntmps168
        go_wp2
        go_ret
        exact ⟨_, _, _, _, rfl, ho1.out, by omega, by simp, rep_lt (by omega), (Keep.refl _ _).alloc _, by omega, .inr rfl⟩
      · have h1b : ((n : Int) == 1) = false := by rw [beq_eq_false_iff_ne]; omega
        clear mk1
        go_enter Tryz.func168, Tryz.ntmps168
        go_wp2
        go_ret
        exact ⟨_, _, _, _, rfl, ho2.out, by omega, by simp, rep_lt (by omega), (Keep.refl _ _).alloc _, by omega, .inr rfl⟩

end Go.Proofs.YtmgidnjpkbgmgabGreatDoor

/- The contracts of math/big's natural numbers: setWord, set, add, sub. -/
namespace Go.Proofs.YtmgidnjpkbgmgabGreatDoor
open Go.RowKit

/-- z is x, or they share no memory -/
def Sep (zv xv : Value) : Prop := zv = xv ∨ ∀ g, zv.ownBlock = some g → xv.ownBlock ≠ some g

theorem Sep.nil (xv : Value) : Sep (.slice none 0 0) xv := .inr (fun g h => by simp [Value.ownBlock] at h)

/-- where make's room lies -/
def At (w : World) (zv : Value) (g off : Nat) : Prop := (∃ n0 c0, zv = .slice (some ⟨g, off, none⟩) n0 c0) ∨ g = w.heap.size

theorem Made.split {w w' : World} {zv : Value} {n : Nat} {e : Ending} (h : Made w zv n e w') :
    ∃ g off cap L, e = .returned (.slice (some ⟨g, off, none⟩) n cap) ∧ Hid (Blk .u64 w' g L) ∧ n ≤ cap ∧ Hid (off + cap ≤ L.length) ∧ Hid (∀ x ∈ L, x < 18446744073709551616) ∧ Hid (Fresh w w') ∧ Hid (At w zv g off) ∧ cap ≤ 9223372036854775807 := by
  obtain ⟨g, off, cap, L, he, hb, h1, h2, h3, h4, h6, h5⟩ := h
  refine ⟨g, off, cap, L, he, hb, h1, h2, h3, h4, ?_, h6⟩
  rcases h5 with ⟨_, h⟩ | h
  · exact .inl h
  · exact .inr h

theorem NatOp.of {w w1 w2 : World} {zv rv : Value} {l : List Nat} {g off : Nat} (ha : At w zv g off) (hf : Fresh w w1) (hk : Keep (· = g) w1 w2) (hn : NatAt w2 rv l) (hr : ∀ k, rv.ownBlock = some k → k = g) : NatOp w zv rv l w2 := by
  have hz : ∀ k, k < w.heap.size → k = g → zv.ownBlock = some k := by
    rintro k hk rfl
    rcases ha with ⟨n0, c0, rfl⟩ | h
    · rfl
    · omega
  refine ⟨hn, hf.trans hk (fun _ _ h => h.elim) hz, fun k hk => ?_⟩
  obtain rfl := hr k hk
  by_cases h : k < w.heap.size
  · exact .inl (hz k h rfl)
  · exact .inr (by omega)

/-- x lies apart from make's room, or begins with it -/
theorem At.apart {w : World} {zv : Value} {g off : Nat} (ha : At w zv g off) {gx ox nx cx : Nat} (hs : Sep zv (.slice (some ⟨gx, ox, none⟩) nx cx)) (hx : gx < w.heap.size) : gx ≠ g ∨ ox = off := by
  rcases ha with ⟨n0, c0, rfl⟩ | h
  · rcases hs with h | h
    · simp only [Value.slice.injEq, Option.some.injEq, Addr.mk.injEq] at h
      exact .inr h.1.2.1.symm
    · exact .inl (fun e => by subst e; exact h gx rfl rfl)
  · exact .inl (by omega)

theorem NatAt.slice0 {w : World} {v : Value} {l : List Nat} {a : Option Addr} {n c : Nat} (h : NatAt w v l) (hv : v = .slice a n c) : NatAt w (.slice a 0 c) [] := by
  refine ⟨⟨by simp, by subst hv; exact h.cap⟩, ?_⟩
  rcases h.2 with ⟨rfl, rfl⟩ | ⟨g, off, cap, L, rfl, bk, h1, h2, h3, h4⟩
  · simp only [Value.slice.injEq] at hv
    obtain ⟨rfl, rfl, rfl⟩ := hv
    exact .inl ⟨rfl, rfl⟩
  · simp only [Value.slice.injEq] at hv
    obtain ⟨rfl, rfl, rfl⟩ := hv
    exact .inr ⟨g, off, cap, L, rfl, bk, by simp, h2, by simp [seg_zero], h4⟩

theorem NatRet.empty {w : World} {zv : Value} {zl : List Nat} {a : Option Addr} {n c : Nat} (h : NatAt w zv zl) (hv : zv = .slice a n c) : NatRet w zv 0 (.returned (.slice a 0 c)) w :=
  ⟨_, [], rfl, ⟨h.slice0 hv, Keep.refl _ _, fun k hk => .inl (by rw [hv]; cases a <;> exact hk)⟩, Norm.nil, rfl⟩

set_option maxHeartbeats 400000 in
theorem setWord_any (zv : Value) (zl : List Nat) (x : Nat) (w : World) (hx : x < 18446744073709551616) (h : NatAt w zv zl) :
    Calls Tryz.prog 167 #[zv, .int .u64 x] w (NatRet w zv x) := by
  by_cases hx0 : x = 0
  · have ht : ((x : Int) == 0) = true := by subst hx0; rfl
    obtain ⟨a, c, hv⟩ := h.form
    have hr : NatRet w zv x (.returned (.slice a 0 c)) w := by rw [hx0]; exact NatRet.empty h hv
    generalize zl.length = n at *
    subst hv
    have H_hx0 := Lib.hid hx0; clear hx0
    have H_h := Lib.hid h; clear h
    have H_hr := Lib.hid hr; clear hr
    go_enter Tryz.func167, Tryz.ntmps167
    go_wp2
    go_ret
    exact H_hr.out
  · have ht : ((x : Int) == 0) = false := by rw [beq_eq_false_iff_ne]; omega
    have hm := make_any zv zl 1 w (by omega) (by omega) h
    have H_hx0 := Lib.hid hx0; clear hx0
    have H_h := Lib.hid h; clear h
    have H_hm := Lib.hid hm; clear hm
    go_enter Tryz.func167, Tryz.ntmps167
    go_wp2_with (fail)
    refine H_hm.out.mono ?_
    intro e w1 hm
    obtain ⟨g, off, cap, L, rfl, hb, h1, h2, h3, h4, h5, hcap⟩ := hm.split
    clear hm
    have c1 := hb.out.cell (o := off) (by have := h2.out; omega)
    have c2 := hb.out.frozen off
    go_wp2
    go_ret
    have p := (Puts.refl hb.out).set off x
    have hn : ∀ y ∈ L.set off x, y < 18446744073709551616 := fun y hy => by
      rcases List.mem_or_eq_of_mem_set hy with h | h
      · exact h3.out y h
      · omega
    have hna := NatAt.mk (n := 1) hcap p.blk h1 (by rw [List.length_set]; exact h2.out) hn
    have e1 : seg (L.set off x) off 1 = [x] := by
      have := h2.out
      rw [seg_head (by rw [List.length_set]; omega), seg_zero, getD_set _ _ _ _ (by omega), if_pos rfl]
    rw [e1] at hna
    refine ⟨_, [x], rfl, NatOp.of h5.out h4.out p.keep hna (fun k hk => by simpa [Value.ownBlock] using hk.symm), ?_, by simp [val]⟩
    intro k hk
    simp at hk; subst hk
    exact H_hx0.out

theorem make_zero (a : Option Addr) (n c : Nat) (w : World) :
    Calls Tryz.prog 168 #[.slice a n c, .int .i64 0] w fun e w' => e = .returned (.slice a 0 c) ∧ w = w' := by
  go_enter Tryz.func168, Tryz.ntmps168
  go_wp2
  go_ret
  exact ⟨rfl, rfl⟩

set_option maxRecDepth 20000 in
set_option maxHeartbeats 400000 in
theorem set_any (zv xv : Value) (zl xl : List Nat) (w : World) (hn : xl.length ≤ 1000000) (h : NatAt w zv zl) (hx : NatAt w xv xl) (hs : Sep zv xv) :
    Calls Tryz.prog 160 #[zv, xv] w fun e w' => ∃ rv, e = .returned rv ∧ NatOp w zv rv xl w' := by
  by_cases h0 : xl.length = 0
  · obtain ⟨a, c, hv⟩ := h.form
    obtain ⟨ax, cx, hxv⟩ := hx.form
    obtain rfl : xl = [] := List.eq_nil_of_length_eq_zero h0
    generalize zl.length = n at *
    subst hv hxv
    have hr := h.slice0 rfl
    have H_h := Lib.hid h; clear h
    have H_hx := Lib.hid hx; clear hx
    have H_hs := Lib.hid hs; clear hs
    have H_hr := Lib.hid hr; clear hr
    go_enter Tryz.func160, Tryz.ntmps160
    go_wp2_with (first
      | (go_at_call 168; refine (make_zero _ _ _ _).mono ?_; rintro e w' ⟨rfl, rfl⟩)
      | (refine wpList_copy_nothing (o := ⟨some 11, _, _, _, _, _⟩) rfl (.tmp 9) (.tmp 10) 134 134 rfl 164 Tryz.underlying134 (by kernel_rfl) _ _ _ _ _ _ (by rfl) (by rfl) (by simp) ?_))
    go_ret
    exact ⟨_, rfl, H_hr.out, Keep.refl _ _, fun k hk => .inl (by cases a <;> exact hk)⟩
  · obtain ⟨gx, ox, cx, M, rfl, bx, hx1, hx2, hx3, hx4⟩ := hx.open_pos (by omega)
    have hm := make_any zv zl xl.length w (by omega) (by omega) h
    have hgx := bx.lt
    have H_h0 := Lib.hid h0; clear h0
    have H_h := Lib.hid h; clear h
    have H_hm := Lib.hid hm; clear hm
    have H_hx := Lib.hid hx; clear hx
    have H_hs := Lib.hid hs; clear hs
    have H_bx := Lib.hid bx; clear bx
    have H_hx3 := Lib.hid hx3; clear hx3
    have H_hx4 := Lib.hid hx4; clear hx4
    have H_hx2 := Lib.hid hx2; clear hx2
    go_enter Tryz.func160, Tryz.ntmps160
    go_wp2_with (fail)
    refine H_hm.out.mono ?_
    intro e w1 hm
    obtain ⟨g, off, cap, L, rfl, hb, h1, h2, h3, h4, h5, hcap⟩ := hm.split
    clear hm
    have bx1 := H_bx.out.keep h4.out (fun h => h)
    have l1 := h2.out
    have l2 := H_hx2.out
    have H_bx1 := Lib.hid bx1; clear bx1
    go_wp2_with (refine wpList_copy_puts (o := ⟨some 11, _, _, _, _, _⟩) rfl (.tmp 9) (.tmp 10) 134 134 rfl 164 Tryz.underlying134 (by kernel_rfl) _ _ _ _ _ _ (by rfl) (by rfl) g off L hb.out gx ox M H_bx1.out xl.length (by simp) (fun _ => ⟨rfl, rfl⟩) (by omega) (by omega) ?_; intro w2 hp)
    go_ret
    have hk : ∀ y ∈ spl L off (seg M ox xl.length), y < 18446744073709551616 := fun y hy => by
      rcases spl_mem hy with h | h
      · exact h3.out y h
      · exact H_hx4.out y (seg_mem h)
    have hl : (seg M ox xl.length).length = xl.length := seg_length (by omega)
    have hna := NatAt.mk (n := xl.length) hcap hp.blk h1 (by rw [spl_length (by omega)]; exact l1) hk
    have e1 : seg (spl L off (seg M ox xl.length)) off xl.length = xl := by
      have := seg_spl (L := L) (off := off) (l := seg M ox xl.length) (by omega)
      rw [hl] at this
      rw [this, ← H_hx3.out]
    rw [e1] at hna
    exact ⟨_, rfl, NatOp.of h5.out h4.out hp.keep hna (fun k hk => by simpa [Value.ownBlock] using hk.symm)⟩

end Go.Proofs.YtmgidnjpkbgmgabGreatDoor

/- The contracts of math/big's natural numbers: add, sub. -/
namespace Go.Proofs.YtmgidnjpkbgmgabGreatDoor
open Go.RowKit

theorem addVW (gz oz cz gx ox cx n y : Nat) (Lz Lx : List Nat) (w : World) (hn : 0 < n) (hlen : n ≤ 1000000)
    (bz : Blk .u64 w gz Lz) (bx : Blk .u64 w gx Lx) (hz : oz + n ≤ Lz.length) (hx : ox + n ≤ Lx.length)
    (hbx : ∀ a ∈ Lx, a < 18446744073709551616) (hy : y < 18446744073709551616) (hax : gx ≠ gz ∨ ox = oz) (hcz : n ≤ cz) (hcx : n ≤ cx) :
    Calls Tryz.prog 180 #[.slice (some ⟨gz, oz, none⟩) n cz, .slice (some ⟨gx, ox, none⟩) n cx, .int .u64 y] w
      fun e w' => e = .returned (.int .u64 ((addWs (seg Lx ox n) y).2 : Nat)) ∧ Puts .u64 gz (spl Lz oz (addWs (seg Lx ox n) y).1) w w' := by
  by_cases hg : gx = gz
  · subst hg
    obtain rfl : ox = oz := by omega
    obtain rfl := Blk.uniq bz bx
    exact addVW_same gx ox cz cx n y Lz w hn hlen bz hz hbx hy hcz hcx
  · exact addVW_apart gz oz cz gx ox cx n y Lz Lx w hn hlen bz bx hz hx hbx hy hg hcz hcx

theorem subVW (gz oz cz gx ox cx n y : Nat) (Lz Lx : List Nat) (w : World) (hn : 0 < n) (hlen : n ≤ 1000000)
    (bz : Blk .u64 w gz Lz) (bx : Blk .u64 w gx Lx) (hz : oz + n ≤ Lz.length) (hx : ox + n ≤ Lx.length)
    (hbx : ∀ a ∈ Lx, a < 18446744073709551616) (hy : y < 18446744073709551616) (hax : gx ≠ gz ∨ ox = oz) (hcz : n ≤ cz) (hcx : n ≤ cx) :
    Calls Tryz.prog 183 #[.slice (some ⟨gz, oz, none⟩) n cz, .slice (some ⟨gx, ox, none⟩) n cx, .int .u64 y] w
      fun e w' => e = .returned (.int .u64 ((subWs (seg Lx ox n) y).2 : Nat)) ∧ Puts .u64 gz (spl Lz oz (subWs (seg Lx ox n) y).1) w w' := by
  by_cases hg : gx = gz
  · subst hg
    obtain rfl : ox = oz := by omega
    obtain rfl := Blk.uniq bz bx
    exact subVW_same gx ox cz cx n y Lz w hn hlen bz hz hbx hy hcz hcx
  · exact subVW_apart gz oz cz gx ox cx n y Lz Lx w hn hlen bz bx hz hx hbx hy hg hcz hcx

/-- the words of a sum of two numbers, the first one of which is not shorter -/
def addNs (xs ys : List Nat) : List Nat := (addVs (xs.take ys.length) ys 0).1 ++ (addWs (xs.drop ys.length) (addVs (xs.take ys.length) ys 0).2).1 ++ [(addWs (xs.drop ys.length) (addVs (xs.take ys.length) ys 0).2).2]

theorem addNs_val {xs ys : List Nat} (h : ys.length ≤ xs.length) : val (addNs xs ys) = val xs + val ys := by
  have hl : (xs.take ys.length).length = ys.length := by simp; omega
  have e1 := addVs_val (xs.take ys.length) ys 0 hl
  have e2 := addWs_val (xs.drop ys.length) (addVs (xs.take ys.length) ys 0).2
  have e3 : val xs = val (xs.take ys.length) + wpow ys.length * val (xs.drop ys.length) := by
    have := val_append (xs.take ys.length) (xs.drop ys.length)
    rw [List.take_append_drop, hl] at this; exact this
  unfold addNs
  rw [val_append, val_append, List.length_append, addVs_length _ _ _ hl, addWs_length, hl, wpow_add]
  rw [hl] at e1
  simp only [val, Nat.mul_zero, Nat.add_zero]
  generalize (addVs (xs.take ys.length) ys 0).2 = c at *
  generalize (addWs (xs.drop ys.length) c).2 = d at *
  generalize val (addWs (xs.drop ys.length) c).1 = v2 at *
  generalize wpow (xs.drop ys.length).length = p2 at *
  generalize wpow ys.length = p1 at *
  grind

theorem addNs_length {xs ys : List Nat} (h : ys.length ≤ xs.length) : (addNs xs ys).length = xs.length + 1 := by
  have hl : (xs.take ys.length).length = ys.length := by simp; omega
  unfold addNs
  simp only [List.length_append, addVs_length _ _ _ hl, addWs_length, hl, List.length_drop, List.length_cons, List.length_nil]
  omega

theorem addNs_lt {xs ys : List Nat} (hx : ∀ a ∈ xs, a < 18446744073709551616) (hy : ∀ a ∈ ys, a < 18446744073709551616) : ∀ a ∈ addNs xs ys, a < 18446744073709551616 := by
  intro a ha
  unfold addNs at ha
  simp only [List.mem_append, List.mem_singleton] at ha
  rcases ha with (ha | ha) | ha
  · exact addVs_lt _ _ _ a ha
  · exact addWs_lt _ _ a ha
  · have := addWs_carry (xs.drop ys.length) (addVs (xs.take ys.length) ys 0).2 (fun a ha => hx a (List.mem_of_mem_drop ha)) (addVs_carry _ _ _ (fun a ha => hx a (List.mem_of_mem_take ha)) hy (by omega))
    omega

/-- a written row, read as a nat -/
theorem NatAt.spl {w : World} {g off cap : Nat} {L l : List Nat} (hc : cap ≤ 9223372036854775807) (h : Blk .u64 w g (spl L off l)) (h1 : l.length ≤ cap) (h2 : off + cap ≤ L.length) (hL : ∀ x ∈ L, x < 18446744073709551616) (hl : ∀ x ∈ l, x < 18446744073709551616) :
    NatAt w (.slice (some ⟨g, off, none⟩) l.length cap) l := by
  have := NatAt.mk (n := l.length) hc h h1 (by rw [spl_length (by omega)]; exact h2) (fun x hx => by
    rcases spl_mem hx with h | h
    · exact hL x h
    · exact hl x h)
  rw [seg_spl (by omega)] at this
  exact this

set_option maxRecDepth 20000 in
set_option maxHeartbeats 1000000 in
theorem add_ge (zv xv yv : Value) (zl xl yl : List Nat) (w : World) (hn : xl.length < 1000000) (hy0 : 0 < yl.length) (hyx : yl.length ≤ xl.length) (h : NatAt w zv zl) (hx : NatAt w xv xl) (hy : NatAt w yv yl) (hsx : Sep zv xv) (hsy : Sep zv yv) :
    Calls Tryz.prog 155 #[zv, xv, yv] w (NatRet w zv (val xl + val yl)) := by
  obtain ⟨gx, ox, cx, M, rfl, bx, hx1, hx2, hx3, hx4⟩ := hx.open_pos (by omega)
  obtain ⟨gy, oy, cy, K, rfl, by_, hy1, hy2, hy3, hy4⟩ := hy.open_pos (by omega)
  have hm := make_any zv zl (xl.length + 1) w (by omega) (by omega) h
  have hgx := bx.lt
  have hgy := by_.lt
  have hxb := hx.bnd
  have hyb := hy.bnd
  have hm0 : ((xl.length : Int) == 0) = false := by rw [beq_eq_false_iff_ne]; omega
  have hy0' : ((yl.length : Int) == 0) = false := by rw [beq_eq_false_iff_ne]; omega
  generalize hml : xl.length = m at *
  generalize hnl : yl.length = n at *
  have hlt : ¬ m < n := by omega
  have hnx : (n : Int) ≤ (cx : Int) := by omega
  have hny : (n : Int) ≤ (cy : Int) := by omega
  have hn0 : (0 : Int) ≤ (n : Int) := by omega
  have H_h := Lib.hid h; clear h
  have H_hm := Lib.hid hm; clear hm
  have H_hx := Lib.hid hx; clear hx
  have H_hy := Lib.hid hy; clear hy
  have H_hsx := Lib.hid hsx; clear hsx
  have H_hsy := Lib.hid hsy; clear hsy
  have H_bx := Lib.hid bx; clear bx
  have H_by_ := Lib.hid by_; clear by_
  have H_hx3 := Lib.hid hx3; clear hx3
  have H_hx4 := Lib.hid hx4; clear hx4
  have H_hx2 := Lib.hid hx2; clear hx2
  have H_hy3 := Lib.hid hy3; clear hy3
  have H_hy4 := Lib.hid hy4; clear hy4
  have H_hy2 := Lib.hid hy2; clear hy2
  have H_hml := Lib.hid hml; clear hml
  have H_hnl := Lib.hid hnl; clear hnl
  have H_hxb := Lib.hid hxb; clear hxb
  have H_hyb := Lib.hid hyb; clear hyb
  go_enter Tryz.func155, Tryz.ntmps155
  go_wp2_with (fail)
  refine H_hm.out.mono ?_
  intro e w1 hm
  obtain ⟨g, off, cap, L, rfl, hb, h1, h2, h3, h4, h5, hcap⟩ := hm.split
  clear hm
  have hnz : (n : Int) ≤ (cap : Int) := by omega
  go_wp2_with (fail)
  go_still_tail 9, (by kernel_rfl)
  change wpList _ _ _ _ _ (World.drew _)
  have b1 := hb.out.drew
  have k1 := h4.out.drew
  have H_b1 := Lib.hid b1; clear b1
  have H_k1 := Lib.hid k1; clear k1
  generalize World.drew w1 = w2 at *
  have bx1 := H_bx.out.keep H_k1.out (fun h => h)
  have by1 := H_by_.out.keep H_k1.out (fun h => h)
  have H_bx1 := Lib.hid bx1; clear bx1
  have H_by1 := Lib.hid by1; clear by1
  have hadd := addVV g off cap gx ox cx gy oy cy n L M K w2 (by omega) H_b1.out H_bx1.out H_by1.out (by have := h2.out; omega) (by have := H_hx2.out; omega) (by have := H_hy2.out; omega) H_hx4.out H_hy4.out
    (by have := h5.out.apart H_hsx.out hgx; omega) (by have := h5.out.apart H_hsy.out hgy; omega)
  have H_hadd := Lib.hid hadd; clear hadd
  go_wp2_with (fail)
  refine H_hadd.out.mono ?_
  rintro e w3 ⟨rfl, hp⟩
  have ex : seg M ox n = xl.take yl.length := by rw [H_hx3.out, H_hnl.out]; exact (seg_take (by omega)).symm
  have ey : seg K oy n = yl := H_hy3.out.symm
  have ed : seg M (ox + n) (m - n) = xl.drop yl.length := by
    rw [H_hnl.out, H_hx3.out]
    have hs := seg_split (L := M) (off := ox) (n := m) (m := n) (by omega) (by have := H_hx2.out; omega)
    rw [hs, List.drop_append_of_le_length (by rw [seg_length (by have := H_hx2.out; omega)]; exact Nat.le_refl _), List.drop_eq_nil_of_le (by rw [seg_length (by have := H_hx2.out; omega)]; exact Nat.le_refl _), List.nil_append]
  have hl1 : (addVs (xl.take yl.length) yl 0).1.length = n := by
    have := H_hml.out; have := H_hnl.out
    rw [addVs_length _ _ _ (by simp; omega)]; simp; omega
  have hc1 := addVs_carry (xl.take yl.length) yl 0 (fun a ha => H_hxb.out a (List.mem_of_mem_take ha)) H_hyb.out (by omega)
  rw [ex, ey] at hp ⊢
  have hN : addNs xl yl = (addVs (xl.take yl.length) yl 0).1 ++ (addWs (xl.drop yl.length) (addVs (xl.take yl.length) yl 0).2).1 ++ [(addWs (xl.drop yl.length) (addVs (xl.take yl.length) yl 0).2).2] := rfl
  have hNl := addNs_lt H_hxb.out H_hyb.out
  have hNn : (addNs xl yl).length = m + 1 := by
    have := H_hml.out; have := H_hnl.out
    rw [addNs_length (by omega)]; omega
  generalize hr1 : addVs (xl.take yl.length) yl 0 = r1 at *
  obtain ⟨s1, c1⟩ := r1
  simp only at hp hl1 hc1 hN
  -- what stands at the end, one way or the other
  have fin : ∀ w5, Puts .u64 g (spl L off (addNs xl yl)) w2 w5 → Calls Tryz.prog 181 #[.slice (some ⟨g, off, none⟩) (m + 1) cap] w5 (NatRet w zv (val xl + val yl)) := by
    intro w5 hp5
    have hna : NatAt w5 (.slice (some ⟨g, off, none⟩) (m + 1) cap) (addNs xl yl) := by
      have := NatAt.spl hcap hp5.blk (cap := cap) (by omega) h2.out h3.out hNl
      rw [hNn] at this; exact this
    refine (norm_any _ _ _ (by omega) hna).mono ?_
    rintro e w6 ⟨rv, l, rfl, h6, hnorm, hval, hown, rfl⟩
    refine ⟨rv, l, rfl, NatOp.of h5.out (H_k1.out) hp5.keep h6 (fun k hk => by have := hown k hk; simpa [Value.ownBlock] using this.symm), hnorm, ?_⟩
    rw [hval, addNs_val (by have := H_hml.out; have := H_hnl.out; omega)]
  have H_fin := Lib.hid fin; clear fin
  have H_hp := Lib.hid hp; clear hp
  have H_ex := Lib.hid ex; clear ex
  have H_ey := Lib.hid ey; clear ey
  have H_ed := Lib.hid ed; clear ed
  have H_hl1 := Lib.hid hl1; clear hl1
  have H_hc1 := Lib.hid hc1; clear hc1
  have H_hN := Lib.hid hN; clear hN
  have H_hNl := Lib.hid hNl; clear hNl
  have H_hNn := Lib.hid hNn; clear hNn
  have H_hr1 := Lib.hid hr1; clear hr1
  by_cases hnm : n < m
  · go_wp2_with (fail)
    have hnx' : (n : Int) ≤ (m : Int) := by omega
    have hnz' : (m : Int) ≤ (cap : Int) := by omega
    have hm1' : (m : Int) ≤ (m : Int) + 1 := by omega
    go_still_tail 8, (by kernel_rfl)
    change wpList _ _ _ _ _ (World.drew _)
    have p2 := H_hp.out.drew
    have H_p2 := Lib.hid p2; clear p2
    clear hnx' hnz' hm1'
    generalize World.drew w3 = w4 at *
    obtain ⟨M', bx4, hM', hMl, hMb⟩ : ∃ M', Blk .u64 w4 gx M' ∧ seg M' (ox + n) (m - n) = xl.drop yl.length ∧ ox + m ≤ M'.length ∧ (∀ a ∈ M', a < 18446744073709551616) := by
      have l1 := H_hl1.out; have l2 := H_hx2.out; have l3 := h2.out
      by_cases e : gx = g
      · subst e
        have eo : ox = off := by have := h5.out.apart H_hsx.out hgx; omega
        subst eo
        obtain rfl := Blk.uniq H_bx1.out H_b1.out
        refine ⟨_, H_p2.out.blk, ?_, by rw [spl_length (by omega)]; omega, fun a ha => ?_⟩
        · rw [← H_ed.out]
          refine seg_ext (by rw [spl_length (by omega)]; omega) (by omega) (fun j hj => ?_)
          rw [spl_getD (by omega), if_neg (by omega)]
        · rcases spl_mem ha with h | h
          · exact h3.out a h
          · have := addVs_lt (xl.take yl.length) yl 0; rw [H_hr1.out] at this; exact this a h
      · exact ⟨M, H_p2.out.other e H_bx1.out, H_ed.out, by omega, H_hx4.out⟩
    have hadd2 := addVW g (off + n) (cap - n) gx (ox + n) (cx - n) (m - n) c1 _ M' w4 (by omega) (by omega) H_p2.out.blk bx4 (by have := H_hl1.out; have := h2.out; rw [spl_length (by omega)]; omega) (by omega) hMb (by have := H_hc1.out; omega)
      (by have := h5.out.apart H_hsx.out hgx; omega) (by omega) (by omega)
    rw [hM', spl_spl (by rw [H_hl1.out]) (by
      have := H_hl1.out; have := h2.out; have := H_hml.out; have := H_hnl.out
      rw [addWs_length, List.length_drop]; omega)] at hadd2
    have H_hadd2 := Lib.hid hadd2; clear hadd2
    have H_bx4 := Lib.hid bx4; clear bx4
    have H_hM' := Lib.hid hM'; clear hM'
    have H_hMl := Lib.hid hMl; clear hMl
    have H_hMb := Lib.hid hMb; clear hMb
    go_wp2_with (fail)
    refine H_hadd2.out.mono ?_
    rintro e w5 ⟨rfl, hp5⟩
    have p5 := H_p2.out.trans hp5
    have hl2 : (s1 ++ (addWs (xl.drop yl.length) c1).1).length = m := by
      have := H_hl1.out; have := H_hml.out; have := H_hnl.out
      rw [List.length_append, addWs_length, List.length_drop]; omega
    have c1' := p5.blk.cell (o := off + m) (by have := h2.out; rw [spl_length (by omega)]; omega)
    have c2' := p5.blk.frozen (off + m)
    have p6 := p5.set (off + m) (addWs (xl.drop yl.length) c1).2
    rw [spl_set (by rw [hl2]) (by have := h2.out; omega), ← H_hN.out] at p6
    generalize (addWs (xl.drop yl.length) c1).2 = d at *
    generalize (spl L off (s1 ++ (addWs (xl.drop yl.length) c1).1)).getD (off + m) 0 = z9 at *
    have H_p6 := Lib.hid p6; clear p6
    have H_p5 := Lib.hid p5; clear p5
    have H_hp5 := Lib.hid hp5; clear hp5
    have H_hl2 := Lib.hid hl2; clear hl2
    go_wp2_with (fail)
    refine (H_fin.out _ H_p6.out).mono ?_
    rintro e w7 h7
    obtain ⟨rv, l, rfl, h7⟩ := h7
    have H_h7 := Lib.hid h7; clear h7
    go_wp2
    go_ret
    exact ⟨rv, l, rfl, H_h7.out⟩
  · have p5 := H_hp.out
    have c1' := p5.blk.cell (o := off + m) (by have := H_hl1.out; have := h2.out; rw [spl_length (by omega)]; omega)
    have c2' := p5.blk.frozen (off + m)
    have p6 := p5.set (off + m) c1
    have hd : xl.drop yl.length = [] := List.drop_eq_nil_of_le (by have := H_hml.out; have := H_hnl.out; omega)
    have hN := H_hN.out
    rw [hd] at hN
    simp only [addWs, List.append_nil] at hN
    rw [spl_set (by rw [H_hl1.out]; omega) (by have := h2.out; omega), ← hN] at p6
    generalize (spl L off s1).getD (off + m) 0 = z9 at *
    clear hd
    have H_p6 := Lib.hid p6; clear p6
    have H_p5 := Lib.hid p5; clear p5
    have H_hN := Lib.hid hN; clear hN
    go_wp2_with (fail)
    refine (H_fin.out _ H_p6.out).mono ?_
    rintro e w7 h7
    obtain ⟨rv, l, rfl, h7⟩ := h7
    have H_h7 := Lib.hid h7; clear h7
    go_wp2
    go_ret
    exact ⟨rv, l, rfl, H_h7.out⟩

theorem NatRet.own {w : World} {zv : Value} {n : Nat} {e : Ending} {w' : World} (h : NatRet w zv n e w') : ∃ rv, e = .returned rv ∧ NatRet w zv n (.returned rv) w' := by
  obtain ⟨rv, l, rfl, h⟩ := h
  exact ⟨rv, rfl, rv, l, rfl, h⟩

set_option maxRecDepth 20000 in
set_option maxHeartbeats 1000000 in
theorem add_ge' (zv xv yv : Value) (zl xl yl : List Nat) (w : World) (hn : xl.length < 1000000) (hyx : yl.length ≤ xl.length) (h : NatAt w zv zl) (hx : NatAt w xv xl) (hy : NatAt w yv yl) (hnx : Norm xl) (hsx : Sep zv xv) (hsy : Sep zv yv) :
    Calls Tryz.prog 155 #[zv, xv, yv] w (NatRet w zv (val xl + val yl)) := by
  by_cases hy0 : yl.length = 0
  · obtain ⟨a, c, hv⟩ := h.form
    obtain ⟨ax, cx, hxv⟩ := hx.form
    obtain ⟨ay, cy, hyv⟩ := hy.form
    have hyl : yl = [] := List.eq_nil_of_length_eq_zero hy0
    have hr := NatRet.empty h hv
    have hset := set_any zv xv zl xl w (by omega) h hx hsx
    rw [hyl]
    have e0 : val xl + val [] = val xl := rfl
    rw [e0]
    rw [hy0] at hyv
    by_cases hx0 : xl.length = 0
    · have hxl : xl = [] := List.eq_nil_of_length_eq_zero hx0
      rw [hxl]
      rw [hx0] at hxv
      subst hxv hyv
      generalize zl.length = n at *
      subst hv
      have H_h := Lib.hid h; clear h
      have H_hx := Lib.hid hx; clear hx
      have H_hy := Lib.hid hy; clear hy
      have H_hsx := Lib.hid hsx; clear hsx
      have H_hsy := Lib.hid hsy; clear hsy
      have H_hset := Lib.hid hset; clear hset
      have H_hr := Lib.hid hr; clear hr
      have H_hnx := Lib.hid hnx; clear hnx
      have H_hxl := Lib.hid hxl; clear hxl
      have H_hyl := Lib.hid hyl; clear hyl
      clear hyx hn hy0 hx0
      go_enter Tryz.func155, Tryz.ntmps155
      go_wp2
      go_ret
      exact H_hr.out
    · have hm0 : ((xl.length : Int) == 0) = false := by rw [beq_eq_false_iff_ne]; omega
      generalize hml : xl.length = m at *
      have hpos : 0 < m := by omega
      subst hxv hyv
      clear hv hr
      have H_h := Lib.hid h; clear h
      have H_hx := Lib.hid hx; clear hx
      have H_hy := Lib.hid hy; clear hy
      have H_hsx := Lib.hid hsx; clear hsx
      have H_hsy := Lib.hid hsy; clear hsy
      have H_hset := Lib.hid hset; clear hset
      have H_hnx := Lib.hid hnx; clear hnx
      have H_hyl := Lib.hid hyl; clear hyl
      have H_hml := Lib.hid hml; clear hml
      clear hyx hy0 hx0
      go_enter Tryz.func155, Tryz.ntmps155
      go_wp2_with (fail)
      refine H_hset.out.mono ?_
      rintro e w1 ⟨rv, rfl, hop⟩
      have H_hop := Lib.hid hop; clear hop
      go_wp2
      go_ret
      exact ⟨rv, xl, rfl, H_hop.out, H_hnx.out, rfl⟩
  · exact add_ge zv xv yv zl xl yl w hn (by omega) hyx h hx hy hsx hsy

set_option maxRecDepth 20000 in
set_option maxHeartbeats 1000000 in
theorem nat_add (zv xv yv : Value) (zl xl yl : List Nat) (w : World) (hn : xl.length < 1000000) (hn' : yl.length < 1000000) (h : NatAt w zv zl) (hx : NatAt w xv xl) (hy : NatAt w yv yl) (hnx : Norm xl) (hny : Norm yl) (hsx : Sep zv xv) (hsy : Sep zv yv) :
    Calls Tryz.prog 155 #[zv, xv, yv] w (NatRet w zv (val xl + val yl)) := by
  by_cases hlt : xl.length < yl.length
  · have hr := add_ge' zv yv xv zl yl xl w hn' (by omega) h hy hx hny hsy hsx
    rw [Nat.add_comm] at hr
    obtain ⟨ax, cx, hxv⟩ := hx.form
    obtain ⟨ay, cy, hyv⟩ := hy.form
    generalize xl.length = m at *
    generalize yl.length = n at *
    subst hxv hyv
    have H_h := Lib.hid h; clear h
    have H_hx := Lib.hid hx; clear hx
    have H_hy := Lib.hid hy; clear hy
    have H_hsx := Lib.hid hsx; clear hsx
    have H_hsy := Lib.hid hsy; clear hsy
    have H_hr := Lib.hid hr; clear hr
    have H_hnx := Lib.hid hnx; clear hnx
    have H_hny := Lib.hid hny; clear hny
    go_enter Tryz.func155, Tryz.ntmps155
    go_wp2_with (fail)
    refine H_hr.out.mono ?_
    intro e w1 h1
    obtain ⟨rv, rfl, h1⟩ := h1.own
    have H_h1 := Lib.hid h1; clear h1
    go_wp2
    go_ret
    exact H_h1.out
  · exact add_ge' zv xv yv zl xl yl w hn (by omega) h hx hy hnx hsx hsy

/-- the words of a difference of two numbers, the first one of which is not shorter -/
def subNs (xs ys : List Nat) : List Nat := (subVs (xs.take ys.length) ys 0).1 ++ (subWs (xs.drop ys.length) (subVs (xs.take ys.length) ys 0).2).1

theorem subNs_length {xs ys : List Nat} (h : ys.length ≤ xs.length) : (subNs xs ys).length = xs.length := by
  have hl : (xs.take ys.length).length = ys.length := by simp; omega
  unfold subNs
  simp only [List.length_append, subVs_length _ _ _ hl, subWs_length, hl, List.length_drop]
  omega

theorem subNs_lt (xs ys : List Nat) : ∀ a ∈ subNs xs ys, a < 18446744073709551616 := by
  intro a ha
  unfold subNs at ha
  simp only [List.mem_append] at ha
  rcases ha with ha | ha
  · exact subVs_lt _ _ _ a ha
  · exact subWs_lt _ _ a ha

theorem subNs_val {xs ys : List Nat} (h : ys.length ≤ xs.length) (hx : ∀ a ∈ xs, a < 18446744073709551616) (hy : ∀ a ∈ ys, a < 18446744073709551616) (hv : val ys ≤ val xs) :
    val (subNs xs ys) = val xs - val ys ∧ (subWs (xs.drop ys.length) (subVs (xs.take ys.length) ys 0).2).2 = 0 := by
  have hl : (xs.take ys.length).length = ys.length := by simp; omega
  have hc := subVs_carry (xs.take ys.length) ys 0 (by omega)
  have e1 := subVs_val (xs.take ys.length) ys 0 hl (fun a ha => hx a (List.mem_of_mem_take ha)) hy (by omega)
  have e2 := subWs_val (xs.drop ys.length) (subVs (xs.take ys.length) ys 0).2 (fun a ha => hx a (List.mem_of_mem_drop ha)) (by omega)
  have hd := subWs_carry (xs.drop ys.length) (subVs (xs.take ys.length) ys 0).2 hc
  have e3 : val xs = val (xs.take ys.length) + wpow ys.length * val (xs.drop ys.length) := by
    have := val_append (xs.take ys.length) (xs.drop ys.length)
    rw [List.take_append_drop, hl] at this; exact this
  have e4 := val_lt (subNs_lt xs ys)
  rw [subNs_length h] at e4
  have e5 : wpow xs.length = wpow ys.length * wpow (xs.drop ys.length).length := by rw [← wpow_add]; congr 1; simp; omega
  unfold subNs at e4 ⊢
  rw [val_append, subVs_length _ _ _ hl, hl] at e4 ⊢
  rw [hl] at e1
  generalize (subVs (xs.take ys.length) ys 0).2 = c at *
  generalize (subWs (xs.drop ys.length) c).2 = d at *
  generalize val (subWs (xs.drop ys.length) c).1 = v2 at *
  generalize val (subVs (xs.take ys.length) ys 0).1 = v1 at *
  generalize val (xs.take ys.length) = t1 at *
  generalize val (xs.drop ys.length) = t2 at *
  generalize wpow (xs.drop ys.length).length = p2 at *
  generalize wpow ys.length = p1 at *
  have key : v1 + p1 * v2 + val ys = val xs + wpow xs.length * d := by
    have : p1 * (v2 + c) = p1 * (t2 + p2 * d) := by rw [e2]
    grind
  have : d = 0 := by
    rcases Nat.eq_zero_or_pos d with h | h
    · exact h
    · have : wpow xs.length * 1 ≤ wpow xs.length * d := Nat.mul_le_mul_left _ h
      omega
  subst this
  exact ⟨by omega, rfl⟩

set_option maxRecDepth 20000 in
set_option maxHeartbeats 1000000 in
theorem sub_pos (zv xv yv : Value) (zl xl yl : List Nat) (w : World) (hn : xl.length < 1000000) (hy0 : 0 < yl.length) (hyx : yl.length ≤ xl.length) (hle : val yl ≤ val xl) (h : NatAt w zv zl) (hx : NatAt w xv xl) (hy : NatAt w yv yl) (hsx : Sep zv xv) (hsy : Sep zv yv) :
    Calls Tryz.prog 157 #[zv, xv, yv] w (NatRet w zv (val xl - val yl)) := by
  obtain ⟨gx, ox, cx, M, rfl, bx, hx1, hx2, hx3, hx4⟩ := hx.open_pos (by omega)
  obtain ⟨gy, oy, cy, K, rfl, by_, hy1, hy2, hy3, hy4⟩ := hy.open_pos (by omega)
  have hm := make_any zv zl xl.length w (by omega) (by omega) h
  have hgx := bx.lt
  have hgy := by_.lt
  have hxb := hx.bnd
  have hyb := hy.bnd
  have hsub := subNs_val hyx hxb hyb hle
  have hm0 : ((xl.length : Int) == 0) = false := by rw [beq_eq_false_iff_ne]; omega
  have hy0' : ((yl.length : Int) == 0) = false := by rw [beq_eq_false_iff_ne]; omega
  generalize hml : xl.length = m at *
  generalize hnl : yl.length = n at *
  have hlt : ¬ m < n := by omega
  have hnx : (n : Int) ≤ (cx : Int) := by omega
  have hny : (n : Int) ≤ (cy : Int) := by omega
  have hn0 : (0 : Int) ≤ (n : Int) := by omega
  have H_h := Lib.hid h; clear h
  have H_hm := Lib.hid hm; clear hm
  have H_hx := Lib.hid hx; clear hx
  have H_hy := Lib.hid hy; clear hy
  have H_hsx := Lib.hid hsx; clear hsx
  have H_hsy := Lib.hid hsy; clear hsy
  have H_bx := Lib.hid bx; clear bx
  have H_by_ := Lib.hid by_; clear by_
  have H_hx3 := Lib.hid hx3; clear hx3
  have H_hx4 := Lib.hid hx4; clear hx4
  have H_hx2 := Lib.hid hx2; clear hx2
  have H_hy3 := Lib.hid hy3; clear hy3
  have H_hy4 := Lib.hid hy4; clear hy4
  have H_hy2 := Lib.hid hy2; clear hy2
  have H_hml := Lib.hid hml; clear hml
  have H_hnl := Lib.hid hnl; clear hnl
  have H_hxb := Lib.hid hxb; clear hxb
  have H_hyb := Lib.hid hyb; clear hyb
  have H_hsub := Lib.hid hsub; clear hsub
  have H_hle := Lib.hid hle; clear hle
  go_enter Tryz.func157, Tryz.ntmps157
  go_wp2_with (fail)
  refine H_hm.out.mono ?_
  intro e w1 hm
  obtain ⟨g, off, cap, L, rfl, hb, h1, h2, h3, h4, h5, hcap⟩ := hm.split
  clear hm
  have hnz : (n : Int) ≤ (cap : Int) := by omega
  go_wp2_with (fail)
  go_still_tail 9, (by kernel_rfl)
  change wpList _ _ _ _ _ (World.drew _)
  have b1 := hb.out.drew
  have k1 := h4.out.drew
  have H_b1 := Lib.hid b1; clear b1
  have H_k1 := Lib.hid k1; clear k1
  generalize World.drew w1 = w2 at *
  have bx1 := H_bx.out.keep H_k1.out (fun h => h)
  have by1 := H_by_.out.keep H_k1.out (fun h => h)
  have H_bx1 := Lib.hid bx1; clear bx1
  have H_by1 := Lib.hid by1; clear by1
  have hadd := subVV g off cap gx ox cx gy oy cy n L M K w2 (by omega) H_b1.out H_bx1.out H_by1.out (by have := h2.out; omega) (by have := H_hx2.out; omega) (by have := H_hy2.out; omega)
    (by have := h5.out.apart H_hsx.out hgx; omega) (by have := h5.out.apart H_hsy.out hgy; omega)
  have H_hadd := Lib.hid hadd; clear hadd
  go_wp2_with (fail)
  refine H_hadd.out.mono ?_
  rintro e w3 ⟨rfl, hp⟩
  have ex : seg M ox n = xl.take yl.length := by rw [H_hx3.out, H_hnl.out]; exact (seg_take (by omega)).symm
  have ey : seg K oy n = yl := H_hy3.out.symm
  have ed : seg M (ox + n) (m - n) = xl.drop yl.length := by
    rw [H_hnl.out, H_hx3.out]
    have hs := seg_split (L := M) (off := ox) (n := m) (m := n) (by omega) (by have := H_hx2.out; omega)
    rw [hs, List.drop_append_of_le_length (by rw [seg_length (by have := H_hx2.out; omega)]; exact Nat.le_refl _), List.drop_eq_nil_of_le (by rw [seg_length (by have := H_hx2.out; omega)]; exact Nat.le_refl _), List.nil_append]
  have hl1 : (subVs (xl.take yl.length) yl 0).1.length = n := by
    have := H_hml.out; have := H_hnl.out
    rw [subVs_length _ _ _ (by simp; omega)]; simp; omega
  have hc1 := subVs_carry (xl.take yl.length) yl 0 (by omega)
  rw [ex, ey] at hp ⊢
  have hN : subNs xl yl = (subVs (xl.take yl.length) yl 0).1 ++ (subWs (xl.drop yl.length) (subVs (xl.take yl.length) yl 0).2).1 := rfl
  have hNl := subNs_lt xl yl
  have hNn : (subNs xl yl).length = m := by
    have := H_hml.out; have := H_hnl.out
    rw [subNs_length (by omega)]; omega
  have hsub := H_hsub.out
  rw [← H_hnl.out] at hsub
  clear H_hsub
  generalize hr1 : subVs (xl.take yl.length) yl 0 = r1 at *
  obtain ⟨s1, c1⟩ := r1
  simp only at hp hl1 hc1 hN hsub
  have fin : ∀ w5, Puts .u64 g (spl L off (subNs xl yl)) w2 w5 → Calls Tryz.prog 181 #[.slice (some ⟨g, off, none⟩) m cap] w5 (NatRet w zv (val xl - val yl)) := by
    intro w5 hp5
    have hna : NatAt w5 (.slice (some ⟨g, off, none⟩) m cap) (subNs xl yl) := by
      have := NatAt.spl hcap hp5.blk (cap := cap) (by omega) h2.out h3.out hNl
      rw [hNn] at this; exact this
    refine (norm_any _ _ _ (by omega) hna).mono ?_
    rintro e w6 ⟨rv, l, rfl, h6, hnorm, hval, hown, rfl⟩
    refine ⟨rv, l, rfl, NatOp.of h5.out (H_k1.out) hp5.keep h6 (fun k hk => by have := hown k hk; simpa [Value.ownBlock] using this.symm), hnorm, ?_⟩
    rw [hval, hsub.1]
  have H_fin := Lib.hid fin; clear fin
  have H_hp := Lib.hid hp; clear hp
  have H_ex := Lib.hid ex; clear ex
  have H_ey := Lib.hid ey; clear ey
  have H_ed := Lib.hid ed; clear ed
  have H_hl1 := Lib.hid hl1; clear hl1
  have H_hc1 := Lib.hid hc1; clear hc1
  have H_hN := Lib.hid hN; clear hN
  have H_hNl := Lib.hid hNl; clear hNl
  have H_hNn := Lib.hid hNn; clear hNn
  have H_hr1 := Lib.hid hr1; clear hr1
  have H_hsub := Lib.hid hsub; clear hsub
  by_cases hnm : n < m
  · go_wp2_with (fail)
    have hnx' : (n : Int) ≤ (m : Int) := by omega
    go_still_tail 7, (by kernel_rfl)
    change wpList _ _ _ _ _ (World.drew _)
    have p2 := H_hp.out.drew
    have H_p2 := Lib.hid p2; clear p2
    clear hnx'
    generalize World.drew w3 = w4 at *
    obtain ⟨M', bx4, hM', hMl, hMb⟩ : ∃ M', Blk .u64 w4 gx M' ∧ seg M' (ox + n) (m - n) = xl.drop yl.length ∧ ox + m ≤ M'.length ∧ (∀ a ∈ M', a < 18446744073709551616) := by
      have l1 := H_hl1.out; have l2 := H_hx2.out; have l3 := h2.out
      by_cases e : gx = g
      · subst e
        have eo : ox = off := by have := h5.out.apart H_hsx.out hgx; omega
        subst eo
        obtain rfl := Blk.uniq H_bx1.out H_b1.out
        refine ⟨_, H_p2.out.blk, ?_, by rw [spl_length (by omega)]; omega, fun a ha => ?_⟩
        · rw [← H_ed.out]
          refine seg_ext (by rw [spl_length (by omega)]; omega) (by omega) (fun j hj => ?_)
          rw [spl_getD (by omega), if_neg (by omega)]
        · rcases spl_mem ha with h | h
          · exact h3.out a h
          · have := subVs_lt (xl.take yl.length) yl 0; rw [H_hr1.out] at this; exact this a h
      · exact ⟨M, H_p2.out.other e H_bx1.out, H_ed.out, by omega, H_hx4.out⟩
    have hadd2 := subVW g (off + n) (cap - n) gx (ox + n) (cx - n) (m - n) c1 _ M' w4 (by omega) (by omega) H_p2.out.blk bx4 (by have := H_hl1.out; have := h2.out; rw [spl_length (by omega)]; omega) (by omega) hMb (by have := H_hc1.out; omega)
      (by have := h5.out.apart H_hsx.out hgx; omega) (by omega) (by omega)
    rw [hM', spl_spl (by rw [H_hl1.out]) (by
      have := H_hl1.out; have := h2.out; have := H_hml.out; have := H_hnl.out
      rw [subWs_length, List.length_drop]; omega), H_hsub.out.2] at hadd2
    have H_hadd2 := Lib.hid hadd2; clear hadd2
    have H_bx4 := Lib.hid bx4; clear bx4
    have H_hM' := Lib.hid hM'; clear hM'
    have H_hMl := Lib.hid hMl; clear hMl
    have H_hMb := Lib.hid hMb; clear hMb
    go_wp2_with (fail)
    refine H_hadd2.out.mono ?_
    rintro e w5 ⟨rfl, hp5⟩
    have p5 := H_p2.out.trans hp5
    rw [← H_hN.out] at p5
    have H_p5 := Lib.hid p5; clear p5
    have H_hp5 := Lib.hid hp5; clear hp5
    go_wp2_with (fail)
    refine (H_fin.out _ H_p5.out).mono ?_
    intro e w7 h7
    obtain ⟨rv, rfl, h7⟩ := h7.own
    have H_h7 := Lib.hid h7; clear h7
    go_wp2
    go_ret
    exact H_h7.out
  · have p5 := H_hp.out
    have hd : xl.drop yl.length = [] := List.drop_eq_nil_of_le (by have := H_hml.out; have := H_hnl.out; omega)
    have hN := H_hN.out
    have hs2 := H_hsub.out.2
    rw [hd] at hN hs2
    simp only [subWs, List.append_nil] at hN hs2
    rw [← hN] at p5
    clear hd
    subst hs2
    have H_p5 := Lib.hid p5; clear p5
    have H_hN := Lib.hid hN; clear hN
    go_wp2_with (fail)
    refine (H_fin.out _ H_p5.out).mono ?_
    intro e w7 h7
    obtain ⟨rv, rfl, h7⟩ := h7.own
    have H_h7 := Lib.hid h7; clear h7
    go_wp2
    go_ret
    exact H_h7.out

end Go.Proofs.YtmgidnjpkbgmgabGreatDoor

/- The contracts of math/big's natural numbers: sub, cmp, alias. -/
namespace Go.Proofs.YtmgidnjpkbgmgabGreatDoor
open Go.RowKit

theorem Norm.len_le_len {l m : List Nat} (hm : Norm m) (hl : ∀ a ∈ l, a < 18446744073709551616) (h : val m ≤ val l) : m.length ≤ l.length := by
  rcases Nat.lt_or_ge l.length m.length with h1 | h1
  · have := val_cmp_len hm hl h1; omega
  · exact h1

set_option maxRecDepth 20000 in
set_option maxHeartbeats 1000000 in
theorem nat_sub (zv xv yv : Value) (zl xl yl : List Nat) (w : World) (hn : xl.length < 1000000) (hle : val yl ≤ val xl) (h : NatAt w zv zl) (hx : NatAt w xv xl) (hy : NatAt w yv yl) (hnx : Norm xl) (hny : Norm yl) (hsx : Sep zv xv) (hsy : Sep zv yv) :
    Calls Tryz.prog 157 #[zv, xv, yv] w (NatRet w zv (val xl - val yl)) := by
  have hyx := hny.len_le_len hx.bnd hle
  by_cases hy0 : yl.length = 0
  · obtain ⟨a, c, hv⟩ := h.form
    obtain ⟨ax, cx, hxv⟩ := hx.form
    obtain ⟨ay, cy, hyv⟩ := hy.form
    have hyl : yl = [] := List.eq_nil_of_length_eq_zero hy0
    have hr := NatRet.empty h hv
    have hset := set_any zv xv zl xl w (by omega) h hx hsx
    rw [hyl]
    have e0 : val xl - val [] = val xl := rfl
    rw [e0]
    rw [hy0] at hyv
    by_cases hx0 : xl.length = 0
    · have hxl : xl = [] := List.eq_nil_of_length_eq_zero hx0
      rw [hxl]
      rw [hx0] at hxv
      subst hxv hyv
      generalize zl.length = n at *
      subst hv
      have H_h := Lib.hid h; clear h
      have H_hx := Lib.hid hx; clear hx
      have H_hy := Lib.hid hy; clear hy
      have H_hsx := Lib.hid hsx; clear hsx
      have H_hsy := Lib.hid hsy; clear hsy
      have H_hset := Lib.hid hset; clear hset
      have H_hr := Lib.hid hr; clear hr
      have H_hnx := Lib.hid hnx; clear hnx
      have H_hxl := Lib.hid hxl; clear hxl
      have H_hyl := Lib.hid hyl; clear hyl
      have H_hle := Lib.hid hle; clear hle
      have H_hny := Lib.hid hny; clear hny
      clear hyx hn hy0 hx0 e0
      go_enter Tryz.func157, Tryz.ntmps157
      go_wp2
      go_ret
      exact H_hr.out
    · have hm0 : ((xl.length : Int) == 0) = false := by rw [beq_eq_false_iff_ne]; omega
      generalize hml : xl.length = m at *
      have hpos : 0 < m := by omega
      subst hxv hyv
      clear hv hr
      have H_h := Lib.hid h; clear h
      have H_hx := Lib.hid hx; clear hx
      have H_hy := Lib.hid hy; clear hy
      have H_hsx := Lib.hid hsx; clear hsx
      have H_hsy := Lib.hid hsy; clear hsy
      have H_hset := Lib.hid hset; clear hset
      have H_hnx := Lib.hid hnx; clear hnx
      have H_hyl := Lib.hid hyl; clear hyl
      have H_hml := Lib.hid hml; clear hml
      have H_hle := Lib.hid hle; clear hle
      have H_hny := Lib.hid hny; clear hny
      have H_e0 := Lib.hid e0; clear e0
      clear hyx hy0 hx0
      go_enter Tryz.func157, Tryz.ntmps157
      go_wp2_with (fail)
      refine H_hset.out.mono ?_
      rintro e w1 ⟨rv, rfl, hop⟩
      have H_hop := Lib.hid hop; clear hop
      go_wp2
      go_ret
      exact ⟨rv, xl, rfl, H_hop.out, H_hnx.out, rfl⟩
  · exact sub_pos zv xv yv zl xl yl w hn (by omega) hyx hle h hx hy hsx hsy

theorem val_at {l : List Nat} {k : Nat} (h : k < l.length) : val l = val (l.take k) + wpow k * (l.getD k 0 + 18446744073709551616 * val (l.drop (k + 1))) := by
  have e := val_append (l.take k) (l.drop k)
  rw [List.take_append_drop] at e
  rw [e, List.drop_eq_getElem_cons h]
  simp [val, List.getD, h, Nat.min_eq_left (Nat.le_of_lt h)]

theorem val_lt_at {xs ys : List Nat} {k : Nat} (hx : ∀ a ∈ xs, a < 18446744073709551616) (hk : k < xs.length) (hl : xs.length = ys.length) (hd : ∀ j, k < j → j < xs.length → xs.getD j 0 = ys.getD j 0) (h : xs.getD k 0 < ys.getD k 0) : val xs < val ys := by
  rw [val_at hk, val_at (l := ys) (k := k) (by omega)]
  have e : xs.drop (k + 1) = ys.drop (k + 1) := by
    apply ext_getD
    · simp [hl]
    · intro i hi
      have := hd (k + 1 + i) (by omega) (by simp at hi; omega)
      simpa [List.getD, List.getElem?_drop] using this
  rw [e]
  have h1 := val_lt (xs := xs.take k) (fun a ha => hx a (List.mem_of_mem_take ha))
  rw [List.length_take, Nat.min_eq_left (Nat.le_of_lt hk)] at h1
  have h2 : wpow k * (xs.getD k 0 + 18446744073709551616 * val (ys.drop (k + 1))) + wpow k ≤ wpow k * (ys.getD k 0 + 18446744073709551616 * val (ys.drop (k + 1))) := by
    rw [← Nat.mul_succ]; exact Nat.mul_le_mul_left _ (by omega)
  omega

theorem cmp_at_lt {xs ys : List Nat} (hx : ∀ a ∈ xs, a < 18446744073709551616) (hl : xs.length = ys.length) {k : Nat} (hk : k < xs.length) (hd : ∀ j, k < j → j < xs.length → xs.getD j 0 = ys.getD j 0) (h : xs.getD k 0 < ys.getD k 0) : cmpN (val xs) (val ys) = -1 :=
  cmpN_lt (val_lt_at hx hk hl hd h)

theorem cmp_at_gt {xs ys : List Nat} (hy : ∀ a ∈ ys, a < 18446744073709551616) (hl : xs.length = ys.length) {k : Nat} (hk : k < xs.length) (hd : ∀ j, k < j → j < xs.length → xs.getD j 0 = ys.getD j 0) (h : ys.getD k 0 < xs.getD k 0) : cmpN (val xs) (val ys) = 1 :=
  cmpN_gt (val_lt_at hy (by omega) hl.symm (fun j h1 h2 => (hd j h1 (by omega)).symm) h)

theorem cmp_at_eq {xs ys : List Nat} (hl : xs.length = ys.length) (hd : ∀ j, 0 < j → j < xs.length → xs.getD j 0 = ys.getD j 0) (h : xs.getD 0 0 = ys.getD 0 0) : cmpN (val xs) (val ys) = 0 := by
  have : xs = ys := ext_getD hl (fun i hi => by
    rcases Nat.eq_zero_or_pos i with rfl | h0
    · exact h
    · exact hd i h0 hi)
  rw [this]; exact cmpN_eq _

set_option maxRecDepth 20000 in
set_option maxHeartbeats 1000000 in
theorem cmp_same (gx ox cx gy oy cy m : Nat) (M K : List Nat) (w : World) (hm : 0 < m) (hm2 : m ≤ 1000000)
    (bx : Blk .u64 w gx M) (by_ : Blk .u64 w gy K) (hx2 : ox + m ≤ M.length) (hy2 : oy + m ≤ K.length) (hxb : ∀ a ∈ M, a < 18446744073709551616) (hyb : ∀ a ∈ K, a < 18446744073709551616) :
    Calls Tryz.prog 156 #[.slice (some ⟨gx, ox, none⟩) m cx, .slice (some ⟨gy, oy, none⟩) m cy] w (Quiet w (.int .i64 (cmpN (val (seg M ox m)) (val (seg K oy m))))) := by
  have hm0 : ((m : Int) == 0) = false := by rw [beq_eq_false_iff_ne]; omega
  have hlx := seg_length hx2
  have hly := seg_length hy2
  have hbx : ∀ a ∈ seg M ox m, a < 18446744073709551616 := fun a ha => hxb a (seg_mem ha)
  have hby : ∀ a ∈ seg K oy m, a < 18446744073709551616 := fun a ha => hyb a (seg_mem ha)
  have hgx : ∀ j, j < m → (seg M ox m).getD j 0 = M.getD (ox + j) 0 := fun j hj => seg_getD hj
  have hgy : ∀ j, j < m → (seg K oy m).getD j 0 = K.getD (oy + j) 0 := fun j hj => seg_getD hj
  generalize seg M ox m = xs at *
  generalize seg K oy m = ys at *
  have H_bx := Lib.hid bx; clear bx
  have H_by_ := Lib.hid by_; clear by_
  have H_hx2 := Lib.hid hx2; clear hx2
  have H_hy2 := Lib.hid hy2; clear hy2
  have H_hxb := Lib.hid hxb; clear hxb
  have H_hyb := Lib.hid hyb; clear hyb
  have H_hlx := Lib.hid hlx; clear hlx
  have H_hly := Lib.hid hly; clear hly
  have H_hbx := Lib.hid hbx; clear hbx
  have H_hby := Lib.hid hby; clear hby
  have H_hgx := Lib.hid hgx; clear hgx
  have H_hgy := Lib.hid hgy; clear hgy
  go_enter Tryz.func156, Tryz.ntmps156
  go_wp2_with (fail)
  go_loopw [7] (fun i wr => ∃ k : Nat, k < m ∧ i = .int .i64 k ∧ Hid (∀ j, k < j → j < m → xs.getD j 0 = ys.getD j 0) ∧ ∃ nd, wr = w.drewN nd) (fun i _ => (intOf i).toNat)
  case atStart => exact ⟨m - 1, by omega, by simp; omega, fun j h1 h2 => by omega, 0, rfl⟩
  case round =>
    obtain ⟨k, hk, rfl, hag, nd, rfl⟩ := hrel
    have hcx := H_bx.out.cell (o := ox + k) (by have := H_hx2.out; omega)
    have hcy := H_by_.out.cell (o := oy + k) (by have := H_hy2.out; omega)
    have hgx := H_hgx.out k hk
    have hgy := H_hgy.out k hk
    generalize hx : M.getD (ox + k) 0 = x at *
    generalize hy : K.getD (oy + k) 0 = y at *
    have H_hgx := Lib.hid hgx; clear hgx
    have H_hgy := Lib.hid hgy; clear hgy
    have H_hx := Lib.hid hx; clear hx
    have H_hy := Lib.hid hy; clear hy
    have hk0 : (0 : Int) ≤ (k : Int) := by omega
    have hkm : (k : Int) < (m : Int) := by omega
    rcases Nat.lt_trichotomy x y with hlt | heq | hgt
    · have res := cmp_at_lt H_hbx.out (by rw [H_hlx.out, H_hly.out]) (k := k) (by rw [H_hlx.out]; exact hk) (fun j h1 h2 => hag.out j h1 (by rw [H_hlx.out] at h2; exact h2)) (by rw [H_hgx.out, H_hgy.out]; exact hlt)
      have t1 : ((x : Int) == (y : Int)) = false := by rw [beq_eq_false_iff_ne]; omega
      have t2 : decide (x < y) = true := by simpa using hlt
      have H_res := Lib.hid res; clear res
      by_cases hkz : 0 < k
      · have hkz' : decide ((0 : Int) < (k : Int)) = true := by simp; omega
        go_wp2_with (go_quiet (fail))
        go_ret
        exact ⟨by rw [H_res.out]; rfl, _, by simp only [World.drewN_drewN]; rfl⟩
      · have hkz' : decide ((0 : Int) < (k : Int)) = false := by simp; omega
        go_wp2_with (go_quiet (fail))
        go_ret
        exact ⟨by rw [H_res.out]; rfl, _, by simp only [World.drewN_drewN]; rfl⟩
    · subst heq
      have t1 : ((x : Int) == (x : Int)) = true := by simp
      by_cases hkz : 0 < k
      · have hkz' : decide ((0 : Int) < (k : Int)) = true := by simp; omega
        go_wp2_with (go_quiet (fail))
        go_roundw
        case rel =>
          refine ⟨k - 1, by omega, by simp; omega, fun j h1 h2 => ?_, _, rfl⟩
          by_cases e : j = k
          · subst e; rw [H_hgx.out, H_hgy.out]
          · exact hag.out j (by omega) h2
        case measure => simp [intOf]; omega
      · have hkz' : decide ((0 : Int) < (k : Int)) = false := by simp; omega
        have hk00 : k = 0 := by omega
        have res := cmp_at_eq (xs := xs) (ys := ys) (by rw [H_hlx.out, H_hly.out]) (fun j h1 h2 => hag.out j (by omega) (by rw [H_hlx.out] at h2; exact h2)) (by have h1 := H_hgx.out; have h2 := H_hgy.out; rw [hk00] at h1 h2; rw [h1, h2])
        have t2 : decide (x < x) = false := by simp
        have H_res := Lib.hid res; clear res
        have H_hk00 := Lib.hid hk00; clear hk00
        go_wp2_with (go_quiet (fail))
        go_ret
        exact ⟨by rw [H_res.out]; rfl, _, by simp only [World.drewN_drewN]; rfl⟩
    · have res := cmp_at_gt H_hby.out (by rw [H_hlx.out, H_hly.out]) (k := k) (by rw [H_hlx.out]; exact hk) (fun j h1 h2 => hag.out j h1 (by rw [H_hlx.out] at h2; exact h2)) (by rw [H_hgx.out, H_hgy.out]; exact hgt)
      have t1 : ((x : Int) == (y : Int)) = false := by rw [beq_eq_false_iff_ne]; omega
      have t2 : decide (x < y) = false := by simp; omega
      have t3 : decide (y < x) = true := by simpa using hgt
      have H_res := Lib.hid res; clear res
      by_cases hkz : 0 < k
      · have hkz' : decide ((0 : Int) < (k : Int)) = true := by simp; omega
        go_wp2_with (go_quiet (fail))
        go_ret
        exact ⟨by rw [H_res.out]; rfl, _, by simp only [World.drewN_drewN]; rfl⟩
      · have hkz' : decide ((0 : Int) < (k : Int)) = false := by simp; omega
        go_wp2_with (go_quiet (fail))
        go_ret
        exact ⟨by rw [H_res.out]; rfl, _, by simp only [World.drewN_drewN]; rfl⟩

set_option maxHeartbeats 400000 in
theorem nat_cmp (xv yv : Value) (xl yl : List Nat) (w : World) (hn : xl.length ≤ 1000000) (hn' : yl.length ≤ 1000000) (hx : NatAt w xv xl) (hy : NatAt w yv yl) (hnx : Norm xl) (hny : Norm yl) :
    Calls Tryz.prog 156 #[xv, yv] w (Quiet w (.int .i64 (cmpN (val xl) (val yl)))) := by
  rcases Nat.lt_trichotomy xl.length yl.length with hlt | heq | hgt
  · rw [cmpN_lt (val_cmp_len hny hx.bnd hlt)]
    obtain ⟨ax, cx, hxv⟩ := hx.form
    obtain ⟨ay, cy, hyv⟩ := hy.form
    generalize xl.length = m at *
    generalize yl.length = n at *
    subst hxv hyv
    have H_hx := Lib.hid hx; clear hx
    have H_hy := Lib.hid hy; clear hy
    have H_hnx := Lib.hid hnx; clear hnx
    have H_hny := Lib.hid hny; clear hny
    have t1 : ((m : Int) == (n : Int)) = false := by rw [beq_eq_false_iff_ne]; omega
    go_enter Tryz.func156, Tryz.ntmps156
    go_wp2
    go_ret
    exact ⟨rfl, 0, rfl⟩
  · by_cases h0 : xl.length = 0
    · have h1 : yl.length = 0 := by omega
      obtain rfl : xl = [] := List.eq_nil_of_length_eq_zero h0
      obtain rfl : yl = [] := List.eq_nil_of_length_eq_zero h1
      obtain ⟨ax, cx, rfl⟩ := hx.form
      obtain ⟨ay, cy, rfl⟩ := hy.form
      rw [cmpN_eq]
      clear hx hy hnx hny heq h0 h1 hn hn'
      go_enter Tryz.func156, Tryz.ntmps156
      go_wp2
      go_ret
      exact ⟨rfl, 0, rfl⟩
    · obtain ⟨gx, ox, cx, M, rfl, bx, hx1, hx2, hx3, hx4⟩ := hx.open_pos (by omega)
      obtain ⟨gy, oy, cy, K, rfl, by_, hy1, hy2, hy3, hy4⟩ := hy.open_pos (by omega)
      have := cmp_same gx ox cx gy oy cy xl.length M K w (by omega) hn bx by_ (by omega) (by omega) hx4 hy4
      rw [heq] at this hx3 ⊢
      rw [← hx3, ← hy3] at this
      exact this
  · rw [cmpN_gt (val_cmp_len hnx hy.bnd hgt)]
    obtain ⟨ax, cx, hxv⟩ := hx.form
    obtain ⟨ay, cy, hyv⟩ := hy.form
    generalize xl.length = m at *
    generalize yl.length = n at *
    subst hxv hyv
    have H_hx := Lib.hid hx; clear hx
    have H_hy := Lib.hid hy; clear hy
    have H_hnx := Lib.hid hnx; clear hnx
    have H_hny := Lib.hid hny; clear hny
    have t1 : ((m : Int) == (n : Int)) = false := by rw [beq_eq_false_iff_ne]; omega
    go_enter Tryz.func156, Tryz.ntmps156
    go_wp2
    go_ret
    exact ⟨rfl, 0, rfl⟩

end Go.Proofs.YtmgidnjpkbgmgabGreatDoor

/- The contracts of math/big's natural numbers: alias, mulAddWW, products. -/
namespace Go.Proofs.YtmgidnjpkbgmgabGreatDoor
open Go.RowKit

/-- no memory is shared -/
def Apart (xv yv : Value) : Prop := ∀ g, xv.ownBlock = some g → yv.ownBlock ≠ some g

theorem NatAt.cases {w : World} {v : Value} {l : List Nat} (h : NatAt w v l) : (v = .slice none 0 0 ∧ l = []) ∨ ∃ g off cap L, v = .slice (some ⟨g, off, none⟩) l.length cap ∧ Blk .u64 w g L ∧ off + cap ≤ L.length ∧ l.length ≤ cap ∧ cap ≤ 9223372036854775807 := by
  have hc := h.1.2
  rcases h.2 with h | ⟨g, off, cap, L, rfl, h2, h3, h4, _⟩
  · exact .inl h
  · exact .inr ⟨g, off, cap, L, rfl, h2, h4, h3, hc⟩

set_option maxRecDepth 20000 in
set_option maxHeartbeats 1000000 in
theorem alias_apart (xv yv : Value) (xl yl : List Nat) (w : World) (hx : NatAt w xv xl) (hy : NatAt w yv yl) (hs : Apart xv yv) :
    Calls Tryz.prog 188 #[xv, yv] w (Quiet w (.bool false)) := by
  have hz : decide (0 < 0) = false := rfl
  rcases hx.cases with ⟨rfl, rfl⟩ | ⟨gx, ox, cx, M, rfl, bx, hx2, hxc, hxm⟩
  · obtain ⟨ay, cy, hyv⟩ := hy.form
    generalize yl.length = n at *
    subst hyv
    clear hx hy hs
    go_enter Tryz.func188, Tryz.ntmps188
    go_wp2_with (go_quiet (fail))
    go_ret
    exact ⟨rfl, _, rfl⟩
  · generalize xl.length = m at *
    by_cases hcx : 0 < cx
    · have hcx1 : decide (0 < cx) = true := by simpa using hcx
      rcases hy.cases with ⟨rfl, rfl⟩ | ⟨gy, oy, cy, K, rfl, by_, hy2, hyc, hym⟩
      · clear hx hy hs
        have H_bx := Lib.hid bx; clear bx
        have H_hx2 := Lib.hid hx2; clear hx2
        go_enter Tryz.func188, Tryz.ntmps188
        go_wp2_with (go_quiet (fail))
        go_ret
        exact ⟨rfl, _, rfl⟩
      · generalize yl.length = n at *
        by_cases hcy : 0 < cy
        · have hcy1 : decide (0 < cy) = true := by simpa using hcy
          have hne : gx ≠ gy := fun e => hs gx rfl (by rw [e]; rfl)
          have hq : ∀ nq, (binOp .eql 192 (.pointer (some ⟨gx, ox + (cx - 1), none⟩)) (.pointer (some ⟨gy, oy + (cy - 1), none⟩))).run Tryz.prog (w.drewN nq) = .ok (.bool false) (w.drewN nq) :=
            fun nq => Blk.eql (bx.drewN nq) (by_.drewN nq) hne Tryz.underlying192 (by kernel_rfl)
          clear hx hy hs
          have a1 : (0 : Int) ≤ (cx : Int) - 1 := by omega
          have a2 : (cx : Int) - 1 < (cx : Int) := by omega
          have a3 : ((cx : Int) - 1).toNat = cx - 1 := by omega
          have b1 : (0 : Int) ≤ (cy : Int) - 1 := by omega
          have b2 : (cy : Int) - 1 < (cy : Int) := by omega
          have b3 : ((cy : Int) - 1).toNat = cy - 1 := by omega
          have H_bx := Lib.hid bx; clear bx
          have H_hx2 := Lib.hid hx2; clear hx2
          have H_by_ := Lib.hid by_; clear by_
          have H_hy2 := Lib.hid hy2; clear hy2
          go_enter Tryz.func188, Tryz.ntmps188
          go_wp2_with (fail)
          go_quiet (fail)
          go_wp2
          go_ret
          exact ⟨rfl, _, rfl⟩
        · have hcy1 : decide (0 < cy) = false := by simpa using hcy
          clear hx hy hs
          have H_bx := Lib.hid bx; clear bx
          have H_hx2 := Lib.hid hx2; clear hx2
          have H_by_ := Lib.hid by_; clear by_
          have H_hy2 := Lib.hid hy2; clear hy2
          go_enter Tryz.func188, Tryz.ntmps188
          go_wp2_with (go_quiet (fail))
          go_ret
          exact ⟨rfl, _, rfl⟩
    · have hcx1 : decide (0 < cx) = false := by simpa using hcx
      obtain ⟨ay, cy, hyv⟩ := hy.form
      generalize yl.length = n at *
      subst hyv
      clear hx hy hs
      have H_bx := Lib.hid bx; clear bx
      have H_hx2 := Lib.hid hx2; clear hx2
      go_enter Tryz.func188, Tryz.ntmps188
      go_wp2_with (go_quiet (fail))
      go_ret
      exact ⟨rfl, _, rfl⟩

set_option maxRecDepth 20000 in
set_option maxHeartbeats 1000000 in
theorem alias_self (g off n cap : Nat) (l : List Nat) (w : World) (hx : NatAt w (.slice (some ⟨g, off, none⟩) n cap) l) (hc : 0 < cap) :
    Calls Tryz.prog 188 #[.slice (some ⟨g, off, none⟩) n cap, .slice (some ⟨g, off, none⟩) n cap] w (Quiet w (.bool true)) := by
  obtain ⟨jt, hjt⟩ : ∃ j, Tryz.prog.info? 164 = some j := by
    have h : (Tryz.prog.info? 164).isSome = true := by kernel_rfl
    exact Option.isSome_iff_exists.1 h
  have hcm := hx.cap
  have hcx1 : decide (0 < cap) = true := by simpa using hc
  have hq : ∀ nq, (binOp .eql 192 (.pointer (some ⟨g, off + (cap - 1), none⟩)) (.pointer (some ⟨g, off + (cap - 1), none⟩))).run Tryz.prog (w.drewN nq) = .ok (.bool true) (w.drewN nq) :=
    fun nq => run_eql_ptr_same _ _ Tryz.underlying192 hjt
  clear hx hjt
  have a1 : (0 : Int) ≤ (cap : Int) - 1 := by omega
  have a2 : (cap : Int) - 1 < (cap : Int) := by omega
  have a3 : ((cap : Int) - 1).toNat = cap - 1 := by omega
  go_enter Tryz.func188, Tryz.ntmps188
  go_wp2_with (go_quiet (fail))
  go_ret
  exact ⟨rfl, _, rfl⟩

set_option maxRecDepth 20000 in
set_option maxHeartbeats 1000000 in
theorem mulAddWW_any (zv xv : Value) (zl xl : List Nat) (y r : Nat) (w : World) (hn : xl.length < 1000000) (hy : y < 18446744073709551616) (hr : r < 18446744073709551616) (h : NatAt w zv zl) (hx : NatAt w xv xl) (hsx : Sep zv xv) :
    Calls Tryz.prog 211 #[zv, xv, .int .u64 y, .int .u64 r] w (NatRet w zv (val xl * y + r)) := by
  by_cases h0 : xl.length = 0 ∨ y = 0
  · have hs := setWord_any zv zl r w hr h
    have e0 : val xl * y + r = r := by
      rcases h0 with h0 | h0
      · rw [List.eq_nil_of_length_eq_zero h0]; simp [val]
      · simp [h0]
    rw [e0]
    obtain ⟨ax, cx, hxv⟩ := hx.form
    generalize hml : xl.length = m at *
    subst hxv
    have hb : ((m : Int) == 0) = true ∨ (((m : Int) == 0) = false ∧ ((y : Int) == 0) = true) := by
      by_cases hm : m = 0
      · left; simp [hm]
      · right; rcases h0 with h0 | h0
        · exact absurd h0 hm
        · simp [hm, h0]
    have H_h := Lib.hid h; clear h
    have H_hx := Lib.hid hx; clear hx
    have H_hsx := Lib.hid hsx; clear hsx
    have H_hs := Lib.hid hs; clear hs
    have H_h0 := Lib.hid h0; clear h0
    have H_e0 := Lib.hid e0; clear e0
    have H_hml := Lib.hid hml; clear hml
    clear hn
    rcases hb with hb | ⟨hb, hb2⟩
    all_goals
      go_enter Tryz.func211, Tryz.ntmps211
      go_wp2_with (fail)
      refine H_hs.out.mono ?_
      intro e w1 h1
      obtain ⟨rv, rfl, h1⟩ := h1.own
      have H_h1 := Lib.hid h1; clear h1
      go_wp2
      go_ret
      exact H_h1.out
  · obtain ⟨gx, ox, cx, M, rfl, bx, hx1, hx2, hx3, hx4⟩ := hx.open_pos (by omega)
    have hm := make_any zv zl (xl.length + 1) w (by omega) (by omega) h
    have hgx := bx.lt
    have hb1 : ((xl.length : Int) == 0) = false := by rw [beq_eq_false_iff_ne]; omega
    have hb2 : ((y : Int) == 0) = false := by rw [beq_eq_false_iff_ne]; omega
    generalize hml : xl.length = m at *
    have H_h := Lib.hid h; clear h
    have H_hm := Lib.hid hm; clear hm
    have H_hx := Lib.hid hx; clear hx
    have H_hsx := Lib.hid hsx; clear hsx
    have H_bx := Lib.hid bx; clear bx
    have H_hx3 := Lib.hid hx3; clear hx3
    have H_hx4 := Lib.hid hx4; clear hx4
    have H_hx2 := Lib.hid hx2; clear hx2
    have H_hml := Lib.hid hml; clear hml
    have H_h0 := Lib.hid h0; clear h0
    go_enter Tryz.func211, Tryz.ntmps211
    go_wp2_with (fail)
    refine H_hm.out.mono ?_
    intro e w1 hm
    obtain ⟨g, off, cap, L, rfl, hb, h1, h2, h3, h4, h5, hcap⟩ := hm.split
    clear hm
    have hmz : (m : Int) ≤ (cap : Int) := by omega
    have hm0 : (0 : Int) ≤ (m : Int) := by omega
    have hmul := mulAddVWW g off cap gx ox cx m y r L M w1 (by omega) hb.out (H_bx.out.keep h4.out (fun h => h)) (by have := h2.out; omega) (by have := H_hx2.out; omega) H_hx4.out hy hr (by have := h5.out.apart H_hsx.out hgx; omega)
    have H_hmul := Lib.hid hmul; clear hmul
    go_wp2_with (fail)
    refine H_hmul.out.mono ?_
    rintro e w3 ⟨rfl, hp⟩
    have ex : seg M ox m = xl := H_hx3.out.symm
    rw [ex] at hp ⊢
    have hl := mulVs_length xl y r
    have hc1 := mulVs_carry xl y r (by rw [← ex]; exact fun a ha => H_hx4.out a (seg_mem ha)) hy hr
    have hlt := mulVs_lt xl y r
    have hv := mulVs_val xl y r
    rw [H_hml.out] at hl hv
    generalize mulVs xl y r = res at *
    obtain ⟨s, c⟩ := res
    simp only at hp hl hc1 hlt hv
    have cc1 := hp.blk.cell (o := off + m) (by have := h2.out; rw [spl_length (by omega)]; omega)
    have cc2 := hp.blk.frozen (off + m)
    have p6 := hp.set (off + m) c
    rw [spl_set (by rw [hl]) (by have := h2.out; omega)] at p6
    have hl6 : (s ++ [c]).length = m + 1 := by simp [hl]
    have hlt6 : ∀ a ∈ s ++ [c], a < 18446744073709551616 := by
      intro a ha
      rw [List.mem_append, List.mem_singleton] at ha
      rcases ha with ha | rfl
      · exact hlt a ha
      · exact hc1
    have hv6 : val (s ++ [c]) = val xl * y + r := by rw [val_append, hl]; simp [val]; omega
    generalize (spl L off s).getD (off + m) 0 = z9 at *
    generalize s ++ [c] = s6 at *
    have H_hp := Lib.hid hp; clear hp
    have H_hl := Lib.hid hl; clear hl
    have H_hc1 := Lib.hid hc1; clear hc1
    have H_hlt := Lib.hid hlt; clear hlt
    have H_hv := Lib.hid hv; clear hv
    have H_p6 := Lib.hid p6; clear p6
    have H_hl6 := Lib.hid hl6; clear hl6
    have H_hlt6 := Lib.hid hlt6; clear hlt6
    have H_hv6 := Lib.hid hv6; clear hv6
    go_wp2_with (fail)
    generalize wr6 : w3.setCell ⟨g, off + m, none⟩ (.int .u64 (c : Int)) = w6 at *
    clear wr6
    have hna : NatAt w6 (.slice (some ⟨g, off, none⟩) (m + 1) cap) s6 := by
      have := NatAt.spl hcap H_p6.out.blk (cap := cap) (by rw [H_hl6.out]; omega) h2.out h3.out H_hlt6.out
      rw [H_hl6.out] at this; exact this
    have hno := norm_any _ _ _ (by rw [H_hl6.out]; omega) hna
    have H_hna := Lib.hid hna; clear hna
    have H_hno := Lib.hid hno; clear hno
    refine H_hno.out.mono ?_
    rintro e w7 ⟨rv, l, rfl, h6, hnorm, hval, hown, rfl⟩
    have H_h6 := Lib.hid h6; clear h6
    have H_hnorm := Lib.hid hnorm; clear hnorm
    have H_hval := Lib.hid hval; clear hval
    have H_hown := Lib.hid hown; clear hown
    go_wp2
    go_ret
    exact ⟨rv, l, rfl, NatOp.of h5.out h4.out H_p6.out.keep H_h6.out (fun k hk => by have := H_hown.out k hk; simpa [Value.ownBlock] using this.symm), H_hnorm.out, by rw [H_hval.out, H_hv6.out]⟩

end Go.Proofs.YtmgidnjpkbgmgabGreatDoor
