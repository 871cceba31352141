/- The contracts of math/big's functions on vectors of words: sums, differences, products. -/
import Derived.Test.YtllencgncinphaaGreatDoorKE1
namespace Go.Proofs.YtllencgncinphaaGreatDoor
open Go.RowKit
open Go.Lib (hid)
set_option maxHeartbeats 400000

def addVs : List Nat → List Nat → Nat → List Nat × Nat
 | x :: xs, y :: ys, c => let r := addVs xs ys (addC x y c); (addS x y c :: r.1, r.2)
 | _, _, c => ([], c)

def subVs : List Nat → List Nat → Nat → List Nat × Nat
 | x :: xs, y :: ys, c => let r := subVs xs ys (subC x y c); (subS x y c :: r.1, r.2)
 | _, _, c => ([], c)

def mulVs : List Nat → Nat → Nat → List Nat × Nat
 | x :: xs, y, c => let r := mulVs xs y (maH x y c); (maL x y c :: r.1, r.2)
 | [], _, c => ([], c)

def amVs : List Nat → List Nat → Nat → Nat → List Nat × Nat
 | x :: xs, y :: ys, m, c => let r := amVs xs ys m (maH y m x + addC (maL y m x) c 0); (addS (maL y m x) c 0 :: r.1, r.2)
 | _, _, _, c => ([], c)

theorem addVs_snoc (x y : Nat) : ∀ (xs ys : List Nat) (c : Nat), xs.length = ys.length → addVs (xs ++ [x]) (ys ++ [y]) c = ((addVs xs ys c).1 ++ [addS x y (addVs xs ys c).2], addC x y (addVs xs ys c).2)
 | [], [], c, _ => rfl
 | a :: xs, b :: ys, c, h => by
   have ih := addVs_snoc x y xs ys (addC a b c) (by simpa using h)
   simp only [List.cons_append, addVs, ih]

theorem addVs_length : ∀ (xs ys : List Nat) (c : Nat), xs.length = ys.length → (addVs xs ys c).1.length = xs.length
 | [], [], c, _ => rfl
 | a :: xs, b :: ys, c, h => by simp only [addVs, List.length_cons]; rw [addVs_length xs ys _ (by simpa using h)]

theorem addVs_lt : ∀ (xs ys : List Nat) (c : Nat), ∀ a ∈ (addVs xs ys c).1, a < 18446744073709551616
 | [], _, c => by simp [addVs]
 | _ :: _, [], c => by simp [addVs]
 | a :: xs, b :: ys, c => by
   intro z hz
   simp only [addVs, List.mem_cons] at hz
   rcases hz with rfl | hz
   · exact addS_lt _ _ _
   · exact addVs_lt xs ys _ z hz

theorem subVs_snoc (x y : Nat) : ∀ (xs ys : List Nat) (c : Nat), xs.length = ys.length → subVs (xs ++ [x]) (ys ++ [y]) c = ((subVs xs ys c).1 ++ [subS x y (subVs xs ys c).2], subC x y (subVs xs ys c).2)
 | [], [], c, _ => rfl
 | a :: xs, b :: ys, c, h => by
   have ih := subVs_snoc x y xs ys (subC a b c) (by simpa using h)
   simp only [List.cons_append, subVs, ih]

theorem subVs_length : ∀ (xs ys : List Nat) (c : Nat), xs.length = ys.length → (subVs xs ys c).1.length = xs.length
 | [], [], c, _ => rfl
 | a :: xs, b :: ys, c, h => by simp only [subVs, List.length_cons]; rw [subVs_length xs ys _ (by simpa using h)]

theorem subVs_lt : ∀ (xs ys : List Nat) (c : Nat), ∀ a ∈ (subVs xs ys c).1, a < 18446744073709551616
 | [], _, c => by simp [subVs]
 | _ :: _, [], c => by simp [subVs]
 | a :: xs, b :: ys, c => by
   intro z hz
   simp only [subVs, List.mem_cons] at hz
   rcases hz with rfl | hz
   · exact subS_lt _ _ _
   · exact subVs_lt xs ys _ z hz

theorem addVs_carry : ∀ (xs ys : List Nat) (c : Nat), (∀ a ∈ xs, a < 18446744073709551616) → (∀ a ∈ ys, a < 18446744073709551616) → c ≤ 1 → (addVs xs ys c).2 ≤ 1
 | [], _, c, _, _, h => h
 | _ :: _, [], c, _, _, h => h
 | a :: xs, b :: ys, c, hx, hy, h =>
   addVs_carry xs ys _ (fun a ha => hx a (by simp [ha])) (fun a ha => hy a (by simp [ha])) (addC_le (hx a (by simp)) (hy b (by simp)) h)

theorem subVs_carry : ∀ (xs ys : List Nat) (c : Nat), c ≤ 1 → (subVs xs ys c).2 ≤ 1
 | [], _, _, h => h
 | _ :: _, [], _, h => h
 | _ :: xs, _ :: ys, _, _ => subVs_carry xs ys _ (subC_le _ _ _)

theorem mulVs_snoc (x y : Nat) : ∀ (xs : List Nat) (c : Nat), mulVs (xs ++ [x]) y c = ((mulVs xs y c).1 ++ [maL x y (mulVs xs y c).2], maH x y (mulVs xs y c).2)
 | [], c => rfl
 | a :: xs, c => by
   have ih := mulVs_snoc x y xs (maH a y c)
   simp only [List.cons_append, mulVs, ih]

theorem mulVs_length : ∀ (xs : List Nat) (y c : Nat), (mulVs xs y c).1.length = xs.length
 | [], _, c => rfl
 | a :: xs, y, c => by simp only [mulVs, List.length_cons]; rw [mulVs_length xs y]

theorem mulVs_lt : ∀ (xs : List Nat) (y c : Nat), ∀ a ∈ (mulVs xs y c).1, a < 18446744073709551616
 | [], _, c => by simp [mulVs]
 | a :: xs, y, c => by
   intro z hz
   simp only [mulVs, List.mem_cons] at hz
   rcases hz with rfl | hz
   · exact maL_lt _ _ _
   · exact mulVs_lt xs y _ z hz

theorem mulVs_carry : ∀ (xs : List Nat) (y c : Nat), (∀ a ∈ xs, a < 18446744073709551616) → y < 18446744073709551616 → c < 18446744073709551616 → (mulVs xs y c).2 < 18446744073709551616
 | [], y, c, _, _, h => h
 | a :: xs, y, c, hx, hy, h => mulVs_carry xs y _ (fun a ha => hx a (by simp [ha])) hy (maH_lt (hx a (by simp)) hy h)

theorem amVs_snoc (x y m : Nat) : ∀ (xs ys : List Nat) (c : Nat), xs.length = ys.length →
 amVs (xs ++ [x]) (ys ++ [y]) m c = ((amVs xs ys m c).1 ++ [addS (maL y m x) (amVs xs ys m c).2 0], maH y m x + addC (maL y m x) (amVs xs ys m c).2 0)
 | [], [], c, _ => rfl
 | a :: xs, b :: ys, c, h => by
   have ih := amVs_snoc x y m xs ys (maH b m a + addC (maL b m a) c 0) (by simpa using h)
   simp only [List.cons_append, amVs, ih]

theorem amVs_length : ∀ (xs ys : List Nat) (m c : Nat), xs.length = ys.length → (amVs xs ys m c).1.length = xs.length
 | [], [], _, c, _ => rfl
 | a :: xs, b :: ys, m, c, h => by simp only [amVs, List.length_cons]; rw [amVs_length xs ys _ _ (by simpa using h)]

theorem amVs_lt : ∀ (xs ys : List Nat) (m c : Nat), ∀ a ∈ (amVs xs ys m c).1, a < 18446744073709551616
 | [], _, _, c => by simp [amVs]
 | _ :: _, [], _, c => by simp [amVs]
 | a :: xs, b :: ys, m, c => by
   intro z hz
   simp only [amVs, List.mem_cons] at hz
   rcases hz with rfl | hz
   · exact addS_lt _ _ _
   · exact amVs_lt xs ys _ _ z hz

theorem am_lt {x y m c : Nat} (hx : x < 18446744073709551616) (hy : y < 18446744073709551616) (hm : m < 18446744073709551616) (hc : c < 18446744073709551616) :
 maH y m x + addC (maL y m x) c 0 < 18446744073709551616 := by
 have h := mul_lt_sq hy hm
 unfold maH maL addC; generalize y * m = p at *; omega

theorem amVs_carry : ∀ (xs ys : List Nat) (m c : Nat), (∀ a ∈ xs, a < 18446744073709551616) → (∀ a ∈ ys, a < 18446744073709551616) → m < 18446744073709551616 → c < 18446744073709551616 → (amVs xs ys m c).2 < 18446744073709551616
 | [], _, _, c, _, _, _, h => h
 | _ :: _, [], _, c, _, _, _, h => h
 | a :: xs, b :: ys, m, c, hx, hy, hm, h =>
   amVs_carry xs ys _ _ (fun a ha => hx a (by simp [ha])) (fun a ha => hy a (by simp [ha])) hm (am_lt (hx a (by simp)) (hy b (by simp)) hm h)

theorem pos64 : 0 < 18446744073709551616 := by omega

theorem addVV_g (gz oz cz gx ox cx gy oy cy n : Nat) (Lz Lx Ly : List Nat) (w : World) (hlen : n ≤ 1000000)
 (bz : Blk .u64 w gz Lz) (bx : Blk .u64 w gx Lx) (by_ : Blk .u64 w gy Ly) (hz : oz + n ≤ Lz.length) (hx : ox + n ≤ Lx.length) (hy : oy + n ≤ Ly.length)
 (hbx : ∀ a ∈ Lx, a < 18446744073709551616) (hby : ∀ a ∈ Ly, a < 18446744073709551616)
 (hax : gx ≠ gz ∨ oz ≤ ox) (hay : gy ≠ gz ∨ oz ≤ oy) :
 Calls Tryz.prog 175 #[.slice (some ⟨gz, oz, none⟩) n cz, .slice (some ⟨gx, ox, none⟩) n cx, .slice (some ⟨gy, oy, none⟩) n cy] w
  fun e w' => e = .returned (.int .u64 ((addVs (seg Lx ox n) (seg Ly oy n) 0).2 : Nat)) ∧ Puts .u64 gz (spl Lz oz (addVs (seg Lx ox n) (seg Ly oy n) 0).1) w w' := by
 have H_bz := hid bz; have H_bx := hid bx; have H_by_ := hid by_; have H_hz := hid hz; have H_hx := hid hx; have H_hy := hid hy; have H_hbx := hid hbx; have H_hby := hid hby; have H_hax := hid hax; have H_hay := hid hay; clear bz bx by_ hz hx hy hbx hby hax hay
 go_enter Tryz.func175, Tryz.ntmps175
 go_wp2_with (fail)
 go_loopw [6, 25] (fun c i wr => ∃ k : Nat, k ≤ n ∧ i = .int .i64 k ∧ c = .int .u64 ((addVs (seg Lx ox k) (seg Ly oy k) 0).2 : Nat) ∧ Puts .u64 gz (spl Lz oz (addVs (seg Lx ox k) (seg Ly oy k) 0).1) w wr) (fun _ i _ => n - (intOf i).toNat)
 case atStart => exact ⟨0, Nat.zero_le _, rfl, by simp [seg_zero, addVs], by rw [seg_zero, seg_zero]; simp only [addVs]; rw [spl_nil]; exact Puts.refl H_bz.out⟩
 case round =>
  obtain ⟨k, hk, rfl, rfl, hp⟩ := hrel
  by_cases hlt : k < n
  · have hl : (addVs (seg Lx ox k) (seg Ly oy k) 0).1.length = k := by
     have := H_hx.out; have := H_hy.out
     rw [addVs_length _ _ _ (by rw [sgL (by omega), sgL (by omega)]), sgL (by omega)]
    have hs := addVs_snoc (Lx.getD (ox + k) 0) (Ly.getD (oy + k) 0) (seg Lx ox k) (seg Ly oy k) 0 (by have := H_hx.out; have := H_hy.out; rw [sgL (by omega), sgL (by omega)])
    rw [← seg_succ (by have := H_hx.out; omega), ← seg_succ (by have := H_hy.out; omega)] at hs
    have h3 := addVs_carry (seg Lx ox k) (seg Ly oy k) 0 (fun a ha => H_hbx.out a (seg_mem ha)) (fun a ha => H_hby.out a (seg_mem ha)) (by omega)
    generalize hr : addVs (seg Lx ox k) (seg Ly oy k) 0 = r at *
    obtain ⟨l, c⟩ := r
    simp only at h3 hl hp hs
    have H_hs := hid hs; have H_hr := hid hr; have H_hp := hid hp; have H_hl := hid hl; clear hs hr hp hl
    have hcx : wr.cell? ⟨gx, ox + k, none⟩ = some (wd .u64 (Lx.getD (ox + k) 0)) := by
     have := H_hx.out; have := H_hz.out; have := H_hl.out
     by_cases e : gx = gz
     · obtain rfl : Lx = Lz := Blk.uniq (by rw [e] at H_bx; exact H_bx.out) H_bz.out
       rw [e, H_hp.out.blk.cell (by rw [sgl (by omega)]; omega), sgD (by omega), if_neg (by have := H_hax.out; omega)]
     · exact (H_hp.out.other e H_bx.out).cell (by omega)
    have hcy : wr.cell? ⟨gy, oy + k, none⟩ = some (wd .u64 (Ly.getD (oy + k) 0)) := by
     have := H_hy.out; have := H_hz.out; have := H_hl.out
     by_cases e : gy = gz
     · obtain rfl : Ly = Lz := Blk.uniq (by rw [e] at H_by_; exact H_by_.out) H_bz.out
       rw [e, H_hp.out.blk.cell (by rw [sgl (by omega)]; omega), sgD (by omega), if_neg (by have := H_hay.out; omega)]
     · exact (H_hp.out.other e H_by_.out).cell (by omega)
    have hz1 := H_hp.out.blk.cell (o := oz + k) (by have := H_hz.out; have := H_hl.out; rw [sgl (by omega)]; omega)
    have hz2 := H_hp.out.blk.frozen (oz + k)
    generalize Lx.getD (ox + k) 0 = x at *
    generalize Ly.getD (oy + k) 0 = y at *
    generalize (spl Lz oz l).getD (oz + k) 0 = z0 at *
    go_wp2_with (first | go_quiet ((go_at_call 176; exact quietSame (bits_Add _ _ _ (by assumption) _))))
    go_roundw
    case rel =>
     refine ⟨k + 1, by omega, by go_num, by rw [H_hs.out], ?_⟩
     rw [H_hs.out]
     have := (H_hp.out.drewN nq).set (oz + k) (addS x y c)
     rw [spl_set (by rw [H_hl.out]) (by have := H_hz.out; omega)] at this
     exact this
    case measure => simp [intOf]; omega
  · have HE := hid (show k = n by omega)
    have H_hp := hid hp; clear hp
    go_wp2
    go_ret
    have ep := H_hp.out
    rw [HE.out] at ep ⊢
    exact ⟨rfl, ep⟩

theorem addVV (gz oz cz gx ox cx gy oy cy n : Nat) (Lz Lx Ly : List Nat) (w : World) (hlen : n ≤ 1000000)
 (bz : Blk .u64 w gz Lz) (bx : Blk .u64 w gx Lx) (by_ : Blk .u64 w gy Ly) (hz : oz + n ≤ Lz.length) (hx : ox + n ≤ Lx.length) (hy : oy + n ≤ Ly.length)
 (hbx : ∀ a ∈ Lx, a < 18446744073709551616) (hby : ∀ a ∈ Ly, a < 18446744073709551616)
 (hax : gx ≠ gz ∨ oz ≤ ox) (hay : gy ≠ gz ∨ oz ≤ oy) :
 Calls Tryz.prog 159 #[.slice (some ⟨gz, oz, none⟩) n cz, .slice (some ⟨gx, ox, none⟩) n cx, .slice (some ⟨gy, oy, none⟩) n cy] w
  fun e w' => e = .returned (.int .u64 ((addVs (seg Lx ox n) (seg Ly oy n) 0).2 : Nat)) ∧ Puts .u64 gz (spl Lz oz (addVs (seg Lx ox n) (seg Ly oy n) 0).1) w w' := by
 have H := hid (addVV_g gz oz cz gx ox cx gy oy cy n Lz Lx Ly w hlen bz bx by_ hz hx hy hbx hby hax hay)
 clear bz bx by_ hz hx hy hbx hby hax hay
 go_enter Tryz.func159, Tryz.ntmps159
 go_wp2_with (go_at_call 175; refine H.out.mono ?_; rintro e w' ⟨rfl, hp⟩)
 go_ret
 exact ⟨rfl, hp⟩

theorem subVV_g (gz oz cz gx ox cx gy oy cy n : Nat) (Lz Lx Ly : List Nat) (w : World) (hlen : n ≤ 1000000)
 (bz : Blk .u64 w gz Lz) (bx : Blk .u64 w gx Lx) (by_ : Blk .u64 w gy Ly) (hz : oz + n ≤ Lz.length) (hx : ox + n ≤ Lx.length) (hy : oy + n ≤ Ly.length)
 (hax : gx ≠ gz ∨ oz ≤ ox) (hay : gy ≠ gz ∨ oz ≤ oy) :
 Calls Tryz.prog 177 #[.slice (some ⟨gz, oz, none⟩) n cz, .slice (some ⟨gx, ox, none⟩) n cx, .slice (some ⟨gy, oy, none⟩) n cy] w
  fun e w' => e = .returned (.int .u64 ((subVs (seg Lx ox n) (seg Ly oy n) 0).2 : Nat)) ∧ Puts .u64 gz (spl Lz oz (subVs (seg Lx ox n) (seg Ly oy n) 0).1) w w' := by
 have H_bz := hid bz; have H_bx := hid bx; have H_by_ := hid by_; have H_hz := hid hz; have H_hx := hid hx; have H_hy := hid hy; have H_hax := hid hax; have H_hay := hid hay; clear bz bx by_ hz hx hy hax hay
 go_enter Tryz.func177, Tryz.ntmps177
 go_wp2_with (fail)
 go_loopw [6, 25] (fun c i wr => ∃ k : Nat, k ≤ n ∧ i = .int .i64 k ∧ c = .int .u64 ((subVs (seg Lx ox k) (seg Ly oy k) 0).2 : Nat) ∧ Puts .u64 gz (spl Lz oz (subVs (seg Lx ox k) (seg Ly oy k) 0).1) w wr) (fun _ i _ => n - (intOf i).toNat)
 case atStart => exact ⟨0, Nat.zero_le _, rfl, by simp [seg_zero, subVs], by rw [seg_zero, seg_zero]; simp only [subVs]; rw [spl_nil]; exact Puts.refl H_bz.out⟩
 case round =>
  obtain ⟨k, hk, rfl, rfl, hp⟩ := hrel
  by_cases hlt : k < n
  · have hl : (subVs (seg Lx ox k) (seg Ly oy k) 0).1.length = k := by
     have := H_hx.out; have := H_hy.out
     rw [subVs_length _ _ _ (by rw [sgL (by omega), sgL (by omega)]), sgL (by omega)]
    have hs := subVs_snoc (Lx.getD (ox + k) 0) (Ly.getD (oy + k) 0) (seg Lx ox k) (seg Ly oy k) 0 (by have := H_hx.out; have := H_hy.out; rw [sgL (by omega), sgL (by omega)])
    rw [← seg_succ (by have := H_hx.out; omega), ← seg_succ (by have := H_hy.out; omega)] at hs
    have h3 := subVs_carry (seg Lx ox k) (seg Ly oy k) 0 (by omega)
    generalize hr : subVs (seg Lx ox k) (seg Ly oy k) 0 = r at *
    obtain ⟨l, c⟩ := r
    simp only at h3 hl hp hs
    have H_hs := hid hs; have H_hr := hid hr; have H_hp := hid hp; have H_hl := hid hl; clear hs hr hp hl
    have hcx : wr.cell? ⟨gx, ox + k, none⟩ = some (wd .u64 (Lx.getD (ox + k) 0)) := by
     have := H_hx.out; have := H_hz.out; have := H_hl.out
     by_cases e : gx = gz
     · obtain rfl : Lx = Lz := Blk.uniq (by rw [e] at H_bx; exact H_bx.out) H_bz.out
       rw [e, H_hp.out.blk.cell (by rw [sgl (by omega)]; omega), sgD (by omega), if_neg (by have := H_hax.out; omega)]
     · exact (H_hp.out.other e H_bx.out).cell (by omega)
    have hcy : wr.cell? ⟨gy, oy + k, none⟩ = some (wd .u64 (Ly.getD (oy + k) 0)) := by
     have := H_hy.out; have := H_hz.out; have := H_hl.out
     by_cases e : gy = gz
     · obtain rfl : Ly = Lz := Blk.uniq (by rw [e] at H_by_; exact H_by_.out) H_bz.out
       rw [e, H_hp.out.blk.cell (by rw [sgl (by omega)]; omega), sgD (by omega), if_neg (by have := H_hay.out; omega)]
     · exact (H_hp.out.other e H_by_.out).cell (by omega)
    have hz1 := H_hp.out.blk.cell (o := oz + k) (by have := H_hz.out; have := H_hl.out; rw [sgl (by omega)]; omega)
    have hz2 := H_hp.out.blk.frozen (oz + k)
    generalize Lx.getD (ox + k) 0 = x at *
    generalize Ly.getD (oy + k) 0 = y at *
    generalize (spl Lz oz l).getD (oz + k) 0 = z0 at *
    go_wp2_with (first | go_quiet ((go_at_call 178; exact quietSame (bits_Sub _ _ _ (by assumption) _))))
    go_roundw
    case rel =>
     refine ⟨k + 1, by omega, by go_num, by rw [H_hs.out], ?_⟩
     rw [H_hs.out]
     have := (H_hp.out.drewN nq).set (oz + k) (subS x y c)
     rw [spl_set (by rw [H_hl.out]) (by have := H_hz.out; omega)] at this
     exact this
    case measure => simp [intOf]; omega
  · have HE := hid (show k = n by omega)
    have H_hp := hid hp; clear hp
    go_wp2
    go_ret
    have ep := H_hp.out
    rw [HE.out] at ep ⊢
    exact ⟨rfl, ep⟩

theorem subVV (gz oz cz gx ox cx gy oy cy n : Nat) (Lz Lx Ly : List Nat) (w : World) (hlen : n ≤ 1000000)
 (bz : Blk .u64 w gz Lz) (bx : Blk .u64 w gx Lx) (by_ : Blk .u64 w gy Ly) (hz : oz + n ≤ Lz.length) (hx : ox + n ≤ Lx.length) (hy : oy + n ≤ Ly.length)
 (hax : gx ≠ gz ∨ oz ≤ ox) (hay : gy ≠ gz ∨ oz ≤ oy) :
 Calls Tryz.prog 161 #[.slice (some ⟨gz, oz, none⟩) n cz, .slice (some ⟨gx, ox, none⟩) n cx, .slice (some ⟨gy, oy, none⟩) n cy] w
  fun e w' => e = .returned (.int .u64 ((subVs (seg Lx ox n) (seg Ly oy n) 0).2 : Nat)) ∧ Puts .u64 gz (spl Lz oz (subVs (seg Lx ox n) (seg Ly oy n) 0).1) w w' := by
 have H := hid (subVV_g gz oz cz gx ox cx gy oy cy n Lz Lx Ly w hlen bz bx by_ hz hx hy hax hay)
 clear bz bx by_ hz hx hy hax hay
 go_enter Tryz.func161, Tryz.ntmps161
 go_wp2_with (go_at_call 177; refine H.out.mono ?_; rintro e w' ⟨rfl, hp⟩)
 go_ret
 exact ⟨rfl, hp⟩

theorem mulAddVWW_g (gz oz cz gx ox cx n y r : Nat) (Lz Lx : List Nat) (w : World) (hlen : n ≤ 1000000)
 (bz : Blk .u64 w gz Lz) (bx : Blk .u64 w gx Lx) (hz : oz + n ≤ Lz.length) (hx : ox + n ≤ Lx.length)
 (hbx : ∀ a ∈ Lx, a < 18446744073709551616) (hy : y < 18446744073709551616) (hr0 : r < 18446744073709551616) (hax : gx ≠ gz ∨ oz ≤ ox) :
 Calls Tryz.prog 234 #[.slice (some ⟨gz, oz, none⟩) n cz, .slice (some ⟨gx, ox, none⟩) n cx, .int .u64 y, .int .u64 r] w
  fun e w' => e = .returned (.int .u64 ((mulVs (seg Lx ox n) y r).2 : Nat)) ∧ Puts .u64 gz (spl Lz oz (mulVs (seg Lx ox n) y r).1) w w' := by
 have H_bz := hid bz; have H_bx := hid bx; have H_hz := hid hz; have H_hx := hid hx; have H_hbx := hid hbx; have H_hr0 := hid hr0; have H_hax := hid hax; clear bz bx hz hx hbx hr0 hax
 go_enter Tryz.func234, Tryz.ntmps234
 go_wp2_with (fail)
 go_loopw [8, 19] (fun c i wr => ∃ k : Nat, k ≤ n ∧ i = .int .i64 k ∧ c = .int .u64 ((mulVs (seg Lx ox k) y r).2 : Nat) ∧ Puts .u64 gz (spl Lz oz (mulVs (seg Lx ox k) y r).1) w wr) (fun _ i _ => n - (intOf i).toNat)
 case atStart => exact ⟨0, Nat.zero_le _, rfl, by simp [seg_zero, mulVs], by rw [seg_zero]; simp only [mulVs]; rw [spl_nil]; exact Puts.refl H_bz.out⟩
 case round =>
  obtain ⟨k, hk, rfl, rfl, hp⟩ := hrel
  by_cases hlt : k < n
  · have hl : (mulVs (seg Lx ox k) y r).1.length = k := by
     have := H_hx.out
     rw [mulVs_length, sgL (by omega)]
    have hs := mulVs_snoc (Lx.getD (ox + k) 0) y (seg Lx ox k) r
    rw [← seg_succ (by have := H_hx.out; omega)] at hs
    have h3 := mulVs_carry (seg Lx ox k) y r (fun a ha => H_hbx.out a (seg_mem ha)) hy H_hr0.out
    have h4 := getD_lt H_hbx.out pos64 (ox + k)
    generalize hr : mulVs (seg Lx ox k) y r = res at *
    obtain ⟨l, c⟩ := res
    simp only at h3 hl hp hs
    have H_hs := hid hs; have H_hr := hid hr; have H_hp := hid hp; have H_hl := hid hl; clear hs hr hp hl
    have hcx : wr.cell? ⟨gx, ox + k, none⟩ = some (wd .u64 (Lx.getD (ox + k) 0)) := by
     have := H_hx.out; have := H_hz.out; have := H_hl.out
     by_cases e : gx = gz
     · obtain rfl : Lx = Lz := Blk.uniq (by rw [e] at H_bx; exact H_bx.out) H_bz.out
       rw [e, H_hp.out.blk.cell (by rw [sgl (by omega)]; omega), sgD (by omega), if_neg (by have := H_hax.out; omega)]
     · exact (H_hp.out.other e H_bx.out).cell (by omega)
    have hz1 := H_hp.out.blk.cell (o := oz + k) (by have := H_hz.out; have := H_hl.out; rw [sgl (by omega)]; omega)
    have hz2 := H_hp.out.blk.frozen (oz + k)
    generalize Lx.getD (ox + k) 0 = x at *
    generalize (spl Lz oz l).getD (oz + k) 0 = z0 at *
    go_wp2_with (go_at_call 248; refine (mulAddWWW_g x y c h4 hy h3 _).mono ?_; rintro e w' ⟨rfl, rfl⟩)
    go_roundw
    case rel =>
     refine ⟨k + 1, by omega, by go_num, by rw [H_hs.out], ?_⟩
     rw [H_hs.out]
     have := (H_hp.out).set (oz + k) (maL x y c)
     rw [spl_set (by rw [H_hl.out]) (by have := H_hz.out; omega)] at this
     exact this
    case measure => simp [intOf]; omega
  · have HE := hid (show k = n by omega)
    have H_hp := hid hp; clear hp
    go_wp2
    go_ret
    have ep := H_hp.out
    rw [HE.out] at ep ⊢
    exact ⟨rfl, ep⟩

theorem mulAddVWW (gz oz cz gx ox cx n y r : Nat) (Lz Lx : List Nat) (w : World) (hlen : n ≤ 1000000)
 (bz : Blk .u64 w gz Lz) (bx : Blk .u64 w gx Lx) (hz : oz + n ≤ Lz.length) (hx : ox + n ≤ Lx.length)
 (hbx : ∀ a ∈ Lx, a < 18446744073709551616) (hy : y < 18446744073709551616) (hr0 : r < 18446744073709551616) (hax : gx ≠ gz ∨ oz ≤ ox) :
 Calls Tryz.prog 217 #[.slice (some ⟨gz, oz, none⟩) n cz, .slice (some ⟨gx, ox, none⟩) n cx, .int .u64 y, .int .u64 r] w
  fun e w' => e = .returned (.int .u64 ((mulVs (seg Lx ox n) y r).2 : Nat)) ∧ Puts .u64 gz (spl Lz oz (mulVs (seg Lx ox n) y r).1) w w' := by
 have H := hid (mulAddVWW_g gz oz cz gx ox cx n y r Lz Lx w hlen bz bx hz hx hbx hy hr0 hax)
 clear bz bx hz hx hbx hr0 hax hy
 go_enter Tryz.func217, Tryz.ntmps217
 go_wp2_with (go_at_call 234; refine H.out.mono ?_; rintro e w' ⟨rfl, hp⟩)
 go_ret
 exact ⟨rfl, hp⟩

theorem addMulVVWW_g (gz oz cz gx ox cx gy oy cy n m r : Nat) (Lz Lx Ly : List Nat) (w : World) (hlen : n ≤ 1000000)
 (bz : Blk .u64 w gz Lz) (bx : Blk .u64 w gx Lx) (by_ : Blk .u64 w gy Ly) (hz : oz + n ≤ Lz.length) (hx : ox + n ≤ Lx.length) (hy : oy + n ≤ Ly.length)
 (hbx : ∀ a ∈ Lx, a < 18446744073709551616) (hby : ∀ a ∈ Ly, a < 18446744073709551616) (hm : m < 18446744073709551616) (hr0 : r < 18446744073709551616)
 (hax : gx ≠ gz ∨ oz ≤ ox) (hay : gy ≠ gz ∨ oz ≤ oy) :
 Calls Tryz.prog 237 #[.slice (some ⟨gz, oz, none⟩) n cz, .slice (some ⟨gx, ox, none⟩) n cx, .slice (some ⟨gy, oy, none⟩) n cy, .int .u64 m, .int .u64 r] w
  fun e w' => e = .returned (.int .u64 ((amVs (seg Lx ox n) (seg Ly oy n) m r).2 : Nat)) ∧ Puts .u64 gz (spl Lz oz (amVs (seg Lx ox n) (seg Ly oy n) m r).1) w w' := by
 have H_bz := hid bz; have H_bx := hid bx; have H_by_ := hid by_; have H_hz := hid hz; have H_hx := hid hx; have H_hy := hid hy; have H_hbx := hid hbx; have H_hby := hid hby; have H_hr0 := hid hr0; have H_hax := hid hax; have H_hay := hid hay; clear bz bx by_ hz hx hy hbx hby hr0 hax hay
 go_enter Tryz.func237, Tryz.ntmps237
 go_wp2_with (fail)
 go_loopw [10, 32] (fun c i wr => ∃ k : Nat, k ≤ n ∧ i = .int .i64 k ∧ c = .int .u64 ((amVs (seg Lx ox k) (seg Ly oy k) m r).2 : Nat) ∧ Puts .u64 gz (spl Lz oz (amVs (seg Lx ox k) (seg Ly oy k) m r).1) w wr) (fun _ i _ => n - (intOf i).toNat)
 case atStart => exact ⟨0, Nat.zero_le _, rfl, by simp [seg_zero, amVs], by rw [seg_zero, seg_zero]; simp only [amVs]; rw [spl_nil]; exact Puts.refl H_bz.out⟩
 case round =>
  obtain ⟨k, hk, rfl, rfl, hp⟩ := hrel
  by_cases hlt : k < n
  · have hl : (amVs (seg Lx ox k) (seg Ly oy k) m r).1.length = k := by
     have := H_hx.out; have := H_hy.out
     rw [amVs_length _ _ _ _ (by rw [sgL (by omega), sgL (by omega)]), sgL (by omega)]
    have hs := amVs_snoc (Lx.getD (ox + k) 0) (Ly.getD (oy + k) 0) m (seg Lx ox k) (seg Ly oy k) r (by have := H_hx.out; have := H_hy.out; rw [sgL (by omega), sgL (by omega)])
    rw [← seg_succ (by have := H_hx.out; omega), ← seg_succ (by have := H_hy.out; omega)] at hs
    have h3 := amVs_carry (seg Lx ox k) (seg Ly oy k) m r (fun a ha => H_hbx.out a (seg_mem ha)) (fun a ha => H_hby.out a (seg_mem ha)) hm H_hr0.out
    have h4 := getD_lt H_hbx.out pos64 (ox + k)
    have h5 := getD_lt H_hby.out pos64 (oy + k)
    generalize hr : amVs (seg Lx ox k) (seg Ly oy k) m r = res at *
    obtain ⟨l, c⟩ := res
    simp only at h3 hl hp hs
    have H_hs := hid hs; have H_hr := hid hr; have H_hp := hid hp; have H_hl := hid hl; clear hs hr hp hl
    have hcx : wr.cell? ⟨gx, ox + k, none⟩ = some (wd .u64 (Lx.getD (ox + k) 0)) := by
     have := H_hx.out; have := H_hz.out; have := H_hl.out
     by_cases e : gx = gz
     · obtain rfl : Lx = Lz := Blk.uniq (by rw [e] at H_bx; exact H_bx.out) H_bz.out
       rw [e, H_hp.out.blk.cell (by rw [sgl (by omega)]; omega), sgD (by omega), if_neg (by have := H_hax.out; omega)]
     · exact (H_hp.out.other e H_bx.out).cell (by omega)
    have hcy : wr.cell? ⟨gy, oy + k, none⟩ = some (wd .u64 (Ly.getD (oy + k) 0)) := by
     have := H_hy.out; have := H_hz.out; have := H_hl.out
     by_cases e : gy = gz
     · obtain rfl : Ly = Lz := Blk.uniq (by rw [e] at H_by_; exact H_by_.out) H_bz.out
       rw [e, H_hp.out.blk.cell (by rw [sgl (by omega)]; omega), sgD (by omega), if_neg (by have := H_hay.out; omega)]
     · exact (H_hp.out.other e H_by_.out).cell (by omega)
    have hz1 := H_hp.out.blk.cell (o := oz + k) (by have := H_hz.out; have := H_hl.out; rw [sgl (by omega)]; omega)
    have hz2 := H_hp.out.blk.frozen (oz + k)
    generalize Lx.getD (ox + k) 0 = x at *
    generalize Ly.getD (oy + k) 0 = y at *
    generalize (spl Lz oz l).getD (oz + k) 0 = z0 at *
    have hw := wrap_add (a := addC (maL y m x) c 0) (b := maH y m x) (by have := am_lt h4 h5 hm h3; omega)
    have H_hw := hid hw; clear hw
    go_wp2_with (first
     | go_quiet ((go_at_call 248; exact quietSame (mulAddWWW_g y m x h5 hm h4 _)))
     | (go_at_call 176; refine (bits_Add _ c 0 (by omega) _).mono ?_; rintro e w' ⟨rfl, rfl⟩))
    go_roundw
    case rel =>
     refine ⟨k + 1, by omega, by go_num, by rw [H_hs.out, H_hw.out, Nat.add_comm], ?_⟩
     rw [H_hs.out]
     have := (H_hp.out.drewN nq).set (oz + k) (addS (maL y m x) c 0)
     rw [spl_set (by rw [H_hl.out]) (by have := H_hz.out; omega)] at this
     exact this
    case measure => simp [intOf]; omega
  · have HE := hid (show k = n by omega)
    have H_hp := hid hp; clear hp
    go_wp2
    go_ret
    have ep := H_hp.out
    rw [HE.out] at ep ⊢
    exact ⟨rfl, ep⟩

theorem addMulVVWW (gz oz cz gx ox cx gy oy cy n m r : Nat) (Lz Lx Ly : List Nat) (w : World) (hlen : n ≤ 1000000)
 (bz : Blk .u64 w gz Lz) (bx : Blk .u64 w gx Lx) (by_ : Blk .u64 w gy Ly) (hz : oz + n ≤ Lz.length) (hx : ox + n ≤ Lx.length) (hy : oy + n ≤ Ly.length)
 (hbx : ∀ a ∈ Lx, a < 18446744073709551616) (hby : ∀ a ∈ Ly, a < 18446744073709551616) (hm : m < 18446744073709551616) (hr0 : r < 18446744073709551616)
 (hax : gx ≠ gz ∨ oz ≤ ox) (hay : gy ≠ gz ∨ oz ≤ oy) :
 Calls Tryz.prog 221 #[.slice (some ⟨gz, oz, none⟩) n cz, .slice (some ⟨gx, ox, none⟩) n cx, .slice (some ⟨gy, oy, none⟩) n cy, .int .u64 m, .int .u64 r] w
  fun e w' => e = .returned (.int .u64 ((amVs (seg Lx ox n) (seg Ly oy n) m r).2 : Nat)) ∧ Puts .u64 gz (spl Lz oz (amVs (seg Lx ox n) (seg Ly oy n) m r).1) w w' := by
 have H := hid (addMulVVWW_g gz oz cz gx ox cx gy oy cy n m r Lz Lx Ly w hlen bz bx by_ hz hx hy hbx hby hm hr0 hax hay)
 clear bz bx by_ hz hx hy hbx hby hr0 hax hay hm
 go_enter Tryz.func221, Tryz.ntmps221
 go_wp2_with (go_at_call 237; refine H.out.mono ?_; rintro e w' ⟨rfl, hp⟩)
 go_ret
 exact ⟨rfl, hp⟩

end Go.Proofs.YtllencgncinphaaGreatDoor
