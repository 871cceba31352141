/- big: lshVU, rshVU: words shifted by fewer bits than a word has. -/
import Derived.Lib.AppendZerosOnto
import Derived.Laws.AppendOwn
import Derived.Test.YtllencgncinphaaGreatDoorKE5
import Derived.Test.YtllencgncinphaaGreatDoorKE6
import Derived.Test.YtllencgncinphaaGreatDoorKE20
import Derived.Test.YtllencgncinphaaGreatDoorKE22
import Derived.Test.YtllencgncinphaaGreatDoorKE23
import Derived.Test.YtllencgncinphaaGreatDoorKE24
namespace Go.Proofs.YtllencgncinphaaGreatDoor
open Go.RowKit Go.Lib
open Go.Lib (hid)
set_option maxRecDepth 20000
set_option maxHeartbeats 4000000

def shlL : List Nat → Nat → Nat → List Nat
 | [], _, _ => []
 | x :: xs, p, s => (x * 2 ^ s % 18446744073709551616 + p / 2 ^ (64 - s)) :: shlL xs x s

def lastW : List Nat → Nat → Nat
 | [], p => p
 | x :: xs, _ => lastW xs x

def shrL : List Nat → Nat → List Nat
 | [], _ => []
 | [x], s => [x / 2 ^ s]
 | x :: y :: t, s => (x / 2 ^ s + y * 2 ^ (64 - s) % 18446744073709551616) :: shrL (y :: t) s

theorem two_split {s : Nat} (hs : s ≤ 64) : 2 ^ (64 - s) * 2 ^ s = 18446744073709551616 := by rw [← Nat.pow_add, show 64 - s + s = 64 by omega]

theorem shl_word (x : Nat) {s : Nat} (hs : s ≤ 64) : x * 2 ^ s % 18446744073709551616 + 18446744073709551616 * (x / 2 ^ (64 - s)) = x * 2 ^ s := by
 have e : x * 2 ^ s / 18446744073709551616 = x / 2 ^ (64 - s) := by
  rw [← two_split hs, Nat.mul_div_mul_right _ _ (Nat.pow_pos (by omega))]
 have := Nat.mod_add_div (x * 2 ^ s) 18446744073709551616
 rw [e] at this
 exact this

theorem shlL_length : ∀ (xs : List Nat) (p s : Nat), (shlL xs p s).length = xs.length
 | [], _, _ => rfl
 | x :: xs, p, s => by simp only [shlL, List.length_cons]; rw [shlL_length xs x s]

theorem shlL_val {s : Nat} (hs : s ≤ 64) : ∀ (xs : List Nat) (p : Nat), val (shlL xs p s) + wpow xs.length * (lastW xs p / 2 ^ (64 - s)) = val xs * 2 ^ s + p / 2 ^ (64 - s)
 | [], p => by simp [shlL, lastW, val, wpow_zero]
 | x :: xs, p => by
   have ih := shlL_val hs xs x
   have e := shl_word x hs
   simp only [shlL, lastW, val, List.length_cons, wpow_succ]
   rw [Nat.add_mul]
   generalize lastW xs x / 2 ^ (64 - s) = l at *
   generalize x / 2 ^ (64 - s) = h at *
   generalize x * 2 ^ s % 18446744073709551616 = a at *
   generalize p / 2 ^ (64 - s) = b at *
   generalize val (shlL xs x s) = v at *
   have e1 : 18446744073709551616 * wpow xs.length * l = 18446744073709551616 * (wpow xs.length * l) := Nat.mul_assoc _ _ _
   have e2 : 18446744073709551616 * val xs * 2 ^ s = 18446744073709551616 * (val xs * 2 ^ s) := Nat.mul_assoc _ _ _
   generalize wpow xs.length * l = c at *
   generalize val xs * 2 ^ s = d at *
   omega

theorem getD_cons1 (a : Nat) (l : List Nat) (i : Nat) : (a :: l).getD (i + 1) 0 = l.getD i 0 := rfl

theorem shlL_getD {s : Nat} : ∀ (xs : List Nat) (p i : Nat), i < xs.length → (shlL xs p s).getD i 0 = xs.getD i 0 * 2 ^ s % 18446744073709551616 + (if i = 0 then p else xs.getD (i - 1) 0) / 2 ^ (64 - s)
 | [], _, _, h => by simp at h
 | x :: xs, p, 0, _ => rfl
 | x :: xs, p, i + 1, h => by
   have := shlL_getD (s := s) xs x i (by simpa using h)
   simp only [shlL]
   rw [getD_cons1, this, getD_cons1, if_neg (show ¬ i + 1 = 0 by omega)]
   cases i with
   | zero => rw [if_pos rfl]; rfl
   | succ i => rw [if_neg (by omega)]; rfl

theorem lastW_getD : ∀ (xs : List Nat) (p : Nat), 0 < xs.length → lastW xs p = xs.getD (xs.length - 1) 0
 | [], _, h => by simp at h
 | [x], _, _ => rfl
 | x :: y :: t, p, _ => by
   have := lastW_getD (y :: t) x (by simp)
   simp only [lastW] at *
   rw [this]
   rfl

theorem or_shift {x p s : Nat} (hs : s ≤ 64) (hp : p < 18446744073709551616) :
 bits BinOp.or IntKind.u64 ((x * 2 ^ s % 18446744073709551616 : Nat) : Int) ((p / 2 ^ (64 - s) : Nat) : Int) = ((x * 2 ^ s % 18446744073709551616 + p / 2 ^ (64 - s) : Nat) : Int) ∧
 bits BinOp.or IntKind.u64 ((p / 2 ^ (64 - s) : Nat) : Int) ((x * 2 ^ s % 18446744073709551616 : Nat) : Int) = ((x * 2 ^ s % 18446744073709551616 + p / 2 ^ (64 - s) : Nat) : Int) ∧ x * 2 ^ s % 18446744073709551616 + p / 2 ^ (64 - s) < 18446744073709551616 := by
 have e := two_split hs
 have h1 : p / 2 ^ (64 - s) < 2 ^ s := by rw [Nat.div_lt_iff_lt_mul (Nat.pow_pos (by omega)), Nat.mul_comm, e]; exact hp
 have h2 : x * 2 ^ s % 18446744073709551616 = (x % 2 ^ (64 - s)) * 2 ^ s := by rw [← e, Nat.mul_mod_mul_right]
 have h3 := Nat.shiftLeft_add_eq_or_of_lt h1 (x % 2 ^ (64 - s))
 rw [Nat.shiftLeft_eq] at h3
 have h4 : (x % 2 ^ (64 - s) + 1) * 2 ^ s ≤ 2 ^ (64 - s) * 2 ^ s := Nat.mul_le_mul_right _ (Nat.mod_lt _ (Nat.pow_pos (by omega)))
 rw [e, Nat.add_mul, Nat.one_mul] at h4
 have h5 : p / 2 ^ (64 - s) < 18446744073709551616 := Nat.lt_of_le_of_lt (Nat.div_le_self _ _) hp
 have h6 := Nat.mod_lt (x * 2 ^ s) (show 0 < 18446744073709551616 by omega)
 refine ⟨?_, ?_, by rw [h2]; omega⟩
 · rw [bits_or_u64_nat _ _ h6 h5, h2, ← h3]
 · rw [bits_or_u64_nat _ _ h5 h6, Nat.or_comm, h2, ← h3]

theorem shlL_lt {s : Nat} (hs : s ≤ 64) : ∀ (xs : List Nat) (p : Nat), (∀ a ∈ xs, a < 18446744073709551616) → p < 18446744073709551616 → ∀ a ∈ shlL xs p s, a < 18446744073709551616
 | [], _, _, _ => by simp [shlL]
 | x :: xs, p, hx, hp => by
   intro a ha
   simp only [shlL, List.mem_cons] at ha
   rcases ha with rfl | ha
   · exact (or_shift hs hp).2.2
   · exact shlL_lt hs xs x (fun b hb => hx b (by simp [hb])) (hx x (by simp)) a ha

theorem shrL_length : ∀ (xs : List Nat) (s : Nat), (shrL xs s).length = xs.length
 | [], _ => rfl
 | [x], _ => rfl
 | x :: y :: t, s => by simp only [shrL, List.length_cons]; rw [shrL_length (y :: t) s]; rfl

theorem shr_word (y : Nat) {s : Nat} (hs : s ≤ 64) : y * 2 ^ (64 - s) % 18446744073709551616 * 2 ^ s = 18446744073709551616 * (y % 2 ^ s) := by
 have e := two_split hs
 have h2 : y * 2 ^ (64 - s) % 18446744073709551616 = (y % 2 ^ s) * 2 ^ (64 - s) := by rw [← e, Nat.mul_comm (2 ^ (64 - s)) (2 ^ s), Nat.mul_mod_mul_right]
 rw [h2, Nat.mul_assoc, e, Nat.mul_comm]

theorem shrL_val {s : Nat} (hs : s ≤ 64) : ∀ (xs : List Nat), val (shrL xs s) * 2 ^ s + xs.getD 0 0 % 2 ^ s = val xs
 | [] => by simp [shrL, val]
 | [x] => by
   have := Nat.div_add_mod x (2 ^ s)
   simp only [shrL, val, Nat.mul_zero, Nat.add_zero]
   rw [Nat.mul_comm]
   exact this
 | x :: y :: t => by
   have ih := shrL_val hs (y :: t)
   have e := shr_word y hs
   have d := Nat.div_add_mod x (2 ^ s)
   have e0 : (y :: t).getD 0 0 = y := rfl
   have e1 : (x :: y :: t).getD 0 0 = x := rfl
   rw [e0] at ih
   rw [e1, show val (x :: y :: t) = x + 18446744073709551616 * val (y :: t) from rfl, ← ih]
   simp only [shrL]
   rw [show val ((x / 2 ^ s + y * 2 ^ (64 - s) % 18446744073709551616) :: shrL (y :: t) s) = (x / 2 ^ s + y * 2 ^ (64 - s) % 18446744073709551616) + 18446744073709551616 * val (shrL (y :: t) s) from rfl]
   rw [Nat.add_mul, Nat.add_mul, e, Nat.mul_assoc]
   rw [Nat.mul_comm (2 ^ s)] at d
   generalize val (shrL (y :: t) s) * 2 ^ s = v at *
   omega

theorem shrL_getD {s : Nat} : ∀ (xs : List Nat) (i : Nat), i < xs.length → (shrL xs s).getD i 0 = xs.getD i 0 / 2 ^ s + (if i + 1 = xs.length then 0 else xs.getD (i + 1) 0 * 2 ^ (64 - s) % 18446744073709551616)
 | [], _, h => by simp at h
 | [x], 0, _ => rfl
 | [x], i + 1, h => by simp at h
 | x :: y :: t, 0, _ => rfl
 | x :: y :: t, i + 1, h => by
   have := shrL_getD (s := s) (y :: t) i (by simpa using h)
   simp only [shrL]
   rw [getD_cons1, this]
   have e : (i + 1 + 1 = (x :: y :: t).length) = (i + 1 = (y :: t).length) := by simp
   simp only [e]
   rfl

theorem shrL_lt {s : Nat} (hs0 : 0 < s) (hs : s ≤ 64) {xs : List Nat} (hx : ∀ a ∈ xs, a < 18446744073709551616) : ∀ a ∈ shrL xs s, a < 18446744073709551616 := by
 intro a ha
 obtain ⟨i, hi, rfl⟩ := List.mem_iff_getElem.1 ha
 have hl := shrL_length xs s
 have hg := shrL_getD (s := s) xs i (by omega)
 rw [show (shrL xs s)[i] = (shrL xs s).getD i 0 by simp [List.getD, hi], hg]
 split
 · have := getD_lt hx pos64 i
   have := Nat.div_le_self (xs.getD i 0) (2 ^ s)
   omega
 · have h := (or_shift (x := xs.getD (i + 1) 0) (p := xs.getD i 0) (s := 64 - s) (by omega) (getD_lt hx pos64 i)).2.2
   rw [show 64 - (64 - s) = s by omega] at h
   omega

theorem and63 : ∀ s : Fin 64, bits BinOp.and IntKind.u64 ((s.val : Nat) : Int) 63 = ((s.val : Nat) : Int) := by decide

theorem drop_getD {Z : List Nat} {k : Nat} (h : k < Z.length) : Z.drop k = Z.getD k 0 :: Z.drop (k + 1) := by
 rw [List.drop_eq_getElem_cons h]; simp [List.getD, h]

theorem lshVU_g_any (gz oz cz gx ox cx n s : Nat) (Lz Lx : List Nat) (w : World) (hn : 0 < n) (hlen : n ≤ 1000000) (hs0 : 0 < s) (hs : s < 64)
 (bz : Blk .u64 w gz Lz) (bx : Blk .u64 w gx Lx) (hz : oz + n ≤ Lz.length) (hx : ox + n ≤ Lx.length) (hbx : ∀ a ∈ Lx, a < 18446744073709551616) (hax : gx ≠ gz ∨ ox = oz) :
 Calls Tryz.prog 179 #[.slice (some ⟨gz, oz, none⟩) n cz, .slice (some ⟨gx, ox, none⟩) n cx, .int .u64 s] w
  fun e w' => e = .returned (.int .u64 ((lastW (seg Lx ox n) 0 / 2 ^ (64 - s) : Nat) : Int)) ∧ Hid (∃ nd, Puts .u64 gz (spl Lz oz (shlL (seg Lx ox n) 0 s)) (w.drewN nd) w') := by
 have t0 : ((s : Int) == 0) = false := by rw [beq_eq_false_iff_ne]; omega
 have t1 : ((n : Int) == 0) = false := by rw [beq_eq_false_iff_ne]; omega
 have u1 : bits BinOp.and IntKind.u64 (s : Int) 63 = (s : Int) := and63 ⟨s, hs⟩
 obtain ⟨c, hc⟩ : ∃ c, c = 64 - s := ⟨_, rfl⟩
 have ic : (64 : Int) - (s : Int) = (c : Int) := by omega
 have wc : IntKind.u64.wrap (c : Int) = (c : Int) := wum _ (by omega)
 have u2 : bits BinOp.and IntKind.u64 (c : Int) 63 = (c : Int) := and63 ⟨c, by omega⟩
 have hxl := sgL hx
 have hxb : ∀ a ∈ seg Lx ox n, a < 18446744073709551616 := fun a ha => hbx a (seg_mem ha)
 have hxg : ∀ j, j < n → (seg Lx ox n).getD j 0 = Lx.getD (ox + j) 0 := fun j hj => seg_getD hj
 generalize seg Lx ox n = xs at *
 have hZl := shlL_length xs 0 s
 have hZg := fun i h => shlL_getD (s := s) xs 0 i h
 have hlast := lastW_getD xs 0 (by omega)
 rw [← hc] at hZg ⊢
 generalize shlL xs 0 s = Z at *
 obtain ⟨b, hb⟩ : ∃ b, b = n - 1 := ⟨_, rfl⟩
 have ib : (n : Int) - 1 = (b : Int) := by omega
 have wb : IntKind.i64.wrap (b : Int) = (b : Int) := by rw [IntKind.wrap_i64]; omega
 have lb : (b : Int) < (n : Int) := by omega
 have hcb := bx.cell (o := ox + b) (by omega)
 rw [← hxg b (by omega), hb, ← hxl, ← hlast, hxl, ← hb] at hcb
 obtain ⟨r, hr⟩ : ∃ r, r = lastW xs 0 / 2 ^ c := ⟨_, rfl⟩
 have ir : ((lastW xs 0 : Nat) : Int) / 2 ^ c = (r : Int) := by rw [hr]; simp
 rw [← hr]
 have hsN : ¬ s = 0 := by omega
 have hnN : ¬ n = 0 := by omega
 have hs64 : (s : Int) < 64 := by omega
 have hc64 : (c : Int) < 64 := by omega
 generalize lastW xs 0 = lw at *
 have H_bz := hid bz; have H_bx := hid bx; have H_hz := hid hz; have H_hx := hid hx; have H_hbx := hid hbx; have H_hax := hid hax; have H_hxl := hid hxl; have H_hxb := hid hxb; have H_hxg := hid hxg; have H_hZl := hid hZl; have H_hZg := hid hZg; have H_hlast := hid hlast; have H_hb := hid hb; have H_hr := hid hr; have H_hc := hid hc; clear bz bx hz hx hbx hax hxl hxb hxg hZl hZg hlast hb hr hc
 go_enter Tryz.func179, Tryz.ntmps179
 go_wp2_with (fail)
 go_loopw [8] (fun i wr => ∃ k nd : Nat, i = .int .i64 (k : Int) ∧ k < n ∧ Hid (Puts .u64 gz (spl Lz (oz + (k + 1)) (Z.drop (k + 1))) (w.drewN nd) wr)) (fun i _ => (intOf i).toNat)
 case atStart =>
  refine ⟨b, 0, rfl, by omega, hid ?_⟩
  rw [List.drop_eq_nil_of_le (by have := H_hZl.out; have := H_hxl.out; omega), spl_nil]
  exact Puts.refl H_bz.out
 case round =>
  obtain ⟨k, nd, rfl, hk, hp⟩ := hrel
  have hzk : (spl Lz (oz + (k + 1)) (Z.drop (k + 1))).length = Lz.length := sgl (by have := H_hZl.out; have := H_hxl.out; have := H_hz.out; simp; omega)
  have rd : ∀ i, i ≤ k → wr.cell? ⟨gx, ox + i, none⟩ = some (wd .u64 (xs.getD i 0)) := by
   intro i hi
   rw [H_hxg.out i (by omega)]
   have := H_hx.out; have := H_hz.out
   by_cases e : gx = gz
   · obtain rfl : Lx = Lz := Blk.uniq (by rw [e] at H_bx; exact H_bx.out) H_bz.out
     rw [e, hp.out.blk.cell (by rw [hzk]; omega), sgD (by have := H_hZl.out; have := H_hxl.out; simp; omega), if_neg (by have := H_hax.out; omega)]
   · exact (hp.out.other e (H_bx.out.drewN nd)).cell (by omega)
  have hcz := hp.out.blk.cell (o := oz + k) (by have := H_hz.out; rw [hzk]; omega)
  have hfz := hp.out.blk.frozen (oz + k)
  generalize (spl Lz (oz + (k + 1)) (Z.drop (k + 1))).getD (oz + k) 0 = z0 at *
  have hZk := H_hZg.out k (by rw [H_hxl.out]; exact hk)
  have hZd := drop_getD (Z := Z) (k := k) (by rw [H_hZl.out, H_hxl.out]; exact hk)
  have hcl : ∀ v, (spl Lz (oz + (k + 1)) (Z.drop (k + 1))).set (oz + k) v = spl Lz (oz + k) (v :: Z.drop (k + 1)) := by
   intro v
   rw [show oz + (k + 1) = oz + k + 1 by omega]
   exact spl_cons v (by have := H_hZl.out; have := H_hxl.out; have := H_hz.out; simp; omega)
  have lk : (k : Int) < (n : Int) := by omega
  rcases Nat.eq_zero_or_pos k with hk0 | hk0
  · subst hk0
    have t2 : decide ((0 : Int) < ((0 : Nat) : Int)) = false := by simp
    have h0 := rd 0 (Nat.le_refl _)
    rw [Nat.add_zero] at h0
    generalize xs.getD 0 0 = x0 at *
    have wz : IntKind.u64.wrap ((x0 : Int) * 2 ^ s) = ((x0 * 2 ^ s % 18446744073709551616 : Nat) : Int) := by
     rw [show (x0 : Int) * 2 ^ s = ((x0 * 2 ^ s : Nat) : Int) from by simp]; exact wrap_u64_mod _
    rw [if_pos rfl, Nat.zero_div, Nat.add_zero] at hZk
    generalize x0 * 2 ^ s % 18446744073709551616 = z1 at *
    rw [Nat.add_zero] at hcz hfz
    have hp1 := hp.out.set (oz + 0) z1
    rw [hcl, ← hZk, ← hZd, List.drop_zero, Nat.add_zero] at hp1
    rw [hZk] at hp1
    clear rd
    have l0 : (0 : Int) < (n : Int) := by omega
    have H_hp1 := hid hp1; have H_hZk := hid hZk; have H_hZd := hid hZd; have H_hcl := hid hcl; have H_hzk := hid hzk; clear hp1 hZk hZd hcl hzk
    go_wp2_with (fail)
    go_ret
    exact ⟨rfl, nd, H_hp1.out⟩
  · have t2 : decide ((0 : Int) < (k : Int)) = true := by simp; omega
    have hk0' : 0 < k := hk0
    obtain ⟨j, hj⟩ : ∃ j, j = k - 1 := ⟨_, rfl⟩
    have ij : (k : Int) - 1 = (j : Int) := by omega
    have wj : IntKind.i64.wrap (j : Int) = (j : Int) := by rw [IntKind.wrap_i64]; omega
    have lj : (j : Int) < (n : Int) := by omega
    have h0 := rd k (Nat.le_refl _)
    have h1 := rd j (by omega)
    rw [if_neg (by omega), ← hj] at hZk
    have hos := or_shift (x := xs.getD k 0) (p := xs.getD j 0) (s := s) (by omega) (getD_lt H_hxb.out pos64 j)
    rw [← H_hc.out] at hos
    generalize xs.getD k 0 = x0 at *
    generalize xs.getD j 0 = x1 at *
    have wz : IntKind.u64.wrap ((x0 : Int) * 2 ^ s) = ((x0 * 2 ^ s % 18446744073709551616 : Nat) : Int) := by
     rw [show (x0 : Int) * 2 ^ s = ((x0 * 2 ^ s : Nat) : Int) from by simp]; exact wrap_u64_mod _
    have wy : (x1 : Int) / 2 ^ c = ((x1 / 2 ^ c : Nat) : Int) := by simp
    generalize x0 * 2 ^ s % 18446744073709551616 = z1 at *
    generalize x1 / 2 ^ c = z2 at *
    obtain ⟨hos1, _, _⟩ := hos
    rw [← hZk] at hos1
    have hp1 : ∀ q, Puts .u64 gz (spl Lz (oz + k) (Z.drop k)) (w.drewN nd) ((wr.drewN q).setCell ⟨gz, oz + k, none⟩ (wd .u64 (Z.getD k 0))) := by
     intro q
     have := (hp.out.drewN q).set (oz + k) (Z.getD k 0)
     rw [hcl, ← hZd] at this
     exact this
    generalize Z.getD k 0 = zk at *
    clear rd
    have H_hp1 := hid hp1; have H_hZk := hid hZk; have H_hZd := hid hZd; have H_hcl := hid hcl; have H_hzk := hid hzk; have H_hj := hid hj; clear hp1 hZk hZd hcl hzk hj
    go_wp2_with (fail)
    go_still_tail 17, (by kernel_rfl)
    change wpList _ _ _ _ _ (World.drew _)
    go_wp2_with (fail)
    go_roundw
    case rel =>
     refine ⟨j, nd, by simp, by omega, hid ?_⟩
     have := H_hp1.out 1
     rw [show j + 1 = k by have := H_hj.out; omega]
     exact this
    case measure => simp [intOf]; omega

theorem lshVU_any (gz oz cz gx ox cx n s : Nat) (Lz Lx : List Nat) (w : World) (hn : 0 < n) (hlen : n ≤ 1000000) (hs0 : 0 < s) (hs : s < 64)
 (bz : Blk .u64 w gz Lz) (bx : Blk .u64 w gx Lx) (hz : oz + n ≤ Lz.length) (hx : ox + n ≤ Lx.length) (hbx : ∀ a ∈ Lx, a < 18446744073709551616) (hax : gx ≠ gz ∨ ox = oz) :
 Calls Tryz.prog 164 #[.slice (some ⟨gz, oz, none⟩) n cz, .slice (some ⟨gx, ox, none⟩) n cx, .int .u64 s] w
  fun e w' => e = .returned (.int .u64 ((lastW (seg Lx ox n) 0 / 2 ^ (64 - s) : Nat) : Int)) ∧ Hid (Keep (fun k => k = gz) w w' ∧ Blk .u64 w' gz (spl Lz oz (shlL (seg Lx ox n) 0 s))) := by
 have H := hid (lshVU_g_any gz oz cz gx ox cx n s Lz Lx w hn hlen hs0 hs bz bx hz hx hbx hax)
 clear bz bx hz hx hbx hax
 generalize lastW (seg Lx ox n) 0 / 2 ^ (64 - s) = r at *
 go_enter Tryz.func164, Tryz.ntmps164
 go_wp2_with (go_at_call 179; refine H.out.mono ?_; rintro e w' ⟨rfl, hp⟩)
 go_ret
 obtain ⟨nd, hp⟩ := hp.out
 exact ⟨rfl, hid ⟨hp.keep.of_drewN, hp.blk⟩⟩

theorem rshVU_g_any (g o cz cx n s : Nat) (L : List Nat) (w : World) (hn : 0 < n) (hlen : n ≤ 1000000) (hs0 : 0 < s) (hs : s < 64)
 (bz : Blk .u64 w g L) (hz : o + n ≤ L.length) (hbx : ∀ a ∈ L, a < 18446744073709551616) :
 Calls Tryz.prog 219 #[.slice (some ⟨g, o, none⟩) n cz, .slice (some ⟨g, o, none⟩) n cx, .int .u64 s] w
  fun e w' => (∃ c : Nat, e = .returned (.int .u64 (c : Int))) ∧ Hid (∃ nd, Puts .u64 g (spl L o (shrL (seg L o n) s)) (w.drewN nd) w') := by
 have t0 : ((s : Int) == 0) = false := by rw [beq_eq_false_iff_ne]; omega
 have t1 : ((n : Int) == 0) = false := by rw [beq_eq_false_iff_ne]; omega
 have u1 : bits BinOp.and IntKind.u64 (s : Int) 63 = (s : Int) := and63 ⟨s, hs⟩
 obtain ⟨c, hc⟩ : ∃ c, c = 64 - s := ⟨_, rfl⟩
 have ic : (64 : Int) - (s : Int) = (c : Int) := by omega
 have wc : IntKind.u64.wrap (c : Int) = (c : Int) := wum _ (by omega)
 have u2 : bits BinOp.and IntKind.u64 (c : Int) 63 = (c : Int) := and63 ⟨c, by omega⟩
 have hxl := sgL hz
 have hxb : ∀ a ∈ seg L o n, a < 18446744073709551616 := fun a ha => hbx a (seg_mem ha)
 have hxg : ∀ j, j < n → (seg L o n).getD j 0 = L.getD (o + j) 0 := fun j hj => seg_getD hj
 generalize seg L o n = xs at *
 have hZl := shrL_length xs s
 have hZg := fun i h => shrL_getD (s := s) xs i h
 rw [← hc] at hZg
 generalize shrL xs s = Z at *
 obtain ⟨b, hb⟩ : ∃ b, b = n - 1 := ⟨_, rfl⟩
 have ib : (n : Int) - 1 = (b : Int) := by omega
 have wb : IntKind.i64.wrap (b : Int) = (b : Int) := by rw [IntKind.wrap_i64]; omega
 have lb : (b : Int) < (n : Int) := by omega
 have ln0 : (0 : Int) < (n : Int) := by omega
 have h00 := bz.cell (o := o) (by omega)
 have hsN : ¬ s = 0 := by omega
 have hnN : ¬ n = 0 := by omega
 have hs64 : (s : Int) < 64 := by omega
 have hc64 : (c : Int) < 64 := by omega
 generalize L.getD o 0 = x00 at *
 obtain ⟨r, hr⟩ : ∃ r, r = x00 * 2 ^ c % 18446744073709551616 := ⟨_, rfl⟩
 have ir : IntKind.u64.wrap ((x00 : Int) * 2 ^ c) = (r : Int) := by
  rw [show (x00 : Int) * 2 ^ c = ((x00 * 2 ^ c : Nat) : Int) from by simp, hr]; exact wrap_u64_mod _
 clear hr
 have H_bz := hid bz; have H_hz := hid hz; have H_hbx := hid hbx; have H_hxl := hid hxl; have H_hxb := hid hxb; have H_hxg := hid hxg; have H_hZl := hid hZl; have H_hZg := hid hZg; have H_hb := hid hb; have H_hc := hid hc; clear bz hz hbx hxl hxb hxg hZl hZg hb hc
 go_enter Tryz.func219, Tryz.ntmps219
 go_wp2_with (fail)
 go_loopw [8] (fun i wr => ∃ k nd : Nat, i = .int .i64 ((k + 1 : Nat) : Int) ∧ k < n ∧ Hid (Puts .u64 g (spl L o (Z.take k)) (w.drewN nd) wr)) (fun i _ => n - (intOf i).toNat)
 case atStart =>
  refine ⟨0, 0, by simp, by omega, hid ?_⟩
  rw [List.take_zero, spl_nil]
  exact Puts.refl H_bz.out
 case round =>
  obtain ⟨k, nd, rfl, hk, hp⟩ := hrel
  have hZt : (Z.take k).length = k := by have := H_hZl.out; have := H_hxl.out; simp; omega
  have hzk : (spl L o (Z.take k)).length = L.length := sgl (by have := H_hz.out; omega)
  have rd : ∀ i, k ≤ i → i < n → wr.cell? ⟨g, o + i, none⟩ = some (wd .u64 (xs.getD i 0)) := by
   intro i hi hin
   rw [H_hxg.out i hin]
   have := H_hz.out
   rw [hp.out.blk.cell (by rw [hzk]; omega), sgD (by omega), if_neg (by omega)]
  have h0 := rd k (Nat.le_refl _) hk
  have hfz := hp.out.blk.frozen (o + k)
  have hZk := H_hZg.out k (by rw [H_hxl.out]; exact hk)
  have hZt1 : Z.take (k + 1) = Z.take k ++ [Z.getD k 0] := by
   rw [List.take_succ_eq_append_getElem (by have := H_hZl.out; have := H_hxl.out; omega)]
   simp [List.getD, show k < Z.length by have := H_hZl.out; have := H_hxl.out; omega]
  have hcl : ∀ v, (spl L o (Z.take k)).set (o + k) v = spl L o (Z.take k ++ [v]) := fun v => spl_set (by rw [hZt]) (by have := H_hz.out; omega)
  have lk : (k : Int) < (n : Int) := by omega
  obtain ⟨k1, hk1⟩ : ∃ a, a = k + 1 := ⟨_, rfl⟩
  rw [← hk1]
  have ik1 : (k1 : Int) - 1 = (k : Int) := by omega
  have wk : IntKind.i64.wrap (k : Int) = (k : Int) := by rw [IntKind.wrap_i64]; omega
  rw [← hk1] at hZk hZt1
  rcases Nat.lt_or_ge k1 n with hlt | hge
  · have t2 : decide ((k1 : Int) < (n : Int)) = true := by simp; omega
    have hlt' : (k1 : Int) < (n : Int) := by omega
    have h1 := rd k1 (by omega) hlt
    rw [if_neg (by have := H_hxl.out; omega)] at hZk
    have hos := or_shift (x := xs.getD k1 0) (p := xs.getD k 0) (s := c) (by have := H_hc.out; omega) (getD_lt H_hxb.out pos64 k)
    rw [show 64 - c = s by have := H_hc.out; omega] at hos
    generalize xs.getD k 0 = x0 at *
    generalize xs.getD k1 0 = x1 at *
    have wz : IntKind.u64.wrap ((x1 : Int) * 2 ^ c) = ((x1 * 2 ^ c % 18446744073709551616 : Nat) : Int) := by
     rw [show (x1 : Int) * 2 ^ c = ((x1 * 2 ^ c : Nat) : Int) from by simp]; exact wrap_u64_mod _
    have wy : (x0 : Int) / 2 ^ s = ((x0 / 2 ^ s : Nat) : Int) := by simp
    generalize x1 * 2 ^ c % 18446744073709551616 = z1 at *
    generalize x0 / 2 ^ s = z2 at *
    obtain ⟨_, hos1, _⟩ := hos
    rw [show z1 + z2 = Z.getD k 0 by omega] at hos1
    have hp1 : ∀ q, Puts .u64 g (spl L o (Z.take k1)) (w.drewN nd) ((wr.drewN q).setCell ⟨g, o + k, none⟩ (wd .u64 (Z.getD k 0))) := by
     intro q
     have := (hp.out.drewN q).set (o + k) (Z.getD k 0)
     rw [hcl, ← hZt1] at this
     exact this
    generalize Z.getD k 0 = zk at *
    have ik2 : (k1 : Int) + 1 = ((k1 + 1 : Nat) : Int) := by omega
    have wk2 : IntKind.i64.wrap ((k1 + 1 : Nat) : Int) = ((k1 + 1 : Nat) : Int) := by rw [IntKind.wrap_i64]; omega
    obtain ⟨k2, hk2⟩ : ∃ a, a = k1 + 1 := ⟨_, rfl⟩
    rw [← hk2] at ik2 wk2
    clear rd
    have H_hp1 := hid hp1; have H_hZk := hid hZk; have H_hZt1 := hid hZt1; have H_hcl := hid hcl; have H_hzk := hid hzk; have H_hk1 := hid hk1; have H_hZt := hid hZt; have H_hk2 := hid hk2; clear hp1 hZk hZt1 hcl hzk hk1 hZt hk2
    go_wp2_with (fail)
    go_still_tail 18, (by kernel_rfl)
    change wpList _ _ _ _ _ (World.drew _)
    go_wp2_with (fail)
    go_roundw
    case rel =>
     refine ⟨k1, nd, by rw [H_hk2.out], by omega, hid ?_⟩
     exact H_hp1.out 1
    case measure => simp [intOf]; have := H_hk2.out; omega
  · have hkb : k = b := by have := H_hb.out; omega
    have t2 : decide ((k1 : Int) < (n : Int)) = false := by simp; omega
    have t2n : ¬ k1 < n := by omega
    rw [if_pos (by have := H_hxl.out; omega), Nat.add_zero] at hZk
    subst hkb
    generalize xs.getD k 0 = x0 at *
    have wy : (x0 : Int) / 2 ^ s = ((x0 / 2 ^ s : Nat) : Int) := by simp
    rw [← hZk] at wy
    have hp1 := hp.out.set (o + k) (Z.getD k 0)
    rw [hcl, ← hZt1, show k1 = n by omega, List.take_of_length_le (by have := H_hZl.out; have := H_hxl.out; omega)] at hp1
    generalize Z.getD k 0 = zk at *
    clear rd
    have H_hp1 := hid hp1; have H_hZk := hid hZk; have H_hZt1 := hid hZt1; have H_hcl := hid hcl; have H_hzk := hid hzk; have H_hk1 := hid hk1; have H_hZt := hid hZt; clear hp1 hZk hZt1 hcl hzk hk1 hZt
    go_wp2_with (fail)
    go_ret
    exact ⟨⟨r, rfl⟩, nd, H_hp1.out⟩

theorem rshVU_any (g o cz cx n s : Nat) (L : List Nat) (w : World) (hn : 0 < n) (hlen : n ≤ 1000000) (hs0 : 0 < s) (hs : s < 64)
 (bz : Blk .u64 w g L) (hz : o + n ≤ L.length) (hbx : ∀ a ∈ L, a < 18446744073709551616) :
 Calls Tryz.prog 188 #[.slice (some ⟨g, o, none⟩) n cz, .slice (some ⟨g, o, none⟩) n cx, .int .u64 s] w
  fun e w' => (∃ c : Nat, e = .returned (.int .u64 (c : Int))) ∧ Hid (Keep (fun k => k = g) w w' ∧ Blk .u64 w' g (spl L o (shrL (seg L o n) s))) := by
 have H := hid (rshVU_g_any g o cz cx n s L w hn hlen hs0 hs bz hz hbx)
 clear bz hz hbx
 go_enter Tryz.func188, Tryz.ntmps188
 go_wp2_with (go_at_call 219; refine H.out.mono ?_; rintro e w' ⟨⟨c, rfl⟩, hp⟩)
 go_ret
 obtain ⟨nd, hp⟩ := hp.out
 exact ⟨⟨c, rfl⟩, hid ⟨hp.keep.of_drewN, hp.blk⟩⟩

def Stk0 (w : World) (b : Nat) : Prop := w.cell? ⟨b, 0, none⟩ = some (.pointer none)

theorem save_nil (b : Nat) (w : World) (h : Stk0 w b) : Calls Tryz.prog 183 #[.pointer (some ⟨b, 0, none⟩)] w (fun e w' => e = .returned (.int .i64 0) ∧ w = w') := by
 unfold Stk0 at h
 go_enter Tryz.func183, Tryz.ntmps183
 go_wp2
 go_ret
 exact ⟨rfl, rfl⟩

theorem restore_nil (b : Nat) (w : World) (h : Stk0 w b) : CallsD Tryz.prog 182 #[.pointer (some ⟨b, 0, none⟩), .int .i64 0] .returning w (fun e u' w' => u' = .returning ∧ (e = .returned (.tuple #[]) ∧ w' = w)) := by
 unfold Stk0 at h
 go_enter_d Tryz.func182, Tryz.ntmps182
 go_wp2
 first
  | (go_end0; exact ⟨rfl, rfl⟩)
  | (refine ⟨rfl, .tuple #[], by simp [results, Tryz.results182], rfl, rfl⟩)

theorem free_nil (b : Nat) (w : World) (h : Stk0 w b) : CallsD Tryz.prog 168 #[.pointer (some ⟨b, 0, none⟩)] .returning w (fun e u' w' => u' = .returning ∧ (e = .returned (.tuple #[]) ∧ w' = w)) := by
 unfold Stk0 at h
 go_enter_d Tryz.func168, Tryz.ntmps168
 go_wp2
 go_end0
 exact ⟨rfl, rfl⟩

theorem zero_cells (n : Nat) : (Builtin.zeroCells #[Value.int .u64 0] n).toList = List.replicate n (Value.int .u64 0) := by
 simp [Builtin.zeroCells]
 apply List.ext_getElem
 · simp
 · intro i h1 h2
   simp [Nat.mod_one]

theorem Grow_nil (n : Nat) (w : World) (h0 : 0 < n) (hn : n ≤ 1000) :
 Calls Tryz.prog 214 #[.slice none 0 0, .int .i64 n] w (fun e w' => ∃ G, e = .returned (.slice (some ⟨w.heap.size, 0, none⟩) 0 G) ∧ n ≤ G ∧ G ≤ 9223372036854775807 ∧ Hid (Blk .u64 w' w.heap.size (List.replicate G 0) ∧ Fresh w w')) := by
 obtain ⟨i0, hi, hz0, hz1, hz2⟩ := info_parts (show (Tryz.prog.info? 123).map (fun i => (i.zero, i.size, i.bytes)) = some (some (.int .u64 0), 1, 8) from by kernel_rfl)
 have h1 : ¬ ((n : Int) < 0) := by omega
 have h4 : decide ((0 : Int) < (n : Int)) = true := by simp; omega
 have hold : (Builtin.firstCells i0.size 0 (.slice none 0 0)).run Tryz.prog w.drew = .ok (#[] : Array Value) w.drew := run_firstCells_none w.drew i0.size 0 0 0
 have hG0 := grownCap_ge w n 0 123
 have hG1 := grownCap_le_maxLen w n 0 123 (by unfold maxLen; omega)
 have hrz : ∀ ty, (Builtin.append_ #[108, 3] ty #[.slice none 0 0, .int .i64 (n : Int)]).run Tryz.prog w =
  .ok (.slice (some ⟨w.heap.size, 0, none⟩) n (grownCap w n 0 123)) (w.drew.alloc (.cells ((#[] : Array Value) ++ Builtin.zeroCells (Value.int .u64 0).cells n ++ Builtin.zeroCells (Value.int .u64 0).cells (grownCap w n 0 123 - n)) 123)) := fun ty => by
  have h := Lib.run_append_grow_zeros w 108 3 ty 123 i0 (.int .u64 0) .i64 .i64 Tryz.underlying108 Tryz.underlying3 hi hz0 none 0 0 [] hold n (by omega) (by omega) (by omega) (by omega)
   (by rw [hz2]; omega)
   (by rw [Nat.zero_add]; exact growslice_fits (by omega) (by rw [hz2]; omega))
  rw [Nat.zero_add] at h
  exact h
 obtain ⟨G, hG⟩ : ∃ G, G = grownCap w n 0 123 := ⟨_, rfl⟩
 rw [← hG] at hrz hG0 hG1
 unfold maxLen at hG1
 have hblk : ∀ cs : Array Value, cs.toList = List.replicate G (Value.int .u64 0) → Hid (Blk .u64 (w.alloc (.cells cs 123)).drew w.heap.size (List.replicate G 0) ∧ Fresh w (w.alloc (.cells cs 123)).drew) := by
  intro cs hcs
  refine hid ⟨⟨123, ?_⟩, ((Keep.refl _ _).alloc _).drew⟩
  rw [show (w.alloc (.cells cs 123)).drew.heap = (w.alloc (.cells cs 123)).heap from rfl, heap_alloc_new]
  congr 2
  apply Array.ext'
  rw [hcs]
  simp
 clear hold hi hz0 hz1 hz2 hG
 go_enter Tryz.func214, Tryz.ntmps214
 go_wp2_with (at_builtin; refine Lib.wpList_append_run _ rfl _ _ _ _ rfl _ _ rfl rfl _ _ (hrz _) ?_)
 all_goals (go_ret; exact ⟨G, rfl, hG0, by omega, hblk _ (by simp only [Array.toList_append, zero_cells, List.replicate_append_replicate]; rw [show n + (G - n) = G by omega])⟩)

theorem stkNat_nil (b n : Nat) (w : World) (h : Stk0 w b) (h0 : 0 < n) (hn : n ≤ 4) :
 Calls Tryz.prog 185 #[.pointer (some ⟨b, 0, none⟩), .int .i64 n] w (fun e w' => ∃ G L, e = .returned (.slice (some ⟨w.heap.size, 0, none⟩) n G) ∧ n ≤ G ∧ G ≤ 9223372036854775807 ∧
  Hid (Blk .u64 w' w.heap.size L ∧ L.length = G ∧ (∀ a ∈ L, a < 18446744073709551616) ∧ Fresh w w')) := by
 unfold Stk0 at h
 have t1 : decide ((n : Int) ≤ 4) = true := by simp; omega
 have t2 : decide ((0 : Int) < (n : Int)) = true := by simp; omega
 have hg := Grow_nil n w h0 (by omega)
 have H_hg := hid hg; clear hg
 go_enter Tryz.func185, Tryz.ntmps185
 go_wp2_with (fail)
 refine H_hg.out.mono ?_
 rintro e w1 ⟨G, rfl, hG1, hG2, hb⟩
 have hc0 := hb.out.1.cell (o := 0) (by simp; omega)
 have hf0 := hb.out.1.frozen 0
 have hs := hb.out.1.set 0 11259375
 have hfr := hb.out.2
 have lnG : (n : Int) ≤ (G : Int) := by omega
 have ln0 : (0 : Int) < (n : Int) := by omega
 generalize (List.replicate G 0).getD 0 0 = z0 at *
 have H_hs := hid hs; have H_hfr := hid hfr; clear hs hfr
 go_wp2_with (fail)
 go_ret
 refine ⟨G, (List.replicate G 0).set 0 11259375, rfl, hG1, hG2, hid ⟨H_hs.out, by simp, ?_, ?_⟩⟩
 · intro a ha
   rcases List.mem_or_eq_of_mem_set ha with ha | rfl
   · rw [List.eq_of_mem_replicate ha]; omega
   · omega
 · exact H_hfr.out.setCell (fun h => absurd h (by show ¬ w.heap.size < w.heap.size; omega)) _

def DivWRet (w : World) (zv : Value) (X y : Nat) (e : Ending) (w' : World) : Prop :=
 ∃ qv l, e = .returned (.tuple #[qv, .int .u64 ((X % y : Nat) : Int)]) ∧ NatOp w zv qv l w' ∧ Norm l ∧ val l = X / y

theorem div_uniq {X V y r : Nat} (h : X = V * y + r) (hr : r < y) : X / y = V ∧ X % y = r := by
 subst h
 rw [Nat.mul_comm]
 refine ⟨?_, ?_⟩
 · rw [Nat.mul_add_div (by omega), Nat.div_eq_of_lt hr]; omega
 · rw [Nat.mul_add_mod, Nat.mod_eq_of_lt hr]

theorem divW_any (zv xv : Value) (zl xl : List Nat) (y : Nat) (w : World) (hn : xl.length < 1000000) (hy : y < 18446744073709551616) (hy2 : 2 ≤ y) (h : NatAt w zv zl) (hx : NatAt w xv xl) (hsx : Sep zv xv) :
 Calls Tryz.prog 165 #[zv, xv, .int .u64 y] w (DivWRet w zv (val xl) y) := by
 have b0 : ((y : Int) == 0) = false := by rw [beq_eq_false_iff_ne]; omega
 have b1 : ((y : Int) == 1) = false := by rw [beq_eq_false_iff_ne]; omega
 by_cases h0 : xl.length = 0
 · obtain ⟨a, c, hv⟩ := h.form
   obtain ⟨ax, cx, hxv⟩ := hx.form
   have hr : NatRet w zv 0 (.returned (.slice a 0 c)) w := NatRet.empty h hv
   have e0 : val xl = 0 := by rw [List.eq_nil_of_length_eq_zero h0]; rfl
   rw [e0]
   rw [h0] at hxv
   generalize zl.length = nz at *
   subst hv hxv
   clear hn h0 e0
   have H_h := hid h; have H_hx := hid hx; have H_hsx := hid hsx; have H_hr := hid hr; have H_hy := hid hy; have H_hy2 := hid hy2; clear h hx hsx hr hy hy2
   go_enter Tryz.func165, Tryz.ntmps165
   go_wp2
   go_ret2
   obtain ⟨rv, l, he, h1, h2, h3⟩ := H_hr.out
   cases he
   exact ⟨_, l, by simp, h1, h2, by simpa using h3⟩
 · obtain ⟨gx, ox, cx, M, rfl, bx, hx1, hx2, hx3, hx4⟩ := hx.open_pos (by omega)
   have hm := make_any zv zl xl.length w (by omega) (by omega) h
   have hgx := bx.lt
   have hb1 : ((xl.length : Int) == 0) = false := by rw [beq_eq_false_iff_ne]; omega
   generalize hml : xl.length = m at *
   have H_h := hid h; have H_hm := hid hm; have H_hx := hid hx; have H_hsx := hid hsx; have H_bx := hid bx; have H_hx3 := hid hx3; have H_hx4 := hid hx4; have H_hx2 := hid hx2; have H_hml := hid hml; have H_h0 := hid h0; clear h hm hx hsx bx hx3 hx4 hx2 hml h0
   go_enter Tryz.func165, Tryz.ntmps165
   go_wp2_with (fail)
   refine H_hm.out.mono ?_
   intro e w1 hm
   obtain ⟨g, off, cap, L, rfl, hb, h1, h2, h3, h4, h5, hcap⟩ := hm.split
   clear hm
   have hdiv := divWVW_any g off cap gx ox cx m y L M w1 (by have := H_h0.out; omega) (by omega) hb.out (H_bx.out.keep h4.out (fun h => h)) (by have := h2.out; omega) (by have := H_hx2.out; omega) H_hx4.out hy (by omega) (h5.out.apart H_hsx.out hgx)
   have ex : seg M ox m = xl := H_hx3.out.symm
   rw [ex] at hdiv
   have H_hdiv := hid hdiv; clear hdiv
   go_wp2_with (fail)
   refine H_hdiv.out.mono ?_
   rintro e w3 ⟨Q, r, rfl, hl, hlt, hv, hr, hbk, hk⟩
   rw [H_hml.out] at hl
   have hd := div_uniq hv hr
   have hna : NatAt w3 (.slice (some ⟨g, off, none⟩) m cap) Q := by
    have := NatAt.spl hcap hbk (cap := cap) (by omega) h2.out h3.out hlt
    rw [hl] at this; exact this
   have hno := norm_any _ _ _ (by omega) hna
   have H_hl := hid hl; have H_hlt := hid hlt; have H_hv := hid hv; have H_hr := hid hr; have H_hbk := hid hbk; have H_hk := hid hk; have H_hd := hid hd; have H_hna := hid hna; have H_hno := hid hno; clear hl hlt hv hr hbk hk hd hna hno
   go_wp2_with (fail)
   refine H_hno.out.mono ?_
   rintro e w7 ⟨rv, l, rfl, h6, hnorm, hval, hown, rfl⟩
   have H_h6 := hid h6; have H_hnorm := hid hnorm; have H_hval := hid hval; have H_hown := hid hown; clear h6 hnorm hval hown
   go_wp2
   go_ret2
   refine ⟨rv, l, by rw [H_hd.out.2]; rfl, NatOp.of h5.out h4.out H_hk.out H_h6.out (fun k hk => by have := H_hown.out k hk; simpa [Value.ownBlock] using this.symm), H_hnorm.out, by rw [H_hval.out, H_hd.out.1]⟩

def QRRet (w : World) (zv z2v : Value) (X y : Nat) (e : Ending) (w' : World) : Prop :=
 ∃ qv lq rv lr, e = .returned (.tuple #[qv, rv]) ∧ NatAt w' qv lq ∧ Norm lq ∧ val lq = X / y ∧ NatAt w' rv lr ∧ Norm lr ∧ val lr = X % y ∧
  Keep (fun k => zv.ownBlock = some k ∨ z2v.ownBlock = some k) w w' ∧ (∀ k, qv.ownBlock = some k → zv.ownBlock = some k ∨ w.heap.size ≤ k) ∧
  (∀ k, rv.ownBlock = some k → z2v.ownBlock = some k ∨ w.heap.size ≤ k) ∧ (∀ k, qv.ownBlock = some k → rv.ownBlock ≠ some k)

theorem dl_small {us ul vl vs : List Nat} {M n s : Nat} (h1 : ul.length + 1 = M + n) (h2 : us.length = M + n) (hub : ∀ a ∈ ul, a < 18446744073709551616) (hu : val us = val ul * 2 ^ s) (hv : val vs = val vl * 2 ^ s) (hvl : vl.length = n) (hn : 2 ≤ n) (hnv : Norm vl) :
 val (us.drop M) < val vs := by
 have e := val_append (us.take M) (us.drop M)
 rw [List.take_append_drop, List.length_take, Nat.min_eq_left (by omega)] at e
 have hl := val_lt hub
 obtain ⟨k, rfl⟩ : ∃ k, n = k + 1 := ⟨n - 1, by omega⟩
 rw [show ul.length = M + k by omega, wpow_add] at hl
 have hg := hnv.ge hvl
 have hp : 0 < 2 ^ s := Nat.pow_pos (by omega)
 have h3 : val ul * 2 ^ s < wpow M * wpow k * 2 ^ s := Nat.mul_lt_mul_of_pos_right hl hp
 rw [Nat.mul_assoc] at h3
 have h4 : wpow M * val (us.drop M) < wpow M * (wpow k * 2 ^ s) := by omega
 have h5 := Nat.lt_of_mul_lt_mul_left h4
 have h6 : wpow k * 2 ^ s ≤ val vl * 2 ^ s := Nat.mul_le_mul_right _ hg
 omega

theorem dl_end {U V t Q R A C : Nat} (ht : 0 < t) (h : A = Q * C + R) (hR : R < C) (hA : A = U * t) (hC : C = V * t) : U / V = Q ∧ R = U % V * t := by
 subst hA hC
 have h1 : Q * V * t ≤ U * t := by rw [Nat.mul_assoc]; omega
 have h2 := Nat.le_of_mul_le_mul_right h1 ht
 obtain ⟨r, rfl⟩ := Nat.exists_eq_add_of_le h2
 have h3 : R = r * t := by rw [Nat.add_mul, ← Nat.mul_assoc] at h; omega
 rw [h3] at hR
 have h4 := Nat.lt_of_mul_lt_mul_right hR
 obtain ⟨e1, e2⟩ := div_uniq (X := Q * V + r) (V := Q) (y := V) (r := r) rfl h4
 exact ⟨e1, by rw [e2]; exact h3⟩

theorem Stk0.ne {w : World} {b g : Nat} {L : List Nat} (h : Stk0 w b) (bk : Blk .u64 w g L) (hL : 0 < L.length) : b ≠ g := by
 rintro rfl
 have := bk.cell (o := 0) hL
 unfold Stk0 at h
 rw [h] at this
 simp at this

theorem Stk0.lt {w : World} {b : Nat} (h : Stk0 w b) : b < w.heap.size := World.block_lt_of_cell? _ _ h

theorem Stk0.keep {S : Nat → Prop} {w w' : World} {b : Nat} (h : Stk0 w b) (hk : Keep S w w') (hs : ¬ S b) : Stk0 w' b := (hk.cell (p := ⟨b, 0, none⟩) h.lt hs).trans h

theorem mulAddVWW_g2 (gz oz cz gx ox cx n y r : Nat) (Lz Lx : List Nat) (w : World) (hlen : n ≤ 1000000)
 (bz : Blk .u64 w gz Lz) (bx : Blk .u64 w gx Lx) (hz : oz + n ≤ Lz.length) (hx : ox + n ≤ Lx.length)
 (hbx : ∀ a ∈ Lx, a < 18446744073709551616) (hy : y < 18446744073709551616) (hr0 : r < 18446744073709551616) (hax : gx ≠ gz ∨ oz ≤ ox ∨ ox + n ≤ oz) :
 Calls Tryz.prog 234 #[.slice (some ⟨gz, oz, none⟩) n cz, .slice (some ⟨gx, ox, none⟩) n cx, .int .u64 y, .int .u64 r] w
  fun e w' => e = .returned (.int .u64 ((mulVs (seg Lx ox n) y r).2 : Nat)) ∧ Puts .u64 gz (spl Lz oz (mulVs (seg Lx ox n) y r).1) w w' := by
 have H_bz := hid bz; have H_bx := hid bx; have H_hz := hid hz; have H_hx := hid hx; have H_hbx := hid hbx; have H_hr0 := hid hr0; have H_hax := hid hax; clear bz bx hz hx hbx hr0 hax
 go_enter Tryz.func234, Tryz.ntmps234
 go_wp2_with (fail)
 go_loopw [8, 19] (fun c i wr => ∃ k : Nat, k ≤ n ∧ i = .int .i64 k ∧ c = .int .u64 ((mulVs (seg Lx ox k) y r).2 : Nat) ∧ Puts .u64 gz (spl Lz oz (mulVs (seg Lx ox k) y r).1) w wr) (fun _ i _ => n - (intOf i).toNat)
 case atStart => exact ⟨0, Nat.zero_le _, rfl, by simp [seg_zero, mulVs], by rw [seg_zero]; simp only [mulVs]; rw [spl_nil]; exact Puts.refl H_bz.out⟩
 case round =>
  obtain ⟨k, hk, rfl, rfl, hp⟩ := hrel
  by_cases hlt : k < n
  · have hl : (mulVs (seg Lx ox k) y r).1.length = k := by
     have := H_hx.out
     rw [mulVs_length, sgL (by omega)]
    have hs := mulVs_snoc (Lx.getD (ox + k) 0) y (seg Lx ox k) r
    rw [← seg_succ (by have := H_hx.out; omega)] at hs
    have h3 := mulVs_carry (seg Lx ox k) y r (fun a ha => H_hbx.out a (seg_mem ha)) hy H_hr0.out
    have h4 := getD_lt H_hbx.out pos64 (ox + k)
    generalize hr : mulVs (seg Lx ox k) y r = res at *
    obtain ⟨l, c⟩ := res
    simp only at h3 hl hp hs
    have H_hs := hid hs; have H_hr := hid hr; have H_hp := hid hp; have H_hl := hid hl; clear hs hr hp hl
    have hcx : wr.cell? ⟨gx, ox + k, none⟩ = some (wd .u64 (Lx.getD (ox + k) 0)) := by
     have := H_hx.out; have := H_hz.out; have := H_hl.out
     by_cases e : gx = gz
     · obtain rfl : Lx = Lz := Blk.uniq (by rw [e] at H_bx; exact H_bx.out) H_bz.out
       rw [e, H_hp.out.blk.cell (by rw [sgl (by omega)]; omega), sgD (by omega), if_neg (by have := H_hax.out; omega)]
     · exact (H_hp.out.other e H_bx.out).cell (by omega)
    have hz1 := H_hp.out.blk.cell (o := oz + k) (by have := H_hz.out; have := H_hl.out; rw [sgl (by omega)]; omega)
    have hz2 := H_hp.out.blk.frozen (oz + k)
    generalize Lx.getD (ox + k) 0 = x at *
    generalize (spl Lz oz l).getD (oz + k) 0 = z0 at *
    go_wp2_with (go_at_call 248; refine (mulAddWWW_g x y c h4 hy h3 _).mono ?_; rintro e w' ⟨rfl, rfl⟩)
    go_roundw
    case rel =>
     refine ⟨k + 1, by omega, by go_num, by rw [H_hs.out], ?_⟩
     rw [H_hs.out]
     have := (H_hp.out).set (oz + k) (maL x y c)
     rw [spl_set (by rw [H_hl.out]) (by have := H_hz.out; omega)] at this
     exact this
    case measure => simp [intOf]; omega
  · have HE := hid (show k = n by omega)
    have H_hp := hid hp; clear hp
    go_wp2
    go_ret
    have ep := H_hp.out
    rw [HE.out] at ep ⊢
    exact ⟨rfl, ep⟩

theorem mulAddVWW2 (gz oz cz gx ox cx n y r : Nat) (Lz Lx : List Nat) (w : World) (hlen : n ≤ 1000000)
 (bz : Blk .u64 w gz Lz) (bx : Blk .u64 w gx Lx) (hz : oz + n ≤ Lz.length) (hx : ox + n ≤ Lx.length)
 (hbx : ∀ a ∈ Lx, a < 18446744073709551616) (hy : y < 18446744073709551616) (hr0 : r < 18446744073709551616) (hax : gx ≠ gz ∨ oz ≤ ox ∨ ox + n ≤ oz) :
 Calls Tryz.prog 217 #[.slice (some ⟨gz, oz, none⟩) n cz, .slice (some ⟨gx, ox, none⟩) n cx, .int .u64 y, .int .u64 r] w
  fun e w' => e = .returned (.int .u64 ((mulVs (seg Lx ox n) y r).2 : Nat)) ∧ Puts .u64 gz (spl Lz oz (mulVs (seg Lx ox n) y r).1) w w' := by
 have H := hid (mulAddVWW_g2 gz oz cz gx ox cx n y r Lz Lx w hlen bz bx hz hx hbx hy hr0 hax)
 clear bz bx hz hx hbx hr0 hax hy
 go_enter Tryz.func217, Tryz.ntmps217
 go_wp2_with (go_at_call 234; refine H.out.mono ?_; rintro e w' ⟨rfl, hp⟩)
 go_ret
 exact ⟨rfl, hp⟩

theorem VAt.puts {w w' : World} {g o gz oz : Nat} {l X Lz : List Nat} (h : VAt w g o l) (bz : Blk .u64 w gz Lz) (hp : Puts .u64 gz (spl Lz oz X) w w') (hz : oz + X.length ≤ Lz.length) (hX : ∀ a ∈ X, a < 18446744073709551616)
 (hd : gz ≠ g ∨ o + l.length ≤ oz) : VAt w' g o l := by
 obtain ⟨L, h1, h2, h3, h4⟩ := h
 by_cases e : gz = g
 · subst e
   obtain rfl : L = Lz := Blk.uniq h1 bz
   have hd' : o + l.length ≤ oz := hd.elim (fun h => absurd rfl h) id
   have e : seg (spl L oz X) o l.length = seg L o l.length := seg_ext (by rw [sgl hz]; exact h2) h2 (fun j hj => by rw [sgD hz, if_neg (by omega)])
   refine ⟨_, hp.blk, by rw [sgl hz]; exact h2, by rw [e, h3], fun a ha => ?_⟩
   · rcases spl_mem ha with h | h
     · exact h4 a h
     · exact hX a h
 · exact ⟨L, hp.other (fun h => e h.symm) h1, h2, h3, h4⟩

end Go.Proofs.YtllencgncinphaaGreatDoor
