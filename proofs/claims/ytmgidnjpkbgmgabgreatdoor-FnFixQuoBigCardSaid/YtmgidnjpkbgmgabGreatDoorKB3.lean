/- The contracts of the reference's natural numbers: NatFrom. -/
import Derived.OwnWalk
import Derived.Test.YtmgidnjpkbgmgabGreatDoorKB2
namespace Go.Proofs.YtmgidnjpkbgmgabGreatDoor
open Go.RowKit

theorem norm_snoc {l : List Nat} {x : Nat} (h : 0 < x) : Norm (l ++ [x]) := by
  intro k hk
  have : k = l.length := by simp at hk; omega
  subst this
  rw [getD_append]; simp; omega

theorem Fresh.owns {w wr w1 : World} {B T n : Nat} {v : Value} {xs : List Value} (h : Fresh w wr) (ho : wr.ownsRow B T 1 v n xs) (hB : w.heap.size ≤ B) (hg : wr.grownBy w1 v.ownBlock) : Fresh w w1 := by
  refine h.trans (T := fun k => v.ownBlock = some k) ⟨hg.os, hg.tape, hg.output, hg.size, fun k hk hs => hg.block k hk (fun e => hs e.symm)⟩ (fun _ _ h => h) (fun k hk hs => ?_)
  have := (ho.lt k hs).1
  omega

set_option maxRecDepth 20000 in
set_option maxHeartbeats 1000000 in
theorem NatFrom_any (n : Nat) (w : World) (hn : n < 18446744073709551616) : Calls Tryz.prog 82 #[.int .u64 n] w (SRet w n) := by
  obtain ⟨i0, hi, hz0, hz1, hz2⟩ := info_parts info_u32
  go_enter Tryz.func82, Tryz.ntmps82
  go_wp2
  go_loopw [0, 3] (fun i v wr => ∃ (k : Nat) (l : List Nat), k < 18446744073709551616 ∧ i = .int .u64 k ∧ wr.ownsRow w.heap.size 102 1 v l.length (l.map (wd .u32)) ∧ Hid (Lim l) ∧ Hid (l.length ≤ 1000) ∧ Hid (sval l + spow l.length * k = n) ∧ Hid (k = 0 → Norm l) ∧ Hid (Fresh w wr)) (fun i _ _ => (intOf i).toNat)
  case atStart => exact ⟨n, [], hn, rfl, World.ownsRow_nil _ _ _ _, Lim.nil, Lib.hid (by simp), Lib.hid (by simp [sval, spow_zero]), fun _ => Norm.nil, Keep.refl _ _⟩
  case round =>
    obtain ⟨k, l, hk, rfl, hown, hlim, hlen, hval, hnorm, hf⟩ := hrel
    have H_hown := Lib.hid hown
    by_cases hk0 : k = 0
    · have t1 : decide (0 < k) = false := by simp [hk0]
      have H_hk0 := Lib.hid hk0
      clear hk0 hown
      go_wp2_with (fail)
      go_ret
      refine ⟨_, l, rfl, SNat.of_owns H_hown.out hlim.out (by have := hlen.out; omega), hnorm.out H_hk0.out, ?_, hf.out⟩
      have := hval.out
      rw [H_hk0.out] at this; simpa using this
    · have t1 : decide (0 < k) = true := by simp; omega
      have hlb : l.length ≤ 3 := by
        have h1 := hval.out
        rcases Nat.lt_or_ge 3 l.length with h2 | h2
        · have h3 := spow_mono (m := 3) (n := l.length) (by omega)
          have h4 : spow 3 = 1000000000000000000000000000 := rfl
          have h5 : spow l.length * 1 ≤ spow l.length * k := Nat.mul_le_mul_left _ (by omega)
          omega
        · exact h2
      have hsz := hf.out.size
      go_wp2_with (at_builtin; refine wpList_append_own _ rfl _ _ 35 rfl w.heap.size 102 i0 (.int .u32 0) 1 4 Tryz.underlying35 hi hz0 hz1 hz2 rfl (by decide) _ _ _ rfl (hown.alloc _) ⟨wr.heap.size, 0, none⟩ 1 1 [wd .u32 (k % 1000000000)] rfl rfl ?c1 ?c2 ?c3 ?c4 ?c5 ?_)
      case c1 =>
        intro j u hj
        match j, hj with
        | 0, hj => simp at hj; subst hj; simp [Addr.add, wd]
      case c2 => intro u hu; simp at hu; subst hu; rfl
      case c3 => unfold maxLen; omega
      case c4 => omega
      case c5 => simp; omega
      · intro v' w1 hown' hgrow _
        have hf1 : Fresh w w1 := Fresh.owns (hf.out.alloc _) (H_hown.out.alloc _) (Nat.le_refl _) hgrow
        have hL : (l ++ [k % 1000000000]).length = l.length + 1 := by simp
        have hown1 : w1.ownsRow w.heap.size 102 1 v' (l ++ [k % 1000000000]).length ((l ++ [k % 1000000000]).map (wd .u32)) := by
          rw [hL, List.map_append]; exact hown'
        have H_hown1 := Lib.hid hown1; clear hown1
        have H_hf1 := Lib.hid hf1; clear hf1
        clear hown' hgrow hown
        go_wp2_with (fail)
        go_roundw
        case rel =>
          refine ⟨k / 1000000000, l ++ [k % 1000000000], by omega, by simp, H_hown1.out, hlim.out.append (Lim.one (by omega)), Lib.hid (by rw [hL]; omega), ?_, ?_, H_hf1.out⟩
          · refine Lib.hid ?_
            have h1 := hval.out
            have h2 := Nat.div_add_mod k 1000000000
            rw [sval_append, hL, spow_succ, ← h1]
            simp only [sval, Nat.mul_zero, Nat.add_zero]
            generalize k / 1000000000 = q at *
            generalize k % 1000000000 = r at *
            subst h2
            grind
          · refine Lib.hid (fun h0 => norm_snoc (by omega))
        case measure => simp [intOf]; omega

end Go.Proofs.YtmgidnjpkbgmgabGreatDoor

/- The contracts of the reference's whole numbers: wholeOf, one. -/
namespace Go.Proofs.YtmgidnjpkbgmgabGreatDoor
open Go.RowKit

/-- a whole number, as the pair of its sign and its amount -/
abbrev swh (neg : Bool) (v : Value) : Value := .agg #[.bool neg, v]

set_option maxHeartbeats 400000 in
theorem wholeOf_any (neg : Bool) (v : Value) (l : List Nat) (w : World) (h : SNat w v l) :
    Calls Tryz.prog 48 #[.bool neg, v] w (fun e w' => e = .returned (swh (neg && decide (0 < l.length)) v) ∧ Fresh w w') := by
  obtain ⟨a, c, rfl⟩ := h.form
  generalize l.length = n at *
  clear h
  cases neg
  · go_enter Tryz.func48, Tryz.ntmps48
    go_wp2
    refine bodyPost_ret (results_cell_row rfl _ _ w.heap.size 37 #[.bool false, .slice a n c] (0, 0) _ rfl (heap_alloc_new w _) Tryz.underlying37 rfl (by kernel_rfl)) rfl ?_
    exact ⟨rfl, (Keep.refl _ _).alloc _⟩
  · go_enter Tryz.func48, Tryz.ntmps48
    go_wp2
    refine bodyPost_ret (results_cell_row rfl _ _ w.heap.size 37 #[.bool (decide (0 < n)), .slice a n c] (0, 0) _ rfl (heap_alloc_new w _) Tryz.underlying37 rfl (by kernel_rfl)) rfl ?_
    exact ⟨rfl, (Keep.refl _ _).alloc _⟩

theorem Blk.lit {k : IntKind} {w : World} {L : List Nat} {T : TypeId} : Blk k (w.alloc (.cells (L.map (wd k)).toArray T)) w.heap.size L := ⟨T, heap_alloc_new w _⟩

set_option maxHeartbeats 400000 in
theorem one_any (w : World) : Calls Tryz.prog 51 #[] w (SRet w 1) := by
  go_enter Tryz.func51, Tryz.ntmps51
  go_wp2
  go_ret
  exact ⟨_, [1], rfl, SNat.of_blk (Blk.lit (L := [1])) (Lim.one (by omega)) (by simp), norm_snoc (l := []) (by omega), rfl, (Keep.refl _ _).alloc _⟩

end Go.Proofs.YtmgidnjpkbgmgabGreatDoor

/- The contracts of the reference's natural numbers: Pow10. -/
namespace Go.Proofs.YtmgidnjpkbgmgabGreatDoor
open Go.RowKit

theorem Blk.made32 {w : World} {n : Nat} {T : TypeId} : Blk .u32 (w.alloc (.cells (madeCells #[Value.int .u32 0] n) T)) w.heap.size (List.replicate n 0) := by
  refine ⟨T, ?_⟩
  rw [heap_alloc_new]
  congr 2
  apply Array.ext'
  rw [toList_madeCells_one]
  simp

theorem make_u32 (n : Nat) (w : World) (hn : n ≤ 2000000) : ∃ o, Hid (Blk .u32 (w.alloc o) w.heap.size (List.replicate n 0)) ∧
    (Instr.makeSlice 35 (.int .i64 n) (.int .i64 n)).run Tryz.prog w = .ok (.slice (some ⟨w.heap.size, 0, none⟩) n n) (w.alloc o) := by
  obtain ⟨i0, hi, hz0, hz1, hz2⟩ := info_parts info_u32
  have := run_make (P := Tryz.prog) w 35 102 i0 _ Tryz.underlying35 hi hz0 .i64 .i64 (n : Int) (n : Int) (by omega) (by omega) (by rw [hz2]; omega) (by omega)
  rw [show ((n : Int)).toNat = n from by omega] at this
  exact ⟨_, Blk.made32 (T := 102), by simpa [hz1, Value.cells] using this⟩

theorem sval_rep (n : Nat) : sval (List.replicate n 0) = 0 := by
  induction n with
  | zero => rfl
  | succ n ih => simp [List.replicate_succ, sval, ih]

theorem Lim.rep (n : Nat) : Lim (List.replicate n 0) := fun x hx => by rw [List.eq_of_mem_replicate hx]; omega

theorem rep_set (q x : Nat) : (List.replicate (q + 1) 0).set q x = List.replicate q 0 ++ [x] := by
  rw [List.replicate_succ', List.set_append]; simp

set_option maxRecDepth 20000 in
set_option maxHeartbeats 1000000 in
theorem Pow10_any (n : Nat) (w : World) (hn : n ≤ 1000000) : Calls Tryz.prog 50 #[.int .i64 n] w (SRet w (10 ^ n)) := by
  obtain ⟨q, hq⟩ : ∃ q, q = n / 9 := ⟨_, rfl⟩
  obtain ⟨r, hr⟩ : ∃ r, r = n % 9 := ⟨_, rfl⟩
  have hqr : n = 9 * q + r := by omega
  have hq1 : Int.tdiv (n : Int) 9 = (q : Int) := by rw [Int.tdiv_eq_ediv_of_nonneg (by omega)]; omega
  have hr1 : Int.tmod (n : Int) 9 = (r : Int) := by rw [Int.tmod_eq_emod_of_nonneg (by omega)]; omega
  have hr8 : r ≤ 8 := by omega
  have hqn : q ≤ 200000 := by omega
  obtain ⟨o, ho, mk⟩ := make_u32 (q + 1) w (by omega)
  rw [show ((q + 1 : Nat) : Int) = (q : Int) + 1 from by omega] at mk
  have hneg : decide ((n : Int) < 0) = false := by simp
  have H_hqr := Lib.hid hqr
  clear hq hr hqr
  go_enter Tryz.func50, Tryz.ntmps50
  go_wp2
  go_loop [4, 5] (fun x i => ∃ k : Nat, k ≤ r ∧ i = .int .i64 k ∧ x = .int .u32 ((10 ^ k : Nat) : Int)) (fun _ i => r - (intOf i).toNat)
  case atStart => exact ⟨0, by omega, rfl, rfl⟩
  case round =>
    obtain ⟨k, hk, rfl, rfl⟩ := hrel
    by_cases hlt : k < r
    · have hp : 10 ^ k ≤ 10 ^ 7 := Nat.pow_le_pow_right (by omega) (by omega)
      have hp2 : 10 ^ (k + 1) = 10 ^ k * 10 := Nat.pow_succ ..
      generalize 10 ^ k = x at *
      have t1 : decide ((k : Int) < (r : Int)) = true := by simp; omega
      have H_hp2 := Lib.hid hp2
      clear hp2
      go_wp2_with (fail)
      go_round
      case rel => exact ⟨k + 1, by omega, by simp, by rw [H_hp2.out]; simp⟩
      case measure => simp [intOf]; omega
    · obtain rfl : k = r := by omega
      have t1 : decide ((k : Int) < (k : Int)) = false := by simp
      have hp : 10 ^ k ≤ 10 ^ 8 := Nat.pow_le_pow_right (by omega) (by omega)
      have hp0 : 0 < 10 ^ k := Nat.pow_pos (by omega)
      obtain ⟨x, hx⟩ : ∃ x, x = 10 ^ k := ⟨_, rfl⟩
      rw [← hx] at hp hp0 ⊢
      have c1 := ho.out.cell (o := q) (by simp)
      have c2 := ho.out.frozen q
      have H_hx := Lib.hid hx
      clear hx
      go_wp2_with (fail)
      go_ret
      have hb := ho.out.set q x
      rw [rep_set] at hb
      have hL : (List.replicate q 0 ++ [x]).length = q + 1 := by simp
      have hs := SNat.of_blk hb ((Lim.rep q).append (Lim.one (by omega))) (by rw [hL]; omega)
      rw [hL] at hs
      refine ⟨_, _, rfl, hs, norm_snoc hp0, ?_, ((Keep.refl _ _).alloc o).setCell (fun h => absurd h (Nat.lt_irrefl _)) _⟩
      rw [sval_append, sval_rep, List.length_replicate, spow_ten, H_hqr.out, Nat.pow_add, H_hx.out]
      simp [sval]

end Go.Proofs.YtmgidnjpkbgmgabGreatDoor

/- The contracts of the reference's natural numbers: NatMul. -/
namespace Go.Proofs.YtmgidnjpkbgmgabGreatDoor
open Go.RowKit

/-- one step of a row of a product: what is written, and the carry -/
theorem smul_step {B A X c o y x : Nat} (S : Nat) (h : B + S * c = A + x * X) :
    (B + S * ((c + (o + x * y)) % 1000000000)) + 1000000000 * S * ((c + (o + x * y)) / 1000000000) = (A + S * o) + x * (X + S * y) := by
  have h2 := Nat.div_add_mod (c + (o + x * y)) 1000000000
  generalize (c + (o + x * y)) / 1000000000 = d at *
  generalize (c + (o + x * y)) % 1000000000 = r at *
  have : S * (1000000000 * d + r) = S * (c + (o + x * y)) := by rw [h2]
  grind

theorem smul_carry {o x y c : Nat} (ho : o < 1000000000) (hx : x < 1000000000) (hy : y < 1000000000) (hc : c < 1000000000) : (c + (o + x * y)) / 1000000000 < 1000000000 ∧ c + (o + x * y) < 1000000000000000000 ∧ x * y < 1000000000000000000 := by
  have h1 : x * y ≤ 999999999 * 999999999 := Nat.mul_le_mul (by omega) (by omega)
  omega

/-- what lies in the row when a round is done -/
theorem smul_row {p q : List Nat} {c n k m : Nat} (hp : p.length = m + k) (hq : q.length = m) (hk : k < n) :
    spl (p ++ List.replicate (n - k) 0) k (q ++ [c]) = (p.take k ++ q ++ [c]) ++ List.replicate (n - (k + 1)) 0 := by
  unfold spl
  have e1 : (p ++ List.replicate (n - k) 0).take k = p.take k := by rw [List.take_append_of_le_length (by omega)]
  have e2 : (p ++ List.replicate (n - k) 0).drop (k + (q ++ [c]).length) = List.replicate (n - (k + 1)) 0 := by
    rw [List.drop_append, List.drop_eq_nil_of_le (by simp; omega), List.nil_append, List.drop_replicate]
    congr 1
    simp; omega
  rw [e1, e2]
  simp

theorem smul_val {p q xs ys : List Nat} {c k m : Nat} (hp : p.length = m + k) (hq : q.length = m) (hv : sval p = sval (xs.take k) * sval ys) (hk : k < xs.length) (hs : sval q + spow m * c = sval (p.drop k) + xs.getD k 0 * sval ys) :
    sval (p.take k ++ q ++ [c]) = sval (xs.take (k + 1)) * sval ys := by
  have e : sval p = sval (p.take k) + spow k * sval (p.drop k) := by
    have := sval_append (p.take k) (p.drop k)
    rwa [List.take_append_drop, List.length_take, Nat.min_eq_left (by omega)] at this
  rw [List.append_assoc, sval_append, sval_append, sval_take_succ hk, Nat.add_mul, ← hv, e, hq]
  have hl : (p.take k).length = k := by simp; omega
  rw [hl]
  simp only [sval, Nat.mul_zero, Nat.add_zero]
  rw [hs]
  grind

theorem SNat.cells {w : World} {a : Option Addr} {n c : Nat} {l : List Nat} (h : SNat w (.slice a n c) l) (hn : n = l.length) (h0 : 0 < n) :
    ∃ g, a = some ⟨g, 0, none⟩ ∧ n ≤ c ∧ g < w.heap.size ∧ ∀ i, i < n → w.cell? ⟨g, i, none⟩ = some (wd .u32 (l.getD i 0)) := by
  obtain ⟨g, cap, he, h1, h2, h3, h4⟩ := h.open_pos (by omega)
  cases he
  exact ⟨g, rfl, by omega, h3, fun i hi => h4 i (by omega)⟩

set_option maxRecDepth 20000 in
set_option maxHeartbeats 2000000 in
theorem NatMul_any (xv yv : Value) (xs ys : List Nat) (w : World) (hx : SNat w xv xs) (hy : SNat w yv ys) (hlen : xs.length + ys.length ≤ 1000000) :
    Calls Tryz.prog 49 #[xv, yv] w (SRet w (sval xs * sval ys)) := by
  obtain ⟨ax, cx, rfl⟩ := hx.form
  obtain ⟨ay, cy, rfl⟩ := hy.form
  obtain ⟨n, hn⟩ : ∃ n, n = xs.length := ⟨_, rfl⟩
  obtain ⟨m, hm⟩ : ∃ m, m = ys.length := ⟨_, rfl⟩
  rw [← hn] at hlen hx ⊢
  rw [← hm] at hlen hy ⊢
  obtain ⟨o, ho, mk⟩ := make_u32 (n + m) w (by omega)
  rw [show ((n + m : Nat) : Int) = (n : Int) + (m : Int) from by omega] at mk
  have H_hx := Lib.hid hx; clear hx
  have H_hy := Lib.hid hy; clear hy
  have H_hn := Lib.hid hn; clear hn
  have H_hm := Lib.hid hm; clear hm
  go_enter Tryz.func49, Tryz.ntmps49
  go_wp2_with (fail)
  go_loopw [19] (fun i wr => ∃ k : Nat, k ≤ n ∧ i = .int .i64 k ∧ ∃ p : List Nat, Hid (p.length = m + k) ∧ Hid (Lim p) ∧ Hid (sval p = sval (xs.take k) * sval ys) ∧ Hid (Blk .u32 wr w.heap.size (p ++ List.replicate (n - k) 0)) ∧ Hid (Fresh w wr)) (fun i _ => n - (intOf i).toNat)
  case atStart =>
    refine ⟨0, by omega, rfl, List.replicate m 0, Lib.hid (by simp), Lim.rep m, Lib.hid (by rw [sval_rep]; simp [sval]), ?_, (Keep.refl _ _).alloc o⟩
    have e : List.replicate m 0 ++ List.replicate (n - 0) 0 = List.replicate (n + m) (0 : Nat) := by rw [List.replicate_append_replicate]; congr 1; omega
    rw [e]; exact ho
  case round =>
    obtain ⟨k, hk, rfl, p, hpl, hplim, hpv, hblk, hfr⟩ := hrel
    by_cases hlt : k < n
    · obtain ⟨gx, rfl, hcx, hgx, hcells⟩ := (H_hx.out.fresh hfr.out).cells H_hn.out (by omega)
      have hxk := hcells k hlt
      have hxlim := H_hx.out.lim.getD k
      obtain ⟨x, hxx⟩ : ∃ x, x = xs.getD k 0 := ⟨_, rfl⟩
      rw [← hxx] at hxk hxlim
      have H_hcells := Lib.hid hcells; clear hcells
      have H_hxx := Lib.hid hxx; clear hxx
      have hlt' : (k : Int) < (n : Int) := by omega
      have t1 : decide ((k : Int) < (n : Int)) = true := by simp; omega
      go_wp2_with (fail)
      go_loopw [8, 26] (fun cv i w2 => ∃ (j : Nat) (q : List Nat) (c : Nat), j ≤ m ∧ i = .int .i64 j ∧ cv = .int .u64 c ∧ c < 1000000000 ∧ Hid (q.length = j) ∧ Hid (Lim q) ∧
        Hid (sval q + spow j * c = sval ((p.drop k).take j) + x * sval (ys.take j)) ∧ Hid (Blk .u32 w2 w.heap.size (spl (p ++ List.replicate (n - k) 0) k q)) ∧ Hid (Fresh w w2)) (fun _ i _ => m - (intOf i).toNat)
      case atStart => exact ⟨0, [], 0, by omega, rfl, rfl, by omega, Lib.hid rfl, Lim.nil, Lib.hid (by simp [sval]), Lib.hid (by rw [spl_nil]; exact hblk.out), hfr⟩
      case round =>
        obtain ⟨j, q, c, hj, rfl, rfl, hc, hql, hqlim, hqv, hblk2, hfr2⟩ := hrel
        have hLl : (p ++ List.replicate (n - k) 0).length = m + n := by have := hpl.out; simp; omega
        have hSl : (spl (p ++ List.replicate (n - k) 0) k q).length = m + n := by rw [spl_length (by rw [hLl, hql.out]; omega), hLl]
        by_cases hjm : j < m
        · obtain ⟨gy, rfl, hcy, hgy, hcells⟩ := (H_hy.out.fresh hfr2.out).cells H_hm.out (by omega)
          have hyj := hcells j hjm
          have hylim := H_hy.out.lim.getD j
          obtain ⟨y, hyy⟩ : ∃ y, y = ys.getD j 0 := ⟨_, rfl⟩
          rw [← hyy] at hyj hylim
          have hcell := hblk2.out.cell (o := k + j) (by rw [hSl]; omega)
          have hfroz := hblk2.out.frozen (k + j)
          have hD : (spl (p ++ List.replicate (n - k) 0) k q).getD (k + j) 0 = p.getD (k + j) 0 := by
            rw [spl_getD (by rw [hLl, hql.out]; omega), if_neg (by rw [hql.out]; omega), getD_append, if_pos (by rw [hpl.out]; omega)]
          rw [hD] at hcell
          have holim := hplim.out.getD (k + j)
          obtain ⟨o1, hoo⟩ : ∃ o1, o1 = p.getD (k + j) 0 := ⟨_, rfl⟩
          rw [← hoo] at hcell holim
          obtain ⟨b1, b2, b3⟩ := smul_carry holim hxlim hylim hc
          have t2 : decide ((j : Int) < (m : Int)) = true := by simp; omega
          have hset := hblk2.out.set (k + j) ((c + (o1 + x * y)) % 1000000000)
          rw [spl_set (by rw [hql.out]) (by rw [hLl]; omega)] at hset
          have hstep := smul_step (o := o1) (y := y) (spow j) hqv.out
          have H_hcells := Lib.hid hcells; clear hcells
          have H_hyy := Lib.hid hyy; clear hyy
          have H_hoo := Lib.hid hoo; clear hoo
          have H_hD := Lib.hid hD; clear hD
          have H_hLl := Lib.hid hLl; clear hLl
          have H_hSl := Lib.hid hSl; clear hSl
          obtain ⟨xy, hxy⟩ : ∃ xy, xy = x * y := ⟨_, rfl⟩
          have hxy' : (x : Int) * (y : Int) = (xy : Int) := by rw [hxy]; simp
          rw [← hxy] at b1 b2 b3
          rw [← hxy] at hset hstep
          have H_hxy := Lib.hid hxy; clear hxy
          have H_hset := Lib.hid hset; clear hset
          have H_hstep := Lib.hid hstep; clear hstep
          go_wp2_with (fail)
          go_roundw
          case rel =>
            refine ⟨j + 1, q ++ [(c + (o1 + xy)) % 1000000000], (c + (o1 + xy)) / 1000000000, by omega, by simp, by simp, b1, Lib.hid (by rw [List.length_append, hql.out]; rfl), hqlim.out.append (Lim.one (Nat.mod_lt _ (by omega))), Lib.hid ?_, Lib.hid H_hset.out, Lib.hid (hfr2.out.setCell (fun h => absurd h (Nat.lt_irrefl _)) _)⟩
            have e1 : (p.drop k).getD j 0 = o1 := by
              rw [H_hoo.out]; simp only [List.getD_eq_getElem?_getD, List.getElem?_drop]
            have h1 : j < (p.drop k).length := by have := hpl.out; simp; omega
            have h2 : j < ys.length := by have := H_hm.out; omega
            rw [sval_append, hql.out, sval_take_succ h1, sval_take_succ h2, e1, ← H_hyy.out, spow_succ]
            simp only [sval, Nat.mul_zero, Nat.add_zero]
            exact H_hstep.out
          case measure => simp [intOf]; omega
        · obtain rfl : j = m := by omega
          have t2 : decide ((j : Int) < (j : Int)) = false := by simp
          have hcell := hblk2.out.cell (o := k + j) (by rw [hSl]; omega)
          have hfroz := hblk2.out.frozen (k + j)
          generalize (spl (p ++ List.replicate (n - k) 0) k q).getD (k + j) 0 = z9 at hcell
          have hset := hblk2.out.set (k + j) c
          rw [spl_set (by rw [hql.out]) (by rw [hLl]; omega), smul_row hpl.out hql.out hlt] at hset
          have hv := smul_val (xs := xs) (ys := ys) (c := c) hpl.out hql.out hpv.out (by have := H_hn.out; omega) (by
            have := hqv.out
            rw [← H_hxx.out, this, List.take_of_length_le (by have := hpl.out; simp; omega), List.take_of_length_le (by have := H_hm.out; omega)])
          have hL2 : (p.take k ++ q ++ [c]).length = j + (k + 1) := by have := hpl.out; have := hql.out; simp; omega
          have hlim2 : Lim (p.take k ++ q ++ [c]) := ((hplim.out.take k).append hqlim.out).append (Lim.one hc)
          have H_hset := Lib.hid hset; clear hset
          have H_hv := Lib.hid hv; clear hv
          have H_hL2 := Lib.hid hL2; clear hL2
          have H_hlim2 := Lib.hid hlim2; clear hlim2
          have H_hLl := Lib.hid hLl; clear hLl
          have H_hSl := Lib.hid hSl; clear hSl
          go_wp2_with (fail)
          go_roundw
          case rel => exact ⟨k + 1, by omega, by simp, p.take k ++ q ++ [c], H_hL2, H_hlim2, H_hv, H_hset, Lib.hid (hfr2.out.setCell (fun h => absurd h (Nat.lt_irrefl _)) _)⟩
          case measure => simp [intOf]; omega
    · obtain rfl : k = n := by omega
      have t1 : decide ((k : Int) < (k : Int)) = false := by simp
      have e0 : p ++ List.replicate (k - k) 0 = p := by simp
      have hb := hblk.out
      rw [e0] at hb
      have hpl' := hpl.out
      have hs := SNat.of_blk hb hplim.out (by omega)
      rw [show p.length = k + m by omega] at hs
      have hcall := natTrim_any _ _ _ hs
      have H_hcall := Lib.hid hcall; clear hcall
      clear hb hpl' hs e0
      go_wp2_with (fail)
      refine H_hcall.out.mono ?_
      rintro e w2 ⟨v, l, rfl, h1, h2, h3, h4⟩
      have H_h1 := Lib.hid h1; clear h1
      have H_h2 := Lib.hid h2; clear h2
      have H_h3 := Lib.hid h3; clear h3
      have H_h4 := Lib.hid h4; clear h4
      go_wp2_with (fail)
      go_ret
      refine ⟨_, l, rfl, H_h1.out, H_h2.out, ?_, hfr.out.trans H_h4.out (fun _ _ h => h) (fun _ _ h => h)⟩
      rw [H_h3.out, hpv.out, H_hn.out, List.take_length]

end Go.Proofs.YtmgidnjpkbgmgabGreatDoor
