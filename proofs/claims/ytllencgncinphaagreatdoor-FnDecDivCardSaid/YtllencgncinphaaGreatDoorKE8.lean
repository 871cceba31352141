/- The contracts of the reference's natural numbers: NatMul. -/
import Derived.Deep.RegionHeld3
import Derived.Defers
import Derived.Recover
import Derived.Test.YtllencgncinphaaGreatDoorKE7
namespace Go.Proofs.YtllencgncinphaaGreatDoor
open Go.RowKit
open Go.Lib (hid)
set_option maxRecDepth 20000
set_option maxHeartbeats 4000000

theorem smul_step {B A X c o y x : Nat} (S : Nat) (h : B + S * c = A + x * X) :
 (B + S * ((c + (o + x * y)) % 1000000000)) + 1000000000 * S * ((c + (o + x * y)) / 1000000000) = (A + S * o) + x * (X + S * y) := by
 have h2 := Nat.div_add_mod (c + (o + x * y)) 1000000000
 generalize (c + (o + x * y)) / 1000000000 = d at *
 generalize (c + (o + x * y)) % 1000000000 = r at *
 have : S * (1000000000 * d + r) = S * (c + (o + x * y)) := by rw [h2]
 grind

theorem smul_carry {o x y c : Nat} (ho : o < 1000000000) (hx : x < 1000000000) (hy : y < 1000000000) (hc : c < 1000000000) : (c + (o + x * y)) / 1000000000 < 1000000000 ∧ c + (o + x * y) < 1000000000000000000 ∧ x * y < 1000000000000000000 := by
 have h1 : x * y ≤ 999999999 * 999999999 := Nat.mul_le_mul (by omega) (by omega)
 omega

theorem smul_row {p q : List Nat} {c n k m : Nat} (hp : p.length = m + k) (hq : q.length = m) (hk : k < n) :
 spl (p ++ List.replicate (n - k) 0) k (q ++ [c]) = (p.take k ++ q ++ [c]) ++ List.replicate (n - (k + 1)) 0 := by
 unfold spl
 have e1 : (p ++ List.replicate (n - k) 0).take k = p.take k := by rw [List.take_append_of_le_length (by omega)]
 have e2 : (p ++ List.replicate (n - k) 0).drop (k + (q ++ [c]).length) = List.replicate (n - (k + 1)) 0 := by
  rw [List.drop_append, List.drop_eq_nil_of_le (by simp; omega), List.nil_append, List.drop_replicate]
  congr 1
  simp; omega
 rw [e1, e2]
 simp

theorem smul_val {p q xs ys : List Nat} {c k m : Nat} (hp : p.length = m + k) (hq : q.length = m) (hv : sval p = sval (xs.take k) * sval ys) (hk : k < xs.length) (hs : sval q + spow m * c = sval (p.drop k) + xs.getD k 0 * sval ys) :
 sval (p.take k ++ q ++ [c]) = sval (xs.take (k + 1)) * sval ys := by
 have e : sval p = sval (p.take k) + spow k * sval (p.drop k) := by
  have := sval_append (p.take k) (p.drop k)
  rwa [List.take_append_drop, List.length_take, Nat.min_eq_left (by omega)] at this
 rw [List.append_assoc, sval_append, sval_append, sval_take_succ hk, Nat.add_mul, ← hv, e, hq]
 have hl : (p.take k).length = k := by simp; omega
 rw [hl]
 simp only [sval, Nat.mul_zero, Nat.add_zero]
 rw [hs]
 grind

theorem SNat.cells {w : World} {a : Option Addr} {n c : Nat} {l : List Nat} (h : SNat w (.slice a n c) l) (hn : n = l.length) (h0 : 0 < n) :
 ∃ g, a = some ⟨g, 0, none⟩ ∧ n ≤ c ∧ g < w.heap.size ∧ ∀ i, i < n → w.cell? ⟨g, i, none⟩ = some (wd .u32 (l.getD i 0)) := by
 obtain ⟨g, cap, he, h1, h2, h3, h4⟩ := h.open_pos (by omega)
 cases he
 exact ⟨g, rfl, by omega, h3, fun i hi => h4 i (by omega)⟩

theorem NatMul_any (xv yv : Value) (xs ys : List Nat) (w : World) (hx : SNat w xv xs) (hy : SNat w yv ys) (hlen : xs.length + ys.length ≤ 1000000) :
 Calls Tryz.prog 49 #[xv, yv] w (SRet w (sval xs * sval ys)) := by
 obtain ⟨ax, cx, rfl⟩ := hx.form
 obtain ⟨ay, cy, rfl⟩ := hy.form
 obtain ⟨n, hn⟩ : ∃ n, n = xs.length := ⟨_, rfl⟩
 obtain ⟨m, hm⟩ : ∃ m, m = ys.length := ⟨_, rfl⟩
 rw [← hn] at hlen hx ⊢
 rw [← hm] at hlen hy ⊢
 obtain ⟨o, ho, mk⟩ := make_u32 (n + m) w (by omega)
 rw [show ((n + m : Nat) : Int) = (n : Int) + (m : Int) from by omega] at mk
 have H_hx := hid hx; have H_hy := hid hy; have H_hn := hid hn; have H_hm := hid hm; clear hx hy hn hm
 go_enter Tryz.func49, Tryz.ntmps49
 go_wp2_with (fail)
 go_loopw [19] (fun i wr => ∃ k : Nat, k ≤ n ∧ i = .int .i64 k ∧ ∃ p : List Nat, Hid (p.length = m + k) ∧ Hid (Lim p) ∧ Hid (sval p = sval (xs.take k) * sval ys) ∧ Hid (Blk .u32 wr w.heap.size (p ++ List.replicate (n - k) 0)) ∧ Hid (Fresh w wr)) (fun i _ => n - (intOf i).toNat)
 case atStart =>
  refine ⟨0, by omega, rfl, List.replicate m 0, hid (by simp), Lim.rep m, hid (by rw [sval_rep]; simp [sval]), ?_, (Keep.refl _ _).alloc o⟩
  have e : List.replicate m 0 ++ List.replicate (n - 0) 0 = List.replicate (n + m) (0 : Nat) := by rw [List.replicate_append_replicate]; congr 1; omega
  rw [e]; exact ho
 case round =>
  obtain ⟨k, hk, rfl, p, hpl, hplim, hpv, hblk, hfr⟩ := hrel
  by_cases hlt : k < n
  · obtain ⟨gx, rfl, hcx, hgx, hcells⟩ := (H_hx.out.fresh hfr.out).cells H_hn.out (by omega)
    have hxk := hcells k hlt
    have hxlim := H_hx.out.lim.getD k
    obtain ⟨x, hxx⟩ : ∃ x, x = xs.getD k 0 := ⟨_, rfl⟩
    rw [← hxx] at hxk hxlim
    have H_hcells := hid hcells; have H_hxx := hid hxx; clear hcells hxx
    have hlt' : (k : Int) < (n : Int) := by omega
    have t1 : decide ((k : Int) < (n : Int)) = true := by simp; omega
    go_wp2_with (fail)
    go_loopw [8, 26] (fun cv i w2 => ∃ (j : Nat) (q : List Nat) (c : Nat), j ≤ m ∧ i = .int .i64 j ∧ cv = .int .u64 c ∧ c < 1000000000 ∧ Hid (q.length = j) ∧ Hid (Lim q) ∧
     Hid (sval q + spow j * c = sval ((p.drop k).take j) + x * sval (ys.take j)) ∧ Hid (Blk .u32 w2 w.heap.size (spl (p ++ List.replicate (n - k) 0) k q)) ∧ Hid (Fresh w w2)) (fun _ i _ => m - (intOf i).toNat)
    case atStart => exact ⟨0, [], 0, by omega, rfl, rfl, by omega, hid rfl, Lim.nil, hid (by simp [sval]), hid (by rw [spl_nil]; exact hblk.out), hfr⟩
    case round =>
     obtain ⟨j, q, c, hj, rfl, rfl, hc, hql, hqlim, hqv, hblk2, hfr2⟩ := hrel
     have hLl : (p ++ List.replicate (n - k) 0).length = m + n := by have := hpl.out; simp; omega
     have hSl : (spl (p ++ List.replicate (n - k) 0) k q).length = m + n := by rw [sgl (by rw [hLl, hql.out]; omega), hLl]
     by_cases hjm : j < m
     · obtain ⟨gy, rfl, hcy, hgy, hcells⟩ := (H_hy.out.fresh hfr2.out).cells H_hm.out (by omega)
       have hyj := hcells j hjm
       have hylim := H_hy.out.lim.getD j
       obtain ⟨y, hyy⟩ : ∃ y, y = ys.getD j 0 := ⟨_, rfl⟩
       rw [← hyy] at hyj hylim
       have hcell := hblk2.out.cell (o := k + j) (by rw [hSl]; omega)
       have hfroz := hblk2.out.frozen (k + j)
       have hD : (spl (p ++ List.replicate (n - k) 0) k q).getD (k + j) 0 = p.getD (k + j) 0 := by
        rw [sgD (by rw [hLl, hql.out]; omega), if_neg (by rw [hql.out]; omega), getD_append, if_pos (by rw [hpl.out]; omega)]
       rw [hD] at hcell
       have holim := hplim.out.getD (k + j)
       obtain ⟨o1, hoo⟩ : ∃ o1, o1 = p.getD (k + j) 0 := ⟨_, rfl⟩
       rw [← hoo] at hcell holim
       obtain ⟨b1, b2, b3⟩ := smul_carry holim hxlim hylim hc
       have t2 : decide ((j : Int) < (m : Int)) = true := by simp; omega
       have hset := hblk2.out.set (k + j) ((c + (o1 + x * y)) % 1000000000)
       rw [spl_set (by rw [hql.out]) (by rw [hLl]; omega)] at hset
       have hstep := smul_step (o := o1) (y := y) (spow j) hqv.out
       have H_hcells := hid hcells; have H_hyy := hid hyy; have H_hoo := hid hoo; have H_hD := hid hD; have H_hLl := hid hLl; have H_hSl := hid hSl; clear hcells hyy hoo hD hLl hSl
       obtain ⟨xy, hxy⟩ : ∃ xy, xy = x * y := ⟨_, rfl⟩
       have hxy' : (x : Int) * (y : Int) = (xy : Int) := by rw [hxy]; simp
       rw [← hxy] at b1 b2 b3
       rw [← hxy] at hset hstep
       have H_hxy := hid hxy; have H_hset := hid hset; have H_hstep := hid hstep; clear hxy hset hstep
       go_wp2_with (fail)
       go_roundw
       case rel =>
        refine ⟨j + 1, q ++ [(c + (o1 + xy)) % 1000000000], (c + (o1 + xy)) / 1000000000, by omega, by simp, by simp, b1, hid (by rw [List.length_append, hql.out]; rfl), hqlim.out.append (Lim.one (Nat.mod_lt _ (by omega))), hid ?_, hid H_hset.out, hid (hfr2.out.setCell (fun h => absurd h (Nat.lt_irrefl _)) _)⟩
        have e1 : (p.drop k).getD j 0 = o1 := by
         rw [H_hoo.out]; simp only [List.getD_eq_getElem?_getD, List.getElem?_drop]
        have h1 : j < (p.drop k).length := by have := hpl.out; simp; omega
        have h2 : j < ys.length := by have := H_hm.out; omega
        rw [sval_append, hql.out, sval_take_succ h1, sval_take_succ h2, e1, ← H_hyy.out, spow_succ]
        simp only [sval, Nat.mul_zero, Nat.add_zero]
        exact H_hstep.out
       case measure => simp [intOf]; omega
     · obtain rfl : j = m := by omega
       have t2 : decide ((j : Int) < (j : Int)) = false := by simp
       have hcell := hblk2.out.cell (o := k + j) (by rw [hSl]; omega)
       have hfroz := hblk2.out.frozen (k + j)
       generalize (spl (p ++ List.replicate (n - k) 0) k q).getD (k + j) 0 = z9 at hcell
       have hset := hblk2.out.set (k + j) c
       rw [spl_set (by rw [hql.out]) (by rw [hLl]; omega), smul_row hpl.out hql.out hlt] at hset
       have hv := smul_val (xs := xs) (ys := ys) (c := c) hpl.out hql.out hpv.out (by have := H_hn.out; omega) (by
        have := hqv.out
        rw [← H_hxx.out, this, List.take_of_length_le (by have := hpl.out; simp; omega), List.take_of_length_le (by have := H_hm.out; omega)])
       have hL2 : (p.take k ++ q ++ [c]).length = j + (k + 1) := by have := hpl.out; have := hql.out; simp; omega
       have hlim2 : Lim (p.take k ++ q ++ [c]) := ((hplim.out.take k).append hqlim.out).append (Lim.one hc)
       have H_hset := hid hset; have H_hv := hid hv; have H_hL2 := hid hL2; have H_hlim2 := hid hlim2; have H_hLl := hid hLl; have H_hSl := hid hSl; clear hset hv hL2 hlim2 hLl hSl
       go_wp2_with (fail)
       go_roundw
       case rel => exact ⟨k + 1, by omega, by simp, p.take k ++ q ++ [c], H_hL2, H_hlim2, H_hv, H_hset, hid (hfr2.out.setCell (fun h => absurd h (Nat.lt_irrefl _)) _)⟩
       case measure => simp [intOf]; omega
  · obtain rfl : k = n := by omega
    have t1 : decide ((k : Int) < (k : Int)) = false := by simp
    have e0 : p ++ List.replicate (k - k) 0 = p := by simp
    have hb := hblk.out
    rw [e0] at hb
    have hpl' := hpl.out
    have hs := SNat.of_blk hb hplim.out (by omega)
    rw [show p.length = k + m by omega] at hs
    have hcall := natTrim_any _ _ _ hs
    have H_hcall := hid hcall; clear hcall
    clear hb hpl' hs e0
    go_wp2_with (fail)
    refine H_hcall.out.mono ?_
    rintro e w2 ⟨v, l, rfl, h1, h2, h3, h4⟩
    have H_h1 := hid h1; have H_h2 := hid h2; have H_h3 := hid h3; have H_h4 := hid h4; clear h1 h2 h3 h4
    go_wp2_with (fail)
    go_ret
    refine ⟨_, l, rfl, H_h1.out, H_h2.out, ?_, hfr.out.trans H_h4.out (fun _ _ h => h) (fun _ _ h => h)⟩
    rw [H_h3.out, hpv.out, H_hn.out, List.take_length]

def sint (neg : Bool) (l : List Nat) : Int := if neg then -(sval l : Int) else (sval l : Int)

def SWh (w : World) (x : Value) (z : Int) : Prop := ∃ neg v l, x = swh neg v ∧ SNat w v l ∧ Norm l ∧ (l = [] → neg = false) ∧ sint neg l = z

theorem SWh.fresh {w w' : World} {x : Value} {z : Int} (h : SWh w x z) (hk : Fresh w w') : SWh w' x z := by
 obtain ⟨neg, v, l, h1, h2, h3⟩ := h
 exact ⟨neg, v, l, h1, h2.fresh hk, h3⟩

def WRet (w : World) (z : Int) (e : Ending) (w' : World) : Prop := ∃ x, e = .returned x ∧ SWh w' x z ∧ Fresh w w'

theorem boxes3 (w : World) (c1 c2 c3 : Array Value) (T1 T2 T3 : TypeId) : ∀ g, g = w.heap.size → ∀ w1, ((w.alloc (.cells c1 T1)).alloc (.cells c2 T2)).alloc (.cells c3 T3) = w1 →
 w1.heap[g]? = some (.cells c1 T1 (0, 0)) ∧ w1.heap[g + 1]? = some (.cells c2 T2 (0, 0)) ∧ w1.heap[g + 1 + 1]? = some (.cells c3 T3 (0, 0)) ∧ Fresh w w1 ∧ w.heap.size = g := by
 rintro g rfl w1 rfl
 have s1 : (w.alloc (.cells c1 T1)).heap.size = w.heap.size + 1 := by simp
 have s2 : ((w.alloc (.cells c1 T1)).alloc (.cells c2 T2)).heap.size = w.heap.size + 1 + 1 := by simp
 refine ⟨?_, ?_, ?_, (((Keep.refl _ _).alloc _).alloc _).alloc _, rfl⟩
 · rw [(((Keep.refl (fun _ => False) (w.alloc (.cells c1 T1))).alloc (.cells c2 T2)).alloc (.cells c3 T3)).block w.heap.size (by omega) (fun h => h)]
   exact heap_alloc_new w _
 · rw [((Keep.refl (fun _ => False) ((w.alloc (.cells c1 T1)).alloc (.cells c2 T2))).alloc (.cells c3 T3)).block (w.heap.size + 1) (by omega) (fun h => h), ← s1]
   exact heap_alloc_new _ _
 · rw [← s2]
   exact heap_alloc_new _ _

theorem rwc {w : World} {g : Nat} {cs : Array Value} {T : TypeId} (h : w.heap[g]? = some (.cells cs T (0, 0))) (i : Nat) : w.cell? ⟨g, i, none⟩ = cs[i]? := cell_of_row w g i cs T _ h

theorem cfr {w w' : World} {p : Addr} {v : Value} (h : w.cell? p = some v) (hk : Fresh w w') : w'.cell? p = some v := (hk.cell (World.block_lt_of_cell? _ _ h) (fun h => h)).trans h

theorem far2 {w : World} {g h o o1 o2 : Nat} {v1 v2 : Value} {u : Option Value} (hne : h ≠ g) (k : w.cell? ⟨h, o, none⟩ = u) : ((w.setCell ⟨g, o1, none⟩ v1).setCell ⟨g, o2, none⟩ v2).cell? ⟨h, o, none⟩ = u := by
 rw [cell?_setCell_ne (.inl hne), cell?_setCell_ne (.inl hne)]; exact k

theorem rst {w : World} {g i : Nat} {cs : Array Value} {T : TypeId} {v : Value} (h : w.heap[g]? = some (.cells cs T (0, 0))) : (w.setCell ⟨g, i, none⟩ v).heap[g]? = some (.cells (cs.setIfInBounds i v) T (0, 0)) := by
 simp only [World.setCell, Array.getElem?_modify, if_true, h]; rfl

theorem rfr {w w' : World} {g : Nat} {o : Obj} (h : w.heap[g]? = some o) (hk : Fresh w w') : w'.heap[g]? = some o := by
 have hlt : g < w.heap.size := by
  rcases Nat.lt_or_ge g w.heap.size with hlt | hge
  · exact hlt
  · rw [Array.getElem?_eq_none hge] at h; cases h
 rw [hk.block g hlt (fun h => h)]; exact h

theorem SNat.far {w : World} {v : Value} {l : List Nat} {g o : Nat} {u x : Value} (h : SNat w v l) (hc : w.cell? ⟨g, o, none⟩ = some u) (hu : ∀ n, u ≠ wd .u32 n) : SNat (w.setCell ⟨g, o, none⟩ x) v l := by
 refine ⟨h.1, h.2.1, ?_⟩
 rcases h.2.2 with h0 | ⟨b, cap, cur, T, rfl, hg, h1, h2, h3, h4⟩
 · exact .inl h0
 · by_cases hb : b = g
   · subst hb
     have ho : l.length ≤ o := by
      rcases Nat.lt_or_ge o l.length with hlt | hge
      · exfalso
        rw [cell_of_row w b o cur T _ hg] at hc
        have e := congrArg (fun L => L[o]?) h4
        simp only [List.getElem?_take, List.getElem?_map] at e
        rw [if_pos hlt, Array.getElem?_toList, hc, List.getElem?_eq_getElem hlt] at e
        exact hu _ (Option.some.inj e)
      · exact hge
     refine .inr ⟨b, cap, _, T, rfl, rst hg, h1, h2, by simp; exact h3, ?_⟩
     rw [Array.toList_setIfInBounds, List.take_set_of_le ho]; exact h4
   · refine .inr ⟨b, cap, cur, T, rfl, ?_, h1, h2, h3, h4⟩
     simp only [World.setCell, Array.getElem?_modify]
     rw [if_neg (fun e => hb e.symm)]; exact hg

theorem sint_mul {na nb : Bool} {la lb l : List Nat} (h : sval l = sval la * sval lb) (hn : Norm l) : sint ((na != nb) && decide (0 < l.length)) l = sint na la * sint nb lb := by
 by_cases h0 : 0 < l.length
 · simp only [h0, decide_true, Bool.and_true]
   cases na <;> cases nb <;> simp [sint, h, Int.neg_mul, Int.mul_neg]
 · obtain rfl : l = [] := List.eq_nil_of_length_eq_zero (by omega)
   have h' : (sval la : Int) * (sval lb : Int) = 0 := by rw [← Int.natCast_mul, ← h]; rfl
   simp only [List.length_nil, Nat.lt_irrefl, decide_false, Bool.and_false]
   cases na <;> cases nb <;> simp only [sint, if_true, if_false, Bool.false_eq_true, Int.neg_mul, Int.mul_neg, h'] <;> rfl

theorem WholeMul_any (na nb : Bool) (va vb : Value) (la lb : List Nat) (w : World) (ha : SNat w va la) (hb : SNat w vb lb) (hlen : la.length + lb.length ≤ 1000000) :
 Calls Tryz.prog 63 #[swh na va, swh nb vb] w (WRet w (sint na la * sint nb lb)) := by
 obtain ⟨aa, ca, rfl⟩ := ha.form
 obtain ⟨ab, cb, rfl⟩ := hb.form
 obtain ⟨g, hg⟩ : ∃ g, g = w.heap.size := ⟨_, rfl⟩
 have bx := boxes3 w #[.bool na, .slice aa la.length ca] #[.bool nb, .slice ab lb.length cb] #[.bool false, .slice none 0 0] 28 28 28 g hg
 have H_ha := hid ha; have H_hb := hid hb; have H_bx := hid bx; clear ha hb bx
 go_enter Tryz.func63, Tryz.ntmps63
 go_wp2_with (fail)
 generalize hw1 : ((w.alloc _).alloc _).alloc _ = w1
 rw [← hg]
 obtain ⟨b1, b2, b3, hf, hgs⟩ := H_bx.out w1 hw1
 have k0 := rwc b1 0
 have k1 := rwc b1 1
 have k2 := rwc b2 0
 have k3 := rwc b2 1
 simp at k0 k1 k2 k3
 have hcall : ∀ W, Fresh w1 W → Calls Tryz.prog 49 #[.slice aa la.length ca, .slice ab lb.length cb] W (SRet W (sval la * sval lb)) := fun W hW => NatMul_any _ _ la lb W ((H_ha.out.fresh hf).fresh hW) ((H_hb.out.fresh hf).fresh hW) hlen
 have H_b1 := hid b1; have H_b2 := hid b2; have H_b3 := hid b3; have H_hf := hid hf; have H_hcall := hid hcall; have H_hw1 := hid hw1; have H_hg := hid hg; have H_hgs := hid hgs; clear b1 b2 b3 hf hcall hw1 hg hgs
 go_region_held3 (fun (w' : World) => w'.cell? ⟨g, 0, none⟩ = some (.bool na) ∧ w'.cell? ⟨g, 1, none⟩ = some (.slice aa la.length ca) ∧ w'.cell? ⟨g + 1, 0, none⟩ = some (.bool nb) ∧ w'.cell? ⟨g + 1, 1, none⟩ = some (.slice ab lb.length cb)) (first | exact ⟨k0, k1, k2, k3⟩ | exact ⟨m0, m1, m2, m3⟩ | exact ⟨n0, n1, n2, n3⟩ | exact ⟨far2 (by omega) n0, far2 (by omega) n1, far2 (by omega) n2, far2 (by omega) n3⟩) (first
  | (go_at_call 49; refine (H_hcall.out _ (by first | exact Keep.refl _ _ | exact (Keep.refl _ _).drew | exact (Keep.refl _ _).drewN _)).mono ?_; rintro e w3 ⟨v, l, rfl, r1, r2, r3, r4⟩; obtain ⟨av, cv, rfl⟩ := r1.form; have hf3 : Fresh w1 w3 := (by first | exact r4 | exact r4.of_drew | exact r4.of_drewN); have m0 := cfr k0 hf3; have m1 := cfr k1 hf3; have m2 := cfr k2 hf3; have m3 := cfr k3 hf3; have H_r1 := hid r1; have H_r2 := hid r2; have H_r3 := hid r3; have H_r4 := hid r4; have H_hf3 := hid hf3; clear r1 r2 r3 r4 hf3)
  | (go_at_call 56; refine (wholeOf_any _ _ _ _ H_r1.out).mono ?_; rintro e w4 ⟨rfl, r5⟩; have n0 := cfr m0 r5; have n1 := cfr m1 r5; have n2 := cfr m2 r5; have n3 := cfr m3 r5; have b4 := rfr (rfr H_b3.out H_hf3.out) r5; have p0 := rwc b4 0; have p1 := rwc b4 1; have q0 : w4.frozen? ⟨g + 1 + 1, 0, none⟩ = false := frozen_of_row _ _ _ _ _ b4; have q1 : w4.frozen? ⟨g + 1 + 1, 1, none⟩ = false := frozen_of_row _ _ _ _ _ b4; simp at p0 p1; have H_r5 := hid r5; have H_b4 := hid b4; clear r5 b4))
 go_wp2
 refine bodyPost_ret (results_cell_row rfl _ _ (g + 1 + 1) 28 #[.bool ((na != nb) && decide (0 < l.length)), .slice av l.length cv] (0, 0) _ rfl (rst (rst H_b4.out)) Tryz.underlying28 rfl (by kernel_rfl)) rfl ?_
 refine ⟨_, rfl, ⟨_, _, l, rfl, ?_, H_r2.out, ?_, sint_mul H_r3.out H_r2.out⟩, ?_⟩
 · exact ((H_r1.out.fresh H_r5.out).far p0 (fun n e => by simp at e)).far ((cell?_setCell_ne (.inr (by show (1 : Nat) ≠ 0; omega))).trans p1) (fun n e => by simp at e)
 · rintro rfl; simp
 · exact (((H_hf.out.trans H_hf3.out (fun _ _ h => h) (fun _ _ h => h)).trans H_r5.out (fun _ _ h => h) (fun _ _ h => h)).setCell (fun h => by have := H_hg.out; change g + 1 + 1 < w.heap.size at h; omega) _).setCell (fun h => by have := H_hg.out; change g + 1 + 1 < w.heap.size at h; omega) _

def cmpZ (a b : Int) : Int := if a < b then -1 else if b < a then 1 else 0

theorem sint_pos {l : List Nat} (hn : Norm l) (h : l ≠ []) : 0 < sval l := (sval_pos_iff hn).1 (List.length_pos_iff.2 h)

theorem boxes2 (w : World) (c1 c2 : Array Value) (T1 T2 : TypeId) : ∀ g, g = w.heap.size → ∀ w1, (w.alloc (.cells c1 T1)).alloc (.cells c2 T2) = w1 →
 w1.heap[g]? = some (.cells c1 T1 (0, 0)) ∧ w1.heap[g + 1]? = some (.cells c2 T2 (0, 0)) ∧ Fresh w w1 := by
 rintro g rfl w1 rfl
 have s1 : (w.alloc (.cells c1 T1)).heap.size = w.heap.size + 1 := by simp
 refine ⟨?_, ?_, ((Keep.refl _ _).alloc _).alloc _⟩
 · rw [((Keep.refl (fun _ => False) (w.alloc (.cells c1 T1))).alloc (.cells c2 T2)).block w.heap.size (by omega) (fun h => h)]
   exact heap_alloc_new w _
 · rw [← s1]
   exact heap_alloc_new _ _

theorem cmpZ_nn (a b : Nat) : cmpZ (-(a : Int)) (-(b : Int)) = cmpN b a := by unfold cmpZ cmpN; split <;> split <;> (try split) <;> (try split) <;> omega
theorem cmpZ_pp (a b : Nat) : cmpZ (a : Int) (b : Int) = cmpN a b := by unfold cmpZ cmpN; split <;> split <;> (try split) <;> (try split) <;> omega

def IRet (w : World) (z : Int) (e : Ending) (w' : World) : Prop := e = .returned (.int .i64 z) ∧ Fresh w w'

theorem cmpZ_np {la lb : List Nat} (hna : Norm la) (hca : la = [] → true = false) : cmpZ (sint true la) (sint false lb) = -1 := by
 have := sint_pos hna (fun e => by have := hca e; simp at this)
 unfold cmpZ sint; simp only [if_true, Bool.false_eq_true, if_false]; rw [if_pos (by omega)]
theorem cmpZ_pn {la lb : List Nat} (hnb : Norm lb) (hcb : lb = [] → true = false) : cmpZ (sint false la) (sint true lb) = 1 := by
 have := sint_pos hnb (fun e => by have := hcb e; simp at this)
 unfold cmpZ sint; simp only [if_true, Bool.false_eq_true, if_false]; rw [if_neg (by omega), if_pos (by omega)]

theorem WholeCmp_ff (va vb : Value) (la lb : List Nat) (w : World) (ha : SNat w va la) (hb : SNat w vb lb) (hna : Norm la) (hnb : Norm lb) (hca : la = [] → false = false) (hcb : lb = [] → false = false) :
 Calls Tryz.prog 100 #[swh false va, swh false vb] w (IRet w (cmpZ (sint false la) (sint false lb))) := by
 obtain ⟨aa, ca, rfl⟩ := ha.form
 obtain ⟨ab, cb, rfl⟩ := hb.form
 obtain ⟨g, hg⟩ : ∃ g, g = w.heap.size := ⟨_, rfl⟩
 have hf : Fresh w ((w.alloc (.cells #[.bool false, .slice aa la.length ca] 28)).alloc (.cells #[.bool false, .slice ab lb.length cb] 28)) := ((Keep.refl _ _).alloc _).alloc _
 have hcall := NatCmp_any _ _ la lb _ (ha.fresh hf) (hb.fresh hf) hna hnb
 have hres : cmpZ (sint false la) (sint false lb) = cmpN (sval la) (sval lb) := cmpZ_pp _ _
 have H_ha := hid ha; have H_hb := hid hb; have H_hna := hid hna; have H_hnb := hid hnb; have H_hca := hid hca; have H_hcb := hid hcb; have H_hcall := hid hcall; have H_hres := hid hres; have H_hf := hid hf; have H_hg := hid hg; clear ha hb hna hnb hca hcb hcall hres hf hg
 go_enter Tryz.func100, Tryz.ntmps100
 go_wp2_with (fail)
 refine H_hcall.out.mono ?_
 rintro e w2 ⟨rfl, n, rfl⟩
 go_wp2_with (fail)
 go_ret
 exact ⟨by rw [H_hres.out]; rfl, H_hf.out.drewN n⟩

theorem WholeCmp_ft (va vb : Value) (la lb : List Nat) (w : World) (ha : SNat w va la) (hb : SNat w vb lb) (hna : Norm la) (hnb : Norm lb) (hca : la = [] → false = false) (hcb : lb = [] → true = false) :
 Calls Tryz.prog 100 #[swh false va, swh true vb] w (IRet w (cmpZ (sint false la) (sint true lb))) := by
 obtain ⟨aa, ca, rfl⟩ := ha.form
 obtain ⟨ab, cb, rfl⟩ := hb.form
 obtain ⟨g, hg⟩ : ∃ g, g = w.heap.size := ⟨_, rfl⟩
 have hf : Fresh w ((w.alloc (.cells #[.bool false, .slice aa la.length ca] 28)).alloc (.cells #[.bool true, .slice ab lb.length cb] 28)) := ((Keep.refl _ _).alloc _).alloc _
 have hres : cmpZ (sint false la) (sint true lb) = 1 := cmpZ_pn hnb hcb
 have H_ha := hid ha; have H_hb := hid hb; have H_hna := hid hna; have H_hnb := hid hnb; have H_hca := hid hca; have H_hcb := hid hcb; have H_hres := hid hres; have H_hf := hid hf; have H_hg := hid hg; clear ha hb hna hnb hca hcb hres hf hg
 go_enter Tryz.func100, Tryz.ntmps100
 go_wp2_with (fail)
 go_ret
 exact ⟨by rw [H_hres.out]; rfl, H_hf.out⟩

theorem WholeCmp_tf (va vb : Value) (la lb : List Nat) (w : World) (ha : SNat w va la) (hb : SNat w vb lb) (hna : Norm la) (hnb : Norm lb) (hca : la = [] → true = false) (hcb : lb = [] → false = false) :
 Calls Tryz.prog 100 #[swh true va, swh false vb] w (IRet w (cmpZ (sint true la) (sint false lb))) := by
 obtain ⟨aa, ca, rfl⟩ := ha.form
 obtain ⟨ab, cb, rfl⟩ := hb.form
 obtain ⟨g, hg⟩ : ∃ g, g = w.heap.size := ⟨_, rfl⟩
 have hf : Fresh w ((w.alloc (.cells #[.bool true, .slice aa la.length ca] 28)).alloc (.cells #[.bool false, .slice ab lb.length cb] 28)) := ((Keep.refl _ _).alloc _).alloc _
 have hres : cmpZ (sint true la) (sint false lb) = -1 := cmpZ_np hna hca
 have H_ha := hid ha; have H_hb := hid hb; have H_hna := hid hna; have H_hnb := hid hnb; have H_hca := hid hca; have H_hcb := hid hcb; have H_hres := hid hres; have H_hf := hid hf; have H_hg := hid hg; clear ha hb hna hnb hca hcb hres hf hg
 go_enter Tryz.func100, Tryz.ntmps100
 go_wp2_with (fail)
 go_ret
 exact ⟨by rw [H_hres.out]; rfl, H_hf.out⟩

theorem WholeCmp_tt (va vb : Value) (la lb : List Nat) (w : World) (ha : SNat w va la) (hb : SNat w vb lb) (hna : Norm la) (hnb : Norm lb) (hca : la = [] → true = false) (hcb : lb = [] → true = false) :
 Calls Tryz.prog 100 #[swh true va, swh true vb] w (IRet w (cmpZ (sint true la) (sint true lb))) := by
 obtain ⟨aa, ca, rfl⟩ := ha.form
 obtain ⟨ab, cb, rfl⟩ := hb.form
 obtain ⟨g, hg⟩ : ∃ g, g = w.heap.size := ⟨_, rfl⟩
 have hf : Fresh w ((w.alloc (.cells #[.bool true, .slice aa la.length ca] 28)).alloc (.cells #[.bool true, .slice ab lb.length cb] 28)) := ((Keep.refl _ _).alloc _).alloc _
 have hcall := NatCmp_any _ _ lb la _ (hb.fresh hf) (ha.fresh hf) hnb hna
 have hres : cmpZ (sint true la) (sint true lb) = cmpN (sval lb) (sval la) := cmpZ_nn _ _
 have H_ha := hid ha; have H_hb := hid hb; have H_hna := hid hna; have H_hnb := hid hnb; have H_hca := hid hca; have H_hcb := hid hcb; have H_hcall := hid hcall; have H_hres := hid hres; have H_hf := hid hf; have H_hg := hid hg; clear ha hb hna hnb hca hcb hcall hres hf hg
 go_enter Tryz.func100, Tryz.ntmps100
 go_wp2_with (fail)
 refine H_hcall.out.mono ?_
 rintro e w2 ⟨rfl, n, rfl⟩
 go_wp2_with (fail)
 go_ret
 exact ⟨by rw [H_hres.out]; rfl, H_hf.out.drewN n⟩

theorem WholeCmp_any (xa xb : Value) (za zb : Int) (w : World) (ha : SWh w xa za) (hb : SWh w xb zb) :
 Calls Tryz.prog 100 #[xa, xb] w (IRet w (cmpZ za zb)) := by
 obtain ⟨na, va, la, rfl, ha, hna, hca, rfl⟩ := ha
 obtain ⟨nb, vb, lb, rfl, hb, hnb, hcb, rfl⟩ := hb
 cases na <;> cases nb
 · exact WholeCmp_ff va vb la lb w ha hb hna hnb hca hcb
 · exact WholeCmp_ft va vb la lb w ha hb hna hnb hca hcb
 · exact WholeCmp_tf va vb la lb w ha hb hna hnb hca hcb
 · exact WholeCmp_tt va vb la lb w ha hb hna hnb hca hcb

def SFr (w : World) (x : Value) (z : Int) (d : Nat) : Prop := ∃ neg v l dv dl, x = .agg #[.bool neg, v, dv] ∧ SNat w v l ∧ Norm l ∧ (l = [] → neg = false) ∧ sint neg l = z ∧ SNat w dv dl ∧ Norm dl ∧ sval dl = d

theorem SFr.fresh {w w' : World} {x : Value} {z : Int} {d : Nat} (h : SFr w x z d) (hk : Fresh w w') : SFr w' x z d := by
 obtain ⟨neg, v, l, dv, dl, h1, h2, h3, h4, h5, h6, h7⟩ := h
 exact ⟨neg, v, l, dv, dl, h1, h2.fresh hk, h3, h4, h5, h6.fresh hk, h7⟩

def FRet (w : World) (z : Int) (d : Nat) (e : Ending) (w' : World) : Prop := ∃ x, e = .returned x ∧ SFr w' x z d ∧ Fresh w w'

theorem SNat.off {w : World} {v : Value} {l : List Nat} {g : Nat} {u : Value} (h : SNat w v l) (hc : w.cell? ⟨g, 0, none⟩ = some u) (hu : ∀ n, u ≠ wd .u32 n) : l = [] ∨ v.ownBlock ≠ some g := by
 rcases Nat.eq_zero_or_pos l.length with h0 | h0
 · exact .inl (List.eq_nil_of_length_eq_zero h0)
 · obtain ⟨b, cap, rfl, _, _, _, h4⟩ := h.open_pos h0
   refine .inr (fun e => ?_)
   have e' : b = g := Option.some.inj e
   subst e'
   have := h4 0 h0
   rw [hc] at this
   exact hu _ (Option.some.inj this)

theorem SNat.setOff {w : World} {v : Value} {l : List Nat} {g o : Nat} {x : Value} (h : SNat w v l) (ho : l = [] ∨ v.ownBlock ≠ some g) : SNat (w.setCell ⟨g, o, none⟩ x) v l := by
 refine ⟨h.1, h.2.1, ?_⟩
 rcases h.2.2 with h0 | ⟨b, cap, cur, T, rfl, hg, h1, h2, h3, h4⟩
 · exact .inl h0
 · by_cases hb : b = g
   · subst hb
     rcases ho with rfl | ho
     · exact .inr ⟨b, cap, _, T, rfl, rst hg, h1, h2, by simp; exact h3, by simp⟩
     · exact absurd rfl ho
   · refine .inr ⟨b, cap, cur, T, rfl, ?_, h1, h2, h3, h4⟩
     simp only [World.setCell, Array.getElem?_modify]
     rw [if_neg (fun e => hb e.symm)]; exact hg

theorem far3 {w : World} {g h o o1 o2 o3 : Nat} {v1 v2 v3 : Value} {u : Option Value} (hne : h ≠ g) (k : w.cell? ⟨h, o, none⟩ = u) : (((w.setCell ⟨g, o1, none⟩ v1).setCell ⟨g, o2, none⟩ v2).setCell ⟨g, o3, none⟩ v3).cell? ⟨h, o, none⟩ = u := by
 rw [cell?_setCell_ne (.inl hne), cell?_setCell_ne (.inl hne), cell?_setCell_ne (.inl hne)]; exact k

theorem Fresh.set3 {w w1 : World} {g : Nat} {o1 o2 o3 : Nat} {v1 v2 v3 : Value} (h : Fresh w w1) (hg : w.heap.size ≤ g) : Fresh w (((w1.setCell ⟨g, o1, none⟩ v1).setCell ⟨g, o2, none⟩ v2).setCell ⟨g, o3, none⟩ v3) :=
 ((h.setCell (fun h => absurd h (by show ¬ g < w.heap.size; omega)) _).setCell (fun h => absurd h (by show ¬ g < w.heap.size; omega)) _).setCell (fun h => absurd h (by show ¬ g < w.heap.size; omega)) _

theorem ftr {a b c : World} (h : Fresh a b) (k : Fresh b c) : Fresh a c := h.trans k (fun _ _ h => h) (fun _ _ h => h)

theorem wrap_nat (n : Nat) (h : n ≤ 1000000) : IntKind.i64.wrap (n : Int) = (n : Int) := by
 rw [IntKind.wrap_i64]; omega

theorem DecFrac_neg (neg : Bool) (v : Value) (l : List Nat) (n : Nat) (w : World) (h : SNat w v l) (hn : Norm l) (hc : l = [] → neg = false) (h0 : 0 < n) (hb : n ≤ 1000000) :
 Calls Tryz.prog 18 #[.agg #[.bool neg, v, .int .i64 (-(n : Int))]] w (FRet w (sint neg l) (10 ^ n)) := by
 obtain ⟨a, c, rfl⟩ := h.form
 obtain ⟨g, hg⟩ : ∃ g, g = w.heap.size := ⟨_, rfl⟩
 have bx := boxes2 w #[.bool neg, .slice a l.length c, .int .i64 (-(n : Int))] #[.bool false, .slice none 0 0, .slice none 0 0] 38 30 g hg
 have t1 : decide ((0 : Int) ≤ -(n : Int)) = false := by simp; omega
 have t2 : IntKind.i64.wrap (n : Int) = (n : Int) := wrap_nat n hb
 have H_h := hid h; have H_bx := hid bx; have H_hn := hid hn; have H_hc := hid hc; clear h bx hn hc
 go_enter Tryz.func18, Tryz.ntmps18
 go_wp2_with (fail)
 generalize hw1 : (w.alloc _).alloc _ = w1
 rw [← hg]
 obtain ⟨b1, b2, hf⟩ := H_bx.out w1 hw1
 have k0 := rwc b1 0
 have k1 := rwc b1 1
 have k2 := rwc b1 2
 simp at k0 k1 k2
 have H_b1 := hid b1; have H_b2 := hid b2; have H_hf := hid hf; have H_hw1 := hid hw1; have H_hg := hid hg; clear b1 b2 hf hw1 hg
 go_region_held3 (fun (w' : World) => w'.cell? ⟨g, 0, none⟩ = some (.bool neg) ∧ w'.cell? ⟨g, 1, none⟩ = some (.slice a l.length c) ∧ w'.cell? ⟨g, 2, none⟩ = some (.int .i64 (-(n : Int)))) (first | exact ⟨k0, k1, k2⟩ | exact ⟨m0, m1, m2⟩ | exact ⟨far3 (by omega) m0, far3 (by omega) m1, far3 (by omega) m2⟩) (first
  | (go_at_call 50; (with_reducible refine (Pow10_any n _ hb).mono ?_); rintro e w3 ⟨dv, dl, rfl, r1, r2, r3, r4⟩; have hf3 : Fresh w1 w3 := (by first | exact r4 | exact r4.of_drew | exact r4.of_drewN); obtain ⟨ad, cd, rfl⟩ := r1.form; have m0 := cfr k0 hf3; have m1 := cfr k1 hf3; have m2 := cfr k2 hf3; have b4 := rfr H_b2.out hf3; have p0 := rwc b4 0; have p1 := rwc b4 1; have p2 := rwc b4 2; have q0 : w3.frozen? ⟨g + 1, 0, none⟩ = false := frozen_of_row _ _ _ _ _ b4; have q1 : w3.frozen? ⟨g + 1, 1, none⟩ = false := frozen_of_row _ _ _ _ _ b4; have q2 : w3.frozen? ⟨g + 1, 2, none⟩ = false := frozen_of_row _ _ _ _ _ b4; simp at p0 p1 p2; have H_r1 := hid r1; have H_r2 := hid r2; have H_r3 := hid r3; have H_hf3 := hid hf3; have H_b4 := hid b4; clear r1 r2 r3 r4 hf3 b4))
 go_wp2
 refine bodyPost_ret (results_cell_row rfl _ _ (g + 1) 30 #[.bool neg, .slice a l.length c, .slice ad dl.length cd] (0, 0) _ rfl (rst (rst (rst H_b4.out))) Tryz.underlying30 rfl (by kernel_rfl)) rfl ?_
 have s1 := (H_h.out.fresh H_hf.out).fresh H_hf3.out
 have f1 := s1.off p0 (fun n e => by simp at e)
 have f2 := H_r1.out.off p0 (fun n e => by simp at e)
 exact ⟨_, rfl, ⟨neg, _, l, _, dl, rfl, ((s1.setOff f1).setOff f1).setOff f1, H_hn.out, H_hc.out, rfl, ((H_r1.out.setOff f2).setOff f2).setOff f2, H_r2.out, H_r3.out⟩, (ftr H_hf.out H_hf3.out).set3 (by have := H_hg.out; omega)⟩

theorem ten_lt (n : Nat) : 10 ^ n < spow (n + 1) := by
 rw [spow_ten]; exact Nat.pow_lt_pow_right (by omega) (by omega)

theorem DecFrac_pos (neg : Bool) (v : Value) (l : List Nat) (n : Nat) (w : World) (h : SNat w v l) (hlen : l.length ≤ 500000) (hb : n ≤ 1000000) (hb2 : n ≤ 400000) :
 Calls Tryz.prog 18 #[.agg #[.bool neg, v, .int .i64 (n : Int)]] w (FRet w (sint neg l * (10 ^ n : Nat)) 1) := by
 obtain ⟨a, c, rfl⟩ := h.form
 obtain ⟨g, hg⟩ : ∃ g, g = w.heap.size := ⟨_, rfl⟩
 have bx := boxes2 w #[.bool neg, .slice a l.length c, .int .i64 (n : Int)] #[.bool false, .slice none 0 0, .slice none 0 0] 38 30 g hg
 have t1 : decide ((0 : Int) ≤ (n : Int)) = true := by simp
 have H_h := hid h; have H_bx := hid bx; clear h bx
 go_enter Tryz.func18, Tryz.ntmps18
 go_wp2_with (fail)
 generalize hw1 : (w.alloc _).alloc _ = w1
 rw [← hg]
 obtain ⟨b1, b2, hf⟩ := H_bx.out w1 hw1
 have k0 := rwc b1 0
 have k1 := rwc b1 1
 have k2 := rwc b1 2
 simp at k0 k1 k2
 have H_b1 := hid b1; have H_b2 := hid b2; have H_hf := hid hf; have H_hw1 := hid hw1; have H_hg := hid hg; clear b1 b2 hf hw1 hg
 go_region_held3 (fun (w' : World) => w'.cell? ⟨g, 0, none⟩ = some (.bool neg) ∧ w'.cell? ⟨g, 1, none⟩ = some (.slice a l.length c) ∧ w'.cell? ⟨g, 2, none⟩ = some (.int .i64 (n : Int))) (first | exact ⟨k0, k1, k2⟩ | exact ⟨m0, m1, m2⟩ | exact ⟨n0, n1, n2⟩ | exact ⟨o0, o1, o2⟩ | exact ⟨u0, u1, u2⟩ | exact ⟨far3 (by omega) u0, far3 (by omega) u1, far3 (by omega) u2⟩) (first
  | (go_at_call 50; (with_reducible refine (Pow10_any n _ hb).mono ?_); rintro e w3 ⟨dv, dl, rfl, r1, r2, r3, r4⟩; have hf3 : Fresh w1 w3 := (by first | exact r4 | exact r4.of_drew | exact r4.of_drewN); obtain ⟨ad, cd, rfl⟩ := r1.form; have m0 := cfr k0 hf3; have m1 := cfr k1 hf3; have m2 := cfr k2 hf3; have H_r1 := hid r1; have H_r2 := hid r2; have H_r3 := hid r3; have H_hf3 := hid hf3; clear r1 r2 r3 r4 hf3)
  | (go_at_call 49; (with_reducible refine (NatMul_any _ _ l dl _ ((H_h.out.fresh H_hf.out).fresh H_hf3.out) H_r1.out (by have := H_r2.out.s_len_le (k := n + 1) (by rw [H_r3.out]; exact ten_lt n); omega)).mono ?_); rintro e w4 ⟨pv, pl, rfl, s1, s2, s3, s4⟩; obtain ⟨ap, cp, rfl⟩ := s1.form; have n0 := cfr m0 s4; have n1 := cfr m1 s4; have n2 := cfr m2 s4; have H_s1 := hid s1; have H_s2 := hid s2; have H_s3 := hid s3; have H_s4 := hid s4; clear s1 s2 s3 s4)
  | (go_at_call 56; (with_reducible refine (wholeOf_any _ _ _ _ H_s1.out).mono ?_); rintro e w5 ⟨rfl, r5⟩; have o0 := cfr n0 r5; have o1 := cfr n1 r5; have o2 := cfr n2 r5; have H_r5 := hid r5; clear r5)
  | (go_at_call 55; (with_reducible refine (one_any _).mono ?_); rintro e w6 ⟨ov, ol, rfl, t1, t2, t3, t4⟩; obtain ⟨ao, co, rfl⟩ := t1.form; have u0 := cfr o0 t4; have u1 := cfr o1 t4; have u2 := cfr o2 t4; have hf6 := ftr (ftr (ftr H_hf3.out H_s4.out) H_r5.out) t4; have b4 := rfr H_b2.out hf6; have p0 := rwc b4 0; have p1 := rwc b4 1; have p2 := rwc b4 2; have q0 : w6.frozen? ⟨g + 1, 0, none⟩ = false := frozen_of_row _ _ _ _ _ b4; have q1 : w6.frozen? ⟨g + 1, 1, none⟩ = false := frozen_of_row _ _ _ _ _ b4; have q2 : w6.frozen? ⟨g + 1, 2, none⟩ = false := frozen_of_row _ _ _ _ _ b4; simp at p0 p1 p2; have H_t1 := hid t1; have H_t2 := hid t2; have H_t3 := hid t3; have H_t4 := hid t4; have H_hf6 := hid hf6; have H_b4 := hid b4; clear t1 t2 t3 t4 hf6 b4))
 go_wp2
 refine bodyPost_ret (results_cell_row rfl _ _ (g + 1) 30 #[.bool (neg && decide (0 < pl.length)), .slice ap pl.length cp, .slice ao ol.length co] (0, 0) _ rfl (rst (rst (rst H_b4.out))) Tryz.underlying30 rfl (by kernel_rfl)) rfl ?_
 have s1 := (H_s1.out.fresh H_r5.out).fresh H_t4.out
 have f1 := s1.off p0 (fun n e => by simp at e)
 have f2 := H_t1.out.off p0 (fun n e => by simp at e)
 have hv := sint_mul (na := neg) (nb := false) H_s3.out H_s2.out
 rw [show (neg != false) = neg by cases neg <;> rfl] at hv
 exact ⟨_, rfl, ⟨_, _, pl, _, ol, rfl, ((s1.setOff f1).setOff f1).setOff f1, H_s2.out, by rintro rfl; simp, by rw [hv]; unfold sint; rw [H_r3.out]; simp, ((H_t1.out.setOff f2).setOff f2).setOff f2, H_t2.out, H_t3.out⟩, (ftr H_hf.out H_hf6.out).set3 (by have := H_hg.out; omega)⟩

theorem sint_natAbs (neg : Bool) (l : List Nat) : (sint neg l).natAbs = sval l := by unfold sint; split <;> simp

theorem FracCmp_any (xa xb : Value) (za zb : Int) (da db : Nat) (w : World) (ha : SFr w xa za da) (hb : SFr w xb zb db) (h1 : za.natAbs < spow 1000) (h2 : zb.natAbs < spow 1000) (h3 : da < spow 1000) (h4 : db < spow 1000) :
 Calls Tryz.prog 48 #[xa, xb] w (IRet w (cmpZ (za * db) (zb * da))) := by
 obtain ⟨na, va, la, dva, dla, rfl, ha, hna, hca, rfl, hda, hdna, rfl⟩ := ha
 obtain ⟨nb, vb, lb, dvb, dlb, rfl, hb, hnb, hcb, rfl, hdb, hdnb, rfl⟩ := hb
 rw [sint_natAbs] at h1 h2
 have l1 := hna.s_len_le h1
 have l2 := hnb.s_len_le h2
 have l3 := hdna.s_len_le h3
 have l4 := hdnb.s_len_le h4
 obtain ⟨aa, ca, rfl⟩ := ha.form
 obtain ⟨ab, cb, rfl⟩ := hb.form
 obtain ⟨ada, cda, rfl⟩ := hda.form
 obtain ⟨adb, cdb, rfl⟩ := hdb.form
 obtain ⟨g, hg⟩ : ∃ g, g = w.heap.size := ⟨_, rfl⟩
 have bx := boxes2 w #[.bool na, .slice aa la.length ca, .slice ada dla.length cda] #[.bool nb, .slice ab lb.length cb, .slice adb dlb.length cdb] 30 30 g hg
 have hmul1 : ∀ w1, Fresh w w1 → ∀ W, Fresh w1 W → Calls Tryz.prog 63 #[swh na (.slice aa la.length ca), swh false (.slice adb dlb.length cdb)] W (WRet W (sint na la * sint false dlb)) := fun w1 hf W hW => WholeMul_any _ _ _ _ la dlb W ((ha.fresh hf).fresh hW) ((hdb.fresh hf).fresh hW) (by omega)
 have hmul2 : ∀ w1, Fresh w w1 → ∀ W, Fresh w1 W → Calls Tryz.prog 63 #[swh nb (.slice ab lb.length cb), swh false (.slice ada dla.length cda)] W (WRet W (sint nb lb * sint false dla)) := fun w1 hf W hW => WholeMul_any _ _ _ _ lb dla W ((hb.fresh hf).fresh hW) ((hda.fresh hf).fresh hW) (by omega)
 have H_ha := hid ha; have H_hb := hid hb; have H_hda := hid hda; have H_hdb := hid hdb; have H_bx := hid bx; have H_hna := hid hna; have H_hca := hid hca; have H_hnb := hid hnb; have H_hcb := hid hcb; have H_hdna := hid hdna; have H_hdnb := hid hdnb; have H_h1 := hid h1; have H_h2 := hid h2; have H_h3 := hid h3; have H_h4 := hid h4; have H_hmul1 := hid hmul1; have H_hmul2 := hid hmul2; clear ha hb hda hdb bx hna hca hnb hcb hdna hdnb h1 h2 h3 h4 hmul1 hmul2
 go_enter Tryz.func48, Tryz.ntmps48
 go_wp2_with (fail)
 generalize hw1 : (w.alloc _).alloc _ = w1
 rw [← hg]
 obtain ⟨b1, b2, hf⟩ := H_bx.out w1 hw1
 have k0 := rwc b1 0
 have k1 := rwc b1 1
 have k2 := rwc b1 2
 have k3 := rwc b2 0
 have k4 := rwc b2 1
 have k5 := rwc b2 2
 simp at k0 k1 k2 k3 k4 k5
 have hmul1 := H_hmul1.out w1 hf
 have hmul2 := H_hmul2.out w1 hf
 clear H_hmul1 H_hmul2
 have H_b1 := hid b1; have H_b2 := hid b2; have H_hf := hid hf; have H_hw1 := hid hw1; have H_hg := hid hg; have H_hmul1 := hid hmul1; have H_hmul2 := hid hmul2; clear b1 b2 hf hw1 hg hmul1 hmul2
 go_region_held3 (fun (w' : World) => w'.cell? ⟨g, 0, none⟩ = some (.bool na) ∧ w'.cell? ⟨g, 1, none⟩ = some (.slice aa la.length ca) ∧ w'.cell? ⟨g, 2, none⟩ = some (.slice ada dla.length cda) ∧ w'.cell? ⟨g + 1, 0, none⟩ = some (.bool nb) ∧ w'.cell? ⟨g + 1, 1, none⟩ = some (.slice ab lb.length cb) ∧ w'.cell? ⟨g + 1, 2, none⟩ = some (.slice adb dlb.length cdb)) (first | exact ⟨k0, k1, k2, k3, k4, k5⟩ | exact ⟨m0, m1, m2, m3, m4, m5⟩ | exact ⟨n0, n1, n2, n3, n4, n5⟩ | exact ⟨o0, o1, o2, o3, o4, o5⟩) (first
  | (go_at_call 63; (with_reducible refine (H_hmul1.out _ ?c1).mono ?_); (case c1 => first | exact Keep.refl _ _ | exact (Keep.refl _ _).drew | exact (Keep.refl _ _).drewN _); rintro e w3 ⟨x1, rfl, r1, r2⟩; have hf3 : Fresh w1 w3 := (by first | exact r2 | exact r2.of_drew | exact r2.of_drewN); have m0 := cfr k0 hf3; have m1 := cfr k1 hf3; have m2 := cfr k2 hf3; have m3 := cfr k3 hf3; have m4 := cfr k4 hf3; have m5 := cfr k5 hf3; have H_r1 := hid r1; have H_hf3 := hid hf3; clear r1 r2 hf3)
  | (go_at_call 63; (with_reducible refine (H_hmul2.out _ H_hf3.out).mono ?_); rintro e w4 ⟨x2, rfl, s1, s2⟩; have n0 := cfr m0 s2; have n1 := cfr m1 s2; have n2 := cfr m2 s2; have n3 := cfr m3 s2; have n4 := cfr m4 s2; have n5 := cfr m5 s2; have H_s1 := hid s1; have H_s2 := hid s2; clear s1 s2)
  | (go_at_call 100; (with_reducible refine (WholeCmp_any _ _ _ _ _ (H_r1.out.fresh H_s2.out) H_s1.out).mono ?_); rintro e w5 ⟨rfl, t1⟩; have o0 := cfr n0 t1; have o1 := cfr n1 t1; have o2 := cfr n2 t1; have o3 := cfr n3 t1; have o4 := cfr n4 t1; have o5 := cfr n5 t1; have H_t1 := hid t1; clear t1))
 go_wp2
 go_ret
 refine ⟨?_, ftr (ftr (ftr H_hf.out H_hf3.out) H_s2.out) H_t1.out⟩
 simp [sint]

def VRet (w : World) (v : Value) (e : Ending) (w' : World) : Prop := e = .returned v ∧ Fresh w w'

theorem results_cell_tmp_row {P : Program} {fn : Func} {p u : Tmp} {ty : TypeId} (h : fn.results = #[.cell p ty, .tmp u]) (tmps : Array Value) (w : World) (g : Nat) (t : TypeId) (cs : Array Value) (fr : Nat × Nat) (d : TypeDesc)
 (hp : tmps.getD p undef = .pointer (some ⟨g, 0, none⟩)) (hg : w.heap[g]? = some (.cells cs t fr)) (hu : P.underlying ty = some d) (hd : (match d with | .struct _ | .array _ _ => true | _ => false) = true) (hi : (P.info? ty).map (·.size) = some cs.size) :
 (results fn tmps).run P w = .ok (.tuple #[.agg cs, tmps.getD u undef]) w := by
 rw [results_cell_tmp h, hp]
 simp [asAddr, Result.andThen, run_loadVar_row w g t ty cs fr d hg hu hd hi]



theorem results_cell_cell {P : Program} {fn : Func} {p q : Tmp} {ty ty' : TypeId} (h : fn.results = #[.cell p ty, .cell q ty']) (tmps : Array Value) (w : World) (g : Nat) (t : TypeId) (cs : Array Value) (fr : Nat × Nat) (d : TypeDesc) (g' : Nat) (v : Value)
 (hp : tmps.getD p undef = .pointer (some ⟨g, 0, none⟩)) (hq : tmps.getD q undef = .pointer (some ⟨g', 0, none⟩)) (hg : w.heap[g]? = some (.cells cs t fr)) (hu : P.underlying ty = some d) (hd : (match d with | .struct _ | .array _ _ => true | _ => false) = true) (hi : (P.info? ty).map (·.size) = some cs.size)
 (hv : (loadVar ty' ⟨g', 0, none⟩).run P w = .ok v w) :
 (results fn tmps).run P w = .ok (.tuple #[.agg cs, v]) w := by
 have hp' : tmps[p]?.getD undef = .pointer (some ⟨g, 0, none⟩) := by simpa using hp
 have hq' : tmps[q]?.getD undef = .pointer (some ⟨g', 0, none⟩) := by simpa using hq
 simp [results, h, hp', hq', asAddr, run_loadVar_row w g t ty cs fr d hg hu hd hi, hv, Sem.run_bind, Result.andThen]

theorem row_far {w : World} {g h o : Nat} {x : Value} (hne : h ≠ g) : (w.setCell ⟨h, o, none⟩ x).heap[g]? = w.heap[g]? := by
 simp only [World.setCell, Array.getElem?_modify]
 rw [if_neg hne]





end Go.Proofs.YtllencgncinphaaGreatDoor
