/- The contracts of math/big's natural numbers: alias, mulAddWW, products. -/
import Derived.Deep.RegionHeld3
import Derived.Deep.DrawnRows
import Derived.Test.YtllencgncinphaaGreatDoorKE5
namespace Go.Proofs.YtllencgncinphaaGreatDoor
open Go.RowKit
open Go.Lib (hid)
set_option maxRecDepth 20000
set_option maxHeartbeats 1000000

def Apart (xv yv : Value) : Prop := ∀ g, xv.ownBlock = some g → yv.ownBlock ≠ some g

theorem NatAt.cases {w : World} {v : Value} {l : List Nat} (h : NatAt w v l) : (v = .slice none 0 0 ∧ l = []) ∨ ∃ g off cap L, v = .slice (some ⟨g, off, none⟩) l.length cap ∧ Blk .u64 w g L ∧ off + cap ≤ L.length ∧ l.length ≤ cap ∧ cap ≤ 9223372036854775807 := by
 have hc := h.1.2
 rcases h.2 with h | ⟨g, off, cap, L, rfl, h2, h3, h4, _⟩
 · exact .inl h
 · exact .inr ⟨g, off, cap, L, rfl, h2, h4, h3, hc⟩

theorem alias_apart (xv yv : Value) (xl yl : List Nat) (w : World) (hx : NatAt w xv xl) (hy : NatAt w yv yl) (hs : Apart xv yv) :
 Calls Tryz.prog 144 #[xv, yv] w (Quiet w (.bool false)) := by
 have hz : decide (0 < 0) = false := rfl
 rcases hx.cases with ⟨rfl, rfl⟩ | ⟨gx, ox, cx, M, rfl, bx, hx2, hxc, hxm⟩
 · obtain ⟨ay, cy, hyv⟩ := hy.form
   generalize yl.length = n at *
   subst hyv
   clear hx hy hs
   go_enter Tryz.func144, Tryz.ntmps144
   go_wp2_with (go_quiet (fail))
   go_ret
   exact ⟨rfl, _, rfl⟩
 · generalize xl.length = m at *
   by_cases hcx : 0 < cx
   · have hcx1 : decide (0 < cx) = true := by simpa using hcx
     rcases hy.cases with ⟨rfl, rfl⟩ | ⟨gy, oy, cy, K, rfl, by_, hy2, hyc, hym⟩
     · clear hx hy hs
       have H_bx := hid bx; have H_hx2 := hid hx2; clear bx hx2
       go_enter Tryz.func144, Tryz.ntmps144
       go_wp2_with (go_quiet (fail))
       go_ret
       exact ⟨rfl, _, rfl⟩
     · generalize yl.length = n at *
       by_cases hcy : 0 < cy
       · have hcy1 : decide (0 < cy) = true := by simpa using hcy
         have hne : gx ≠ gy := fun e => hs gx rfl (by rw [e]; rfl)
         have hq : ∀ nq, (binOp .eql 143 (.pointer (some ⟨gx, ox + (cx - 1), none⟩)) (.pointer (some ⟨gy, oy + (cy - 1), none⟩))).run Tryz.prog (w.drewN nq) = .ok (.bool false) (w.drewN nq) :=
          fun nq => Blk.eql (bx.drewN nq) (by_.drewN nq) hne Tryz.underlying143 (by kernel_rfl)
         clear hx hy hs
         have a1 : (0 : Int) ≤ (cx : Int) - 1 := by omega
         have a2 : (cx : Int) - 1 < (cx : Int) := by omega
         have a3 : ((cx : Int) - 1).toNat = cx - 1 := by omega
         have b1 : (0 : Int) ≤ (cy : Int) - 1 := by omega
         have b2 : (cy : Int) - 1 < (cy : Int) := by omega
         have b3 : ((cy : Int) - 1).toNat = cy - 1 := by omega
         have H_bx := hid bx; have H_hx2 := hid hx2; have H_by_ := hid by_; have H_hy2 := hid hy2; clear bx hx2 by_ hy2
         go_enter Tryz.func144, Tryz.ntmps144
         go_wp2_with (fail)
         go_quiet (fail)
         go_wp2
         go_ret
         exact ⟨rfl, _, rfl⟩
       · have hcy1 : decide (0 < cy) = false := by simpa using hcy
         clear hx hy hs
         have H_bx := hid bx; have H_hx2 := hid hx2; have H_by_ := hid by_; have H_hy2 := hid hy2; clear bx hx2 by_ hy2
         go_enter Tryz.func144, Tryz.ntmps144
         go_wp2_with (go_quiet (fail))
         go_ret
         exact ⟨rfl, _, rfl⟩
   · have hcx1 : decide (0 < cx) = false := by simpa using hcx
     obtain ⟨ay, cy, hyv⟩ := hy.form
     generalize yl.length = n at *
     subst hyv
     clear hx hy hs
     have H_bx := hid bx; have H_hx2 := hid hx2; clear bx hx2
     go_enter Tryz.func144, Tryz.ntmps144
     go_wp2_with (go_quiet (fail))
     go_ret
     exact ⟨rfl, _, rfl⟩

theorem alias_self (g off n cap : Nat) (l : List Nat) (w : World) (hx : NatAt w (.slice (some ⟨g, off, none⟩) n cap) l) (hc : 0 < cap) :
 Calls Tryz.prog 144 #[.slice (some ⟨g, off, none⟩) n cap, .slice (some ⟨g, off, none⟩) n cap] w (Quiet w (.bool true)) := by
 obtain ⟨jt, hjt⟩ : ∃ j, Tryz.prog.info? 123 = some j := by
  have h : (Tryz.prog.info? 123).isSome = true := by kernel_rfl
  exact Option.isSome_iff_exists.1 h
 have hcm := hx.cap
 have hcx1 : decide (0 < cap) = true := by simpa using hc
 have hq : ∀ nq, (binOp .eql 143 (.pointer (some ⟨g, off + (cap - 1), none⟩)) (.pointer (some ⟨g, off + (cap - 1), none⟩))).run Tryz.prog (w.drewN nq) = .ok (.bool true) (w.drewN nq) :=
  fun nq => run_eql_ptr_same _ _ Tryz.underlying143 hjt
 clear hx hjt
 have a1 : (0 : Int) ≤ (cap : Int) - 1 := by omega
 have a2 : (cap : Int) - 1 < (cap : Int) := by omega
 have a3 : ((cap : Int) - 1).toNat = cap - 1 := by omega
 go_enter Tryz.func144, Tryz.ntmps144
 go_wp2_with (go_quiet (fail))
 go_ret
 exact ⟨rfl, _, rfl⟩

theorem mulAddWW_any (zv xv : Value) (zl xl : List Nat) (y r : Nat) (w : World) (hn : xl.length < 1000000) (hy : y < 18446744073709551616) (hr : r < 18446744073709551616) (h : NatAt w zv zl) (hx : NatAt w xv xl) (hsx : Sep zv xv) :
 Calls Tryz.prog 193 #[zv, xv, .int .u64 y, .int .u64 r] w (NatRet w zv (val xl * y + r)) := by
 by_cases h0 : xl.length = 0 ∨ y = 0
 · have hs := setWord_any zv zl r w hr h
   have e0 : val xl * y + r = r := by
    rcases h0 with h0 | h0
    · rw [List.eq_nil_of_length_eq_zero h0]; simp [val]
    · simp [h0]
   rw [e0]
   obtain ⟨ax, cx, hxv⟩ := hx.form
   generalize hml : xl.length = m at *
   subst hxv
   have hb : ((m : Int) == 0) = true ∨ (((m : Int) == 0) = false ∧ ((y : Int) == 0) = true) := by
    by_cases hm : m = 0
    · left; simp [hm]
    · right; rcases h0 with h0 | h0
      · exact absurd h0 hm
      · simp [hm, h0]
   have H_h := hid h; have H_hx := hid hx; have H_hsx := hid hsx; have H_hs := hid hs; have H_h0 := hid h0; have H_e0 := hid e0; have H_hml := hid hml; clear h hx hsx hs h0 e0 hml
   clear hn
   rcases hb with hb | ⟨hb, hb2⟩
   all_goals
    go_enter Tryz.func193, Tryz.ntmps193
    go_wp2_with (fail)
    refine H_hs.out.mono ?_
    intro e w1 h1
    obtain ⟨rv, rfl, h1⟩ := h1.own
    have H_h1 := hid h1; clear h1
    go_wp2
    go_ret
    exact H_h1.out
 · obtain ⟨gx, ox, cx, M, rfl, bx, hx1, hx2, hx3, hx4⟩ := hx.open_pos (by omega)
   have hm := make_any zv zl (xl.length + 1) w (by omega) (by omega) h
   have hgx := bx.lt
   have hb1 : ((xl.length : Int) == 0) = false := by rw [beq_eq_false_iff_ne]; omega
   have hb2 : ((y : Int) == 0) = false := by rw [beq_eq_false_iff_ne]; omega
   generalize hml : xl.length = m at *
   have H_h := hid h; have H_hm := hid hm; have H_hx := hid hx; have H_hsx := hid hsx; have H_bx := hid bx; have H_hx3 := hid hx3; have H_hx4 := hid hx4; have H_hx2 := hid hx2; have H_hml := hid hml; have H_h0 := hid h0; clear h hm hx hsx bx hx3 hx4 hx2 hml h0
   go_enter Tryz.func193, Tryz.ntmps193
   go_wp2_with (fail)
   refine H_hm.out.mono ?_
   intro e w1 hm
   obtain ⟨g, off, cap, L, rfl, hb, h1, h2, h3, h4, h5, hcap⟩ := hm.split
   clear hm
   have hmz : (m : Int) ≤ (cap : Int) := by omega
   have hm0 : (0 : Int) ≤ (m : Int) := by omega
   have hmul := mulAddVWW g off cap gx ox cx m y r L M w1 (by omega) hb.out (H_bx.out.keep h4.out (fun h => h)) (by have := h2.out; omega) (by have := H_hx2.out; omega) H_hx4.out hy hr (by have := h5.out.apart H_hsx.out hgx; omega)
   have H_hmul := hid hmul; clear hmul
   go_wp2_with (fail)
   refine H_hmul.out.mono ?_
   rintro e w3 ⟨rfl, hp⟩
   have ex : seg M ox m = xl := H_hx3.out.symm
   rw [ex] at hp ⊢
   have hl := mulVs_length xl y r
   have hc1 := mulVs_carry xl y r (by rw [← ex]; exact fun a ha => H_hx4.out a (seg_mem ha)) hy hr
   have hlt := mulVs_lt xl y r
   have hv := mulVs_val xl y r
   rw [H_hml.out] at hl hv
   generalize mulVs xl y r = res at *
   obtain ⟨s, c⟩ := res
   simp only at hp hl hc1 hlt hv
   have cc1 := hp.blk.cell (o := off + m) (by have := h2.out; rw [sgl (by omega)]; omega)
   have cc2 := hp.blk.frozen (off + m)
   have p6 := hp.set (off + m) c
   rw [spl_set (by rw [hl]) (by have := h2.out; omega)] at p6
   have hl6 : (s ++ [c]).length = m + 1 := by simp [hl]
   have hlt6 : ∀ a ∈ s ++ [c], a < 18446744073709551616 := by
    intro a ha
    rw [List.mem_append, List.mem_singleton] at ha
    rcases ha with ha | rfl
    · exact hlt a ha
    · exact hc1
   have hv6 : val (s ++ [c]) = val xl * y + r := by rw [val_append, hl]; simp [val]; omega
   generalize (spl L off s).getD (off + m) 0 = z9 at *
   generalize s ++ [c] = s6 at *
   have H_hp := hid hp; have H_hl := hid hl; have H_hc1 := hid hc1; have H_hlt := hid hlt; have H_hv := hid hv; have H_p6 := hid p6; have H_hl6 := hid hl6; have H_hlt6 := hid hlt6; have H_hv6 := hid hv6; clear hp hl hc1 hlt hv p6 hl6 hlt6 hv6
   go_wp2_with (fail)
   generalize wr6 : w3.setCell ⟨g, off + m, none⟩ (.int .u64 (c : Int)) = w6 at *
   clear wr6
   have hna : NatAt w6 (.slice (some ⟨g, off, none⟩) (m + 1) cap) s6 := by
    have := NatAt.spl hcap H_p6.out.blk (cap := cap) (by rw [H_hl6.out]; omega) h2.out h3.out H_hlt6.out
    rw [H_hl6.out] at this; exact this
   have hno := norm_any _ _ _ (by rw [H_hl6.out]; omega) hna
   have H_hna := hid hna; have H_hno := hid hno; clear hna hno
   refine H_hno.out.mono ?_
   rintro e w7 ⟨rv, l, rfl, h6, hnorm, hval, hown, rfl⟩
   have H_h6 := hid h6; have H_hnorm := hid hnorm; have H_hval := hid hval; have H_hown := hid hown; clear h6 hnorm hval hown
   go_wp2
   go_ret
   exact ⟨rv, l, rfl, NatOp.of h5.out h4.out H_p6.out.keep H_h6.out (fun k hk => by have := H_hown.out k hk; simpa [Value.ownBlock] using this.symm), H_hnorm.out, by rw [H_hval.out, H_hv6.out]⟩

theorem wpList_clear_puts {k : IntKind} {P : Program} {w : World} {ops : Array Oper} {rest : List Oper} {o : Oper} {a : Act} {Q : Exit → Act → World → Prop} (hgd : o.guard = none) (d : Operand) (dT : TypeId)
 (ho : o.op = .call { callee := .builtin .clear, args := #[d], argTypes := #[dT] }) (elem : TypeId) (hu : P.underlying dT = some (.slice elem)) (hz : ∀ w, (zeroValue elem).run P w = .ok (.int k 0) w)
 (g off n c : Nat) (hd : a.eval d = .slice (some ⟨g, off, none⟩) n c) (L : List Nat) (bz : Blk k w g L) (hn : 0 < n) (hfit : off + n ≤ L.length)
 (h : ∀ w', Puts k g (spl L off (List.replicate n 0)) w w' → wpList P ops Q rest (a.put o.dst (.tuple #[])) w') :
 wpList P ops Q (o :: rest) a w := by
 obtain ⟨T, hg⟩ := id bz
 have hzc : (Builtin.zeroCells (Value.int k 0).cells n).toList = List.replicate n (Value.int k 0) := by
  simp [Builtin.zeroCells, Value.cells]
  apply List.ext_getElem
  · simp
  · intro i h1 h2
    simp [Nat.mod_one]
 have hst := run_storeCells_at P g off T (List.replicate n (Value.int k 0)) 0 (L.map (wd k)).toArray w hg (by simpa using hfit) (by intro v hv'; rw [List.eq_of_mem_replicate hv']; rfl)
 simp only [Nat.add_zero] at hst
 refine wpList_plain hgd fun K hK => ?_
 have hrun : (Builtin.clear_ #[dT] o.type #[.slice (some ⟨g, off, none⟩) n c]).run P w = .ok (.tuple #[]) (w.setRow g ((spl L off (List.replicate n 0)).map (wd k)).toArray) := by
  have e : (List.take off (L.map (wd k)) ++ List.replicate n (Value.int k 0) ++ List.drop (off + n) (L.map (wd k))).toArray = ((spl L off (List.replicate n 0)).map (wd k)).toArray := by
   simp [spl, List.map_take, List.map_drop]
  cases n with
  | zero => omega
  | succ n => simp [Builtin.clear_, run_underlying hu, hz, hzc, hst, Result.andThen, ← e]
 unfold Oper.wp
 simp [execOp, ho, resolve, invoke, builtin, hd, hrun, Result.andThen]
 exact hK _ _ (h _ (Puts.setRow bz _ rfl))

theorem val_rep (n : Nat) : val (List.replicate n 0) = 0 := by
 induction n with
 | zero => rfl
 | succ n ih => simp [List.replicate_succ, val, ih]

theorem seg_spl_in {L q : List Nat} {o k m : Nat} (h : o + q.length ≤ L.length) (hk : k + m ≤ q.length) : seg (spl L o q) (o + k) m = seg q k m := by
 refine seg_ext (by rw [sgl h]; omega) hk (fun j hj => ?_)
 rw [sgD h, if_pos (by omega)]
 congr 1; omega

theorem spl_in {L q s : List Nat} {o k : Nat} (h : o + q.length ≤ L.length) (hk : k + s.length ≤ q.length) : spl (spl L o q) (o + k) s = spl L o (q.take k ++ s ++ q.drop (k + s.length)) := by
 have hl : (q.take k ++ s ++ q.drop (k + s.length)).length = q.length := by simp; omega
 apply ext_getD
 · rw [sgl (by rw [sgl h]; omega), sgl h, sgl (by omega)]
 · intro i _
   rw [sgD (by rw [sgl h]; omega), sgD h, sgD (by omega), hl, getD_append, getD_append]
   simp only [List.length_append, List.length_take, Nat.min_eq_left (show k ≤ q.length by omega)]
   by_cases a : o ≤ i ∧ i < o + q.length
   · rw [if_pos a, if_pos a]
     obtain ⟨j, rfl⟩ : ∃ j, i = o + j := ⟨i - o, by omega⟩
     rw [show o + j - o = j by omega]
     by_cases b : j < k
     · rw [if_neg (by omega), if_pos (by omega), if_pos b]
       simp [List.getD, b]
     · by_cases c : j < k + s.length
       · rw [if_pos (by omega), if_pos (by omega), if_neg b]
         congr 1; omega
       · rw [if_neg (by omega), if_neg (by omega)]
         simp only [List.getD, List.getElem?_drop]
         rw [show k + s.length + (j - (k + s.length)) = j by omega]
   · rw [if_neg a, if_neg a, if_neg (by omega)]

theorem seg_app {p z : List Nat} {k m : Nat} (h : p.length = m + k) : seg (p ++ z) k m = p.drop k := by
 simp only [seg]
 rw [List.drop_append_of_le_length (by omega), List.take_append_of_le_length (by simp; omega), List.take_of_length_le (by simp; omega)]

theorem set_mid {L q z : List Nat} {o i x c : Nat} (hi : i = o + q.length) (h : o + (q.length + 1 + z.length) ≤ L.length) : (spl L o (q ++ x :: z)).set i c = spl L o (q ++ [c] ++ z) := by
 subst hi
 apply ext_getD
 · rw [List.length_set, sgl (by simp; omega), sgl (by simp; omega)]
 · intro j _
   rw [getD_set _ _ _ _ (by rw [sgl (by simp; omega)]; omega), sgD (by simp; omega), sgD (by simp; omega)]
   by_cases e : o + q.length = j
   · subst e
     rw [if_pos rfl, if_pos (by simp), show o + q.length - o = q.length by omega, getD_append, if_pos (by simp), getD_append, if_neg (by omega)]
     simp
   · rw [if_neg e]
     simp only [List.length_append, List.length_cons, List.length_nil]
     by_cases a : o ≤ j ∧ j < o + (q.length + (z.length + 1))
     · rw [if_pos a, if_pos (show o ≤ j ∧ j < o + (q.length + (0 + 1) + z.length) by omega)]
       obtain ⟨i, rfl⟩ : ∃ i, j = o + i := ⟨j - o, by omega⟩
       rw [show o + i - o = i by omega, getD_append, getD_append, getD_append]
       simp only [List.length_append, List.length_cons, List.length_nil]
       by_cases b : i < q.length
       · rw [if_pos b, if_pos (show i < q.length + (0 + 1) by omega), if_pos b]
       · rw [if_neg b, if_neg (show ¬ i < q.length + (0 + 1) by omega)]
         obtain ⟨k, rfl⟩ : ∃ k, i = q.length + 1 + k := ⟨i - (q.length + 1), by omega⟩
         rw [show q.length + 1 + k - q.length = k + 1 by omega, show q.length + 1 + k - (q.length + (0 + 1)) = k by omega]; rfl
     · rw [if_neg a, if_neg (show ¬ (o ≤ j ∧ j < o + (q.length + (0 + 1) + z.length)) by omega)]

theorem mul_round {p xs ys : List Nat} {i d : Nat} {r : List Nat × Nat} (hp : p.length = xs.length + i) (hi : i < ys.length) (hv : val p = val xs * val (ys.take i)) (hd : ys.getD i 0 = d)
 (hr : amVs (p.drop i) xs d 0 = r) : val (p.take i ++ r.1 ++ [r.2]) = val xs * val (ys.take (i + 1)) ∧ (p.take i ++ r.1 ++ [r.2]).length = xs.length + (i + 1) := by
 have hl : (p.drop i).length = xs.length := by simp; omega
 have e1 := amVs_val (p.drop i) xs d 0 hl
 have e2 := amVs_length (p.drop i) xs d 0 hl
 have e3 := val_append (p.take i) (p.drop i)
 rw [List.take_append_drop, List.length_take, Nat.min_eq_left (by omega)] at e3
 rw [hr, hl] at e1
 rw [hr, hl] at e2
 constructor
 · rw [val_take_succ hi, hd, val_append, val_append, List.length_append, List.length_take, Nat.min_eq_left (by omega), e2, wpow_add]
   simp only [val, Nat.mul_zero, Nat.add_zero]
   rw [e3] at hv
   generalize val (p.take i) = a at *
   generalize val (p.drop i) = b at *
   generalize val (ys.take i) = c at *
   generalize val r.1 = e at *
   generalize wpow xs.length = w1 at *
   generalize wpow i = w2 at *
   generalize val xs = x at *
   grind
 · simp [e2]; omega

theorem basicMul_any (gz oz cz nz gx ox cx m gy oy cy n : Nat) (Lz Lx Ly : List Nat) (w : World) (hm0 : 0 < m) (hn0 : 0 < n) (hm : m ≤ 100000) (hn : n ≤ 100000)
 (bz : Blk .u64 w gz Lz) (bx : Blk .u64 w gx Lx) (by_ : Blk .u64 w gy Ly) (hz : oz + cz ≤ Lz.length) (hcz : m + n ≤ cz) (hnz : m + n ≤ nz) (hx : ox + m ≤ Lx.length) (hy : oy + n ≤ Ly.length)
 (hbz : ∀ a ∈ Lz, a < 18446744073709551616) (hbx : ∀ a ∈ Lx, a < 18446744073709551616) (hby : ∀ a ∈ Ly, a < 18446744073709551616) (hax : gx ≠ gz) (hay : gy ≠ gz) :
 Calls Tryz.prog 190 #[.slice (some ⟨gz, oz, none⟩) nz cz, .slice (some ⟨gx, ox, none⟩) m cx, .slice (some ⟨gy, oy, none⟩) n cy] w
  fun e w' => e = .returned (.tuple #[]) ∧ ∃ p : List Nat, p.length = m + n ∧ (∀ a ∈ p, a < 18446744073709551616) ∧ val p = val (seg Lx ox m) * val (seg Ly oy n) ∧ Puts .u64 gz (spl Lz oz p) w w' := by
 have hs1 : IntKind.i64.wrap ((m : Int) + (n : Int)) = (m : Int) + (n : Int) := by rw [IntKind.wrap_i64]; omega
 have hs2 : ((m : Int) + (n : Int)).toNat = m + n := by omega
 have hs3 : (m : Int) + (n : Int) ≤ (cz : Int) := by omega
 have hs4 : (0 : Int) ≤ (m : Int) + (n : Int) := by omega
 have hzr : ∀ w, (zeroValue 123).run Tryz.prog w = .ok (.int .u64 0) w := fun w => by kernel_rfl
 have H_bz := hid bz; have H_bx := hid bx; have H_by_ := hid by_; have H_hz := hid hz; have H_hx := hid hx; have H_hy := hid hy; have H_hbz := hid hbz; have H_hbx := hid hbx; have H_hby := hid hby; have H_hzr := hid hzr; clear bz bx by_ hz hx hy hbz hbx hby hzr
 go_enter Tryz.func190, Tryz.ntmps190
 go_wp2_with (refine wpList_clear_puts (k := .u64) (o := ⟨none, _, _, _, _, _⟩) rfl (.tmp 14) 108 rfl 123 Tryz.underlying108 H_hzr.out _ _ _ _ (by rfl) Lz H_bz.out ?_ ?_ ?_)
 · omega
 · have := H_hz.out; omega
 clear hs1 hs2 hs3 hs4
 intro w1 hp0
 have hlx := sgL H_hx.out
 have hly := sgL H_hy.out
 have hbxs : ∀ a ∈ seg Lx ox m, a < 18446744073709551616 := fun a ha => H_hbx.out a (seg_mem ha)
 have hgy : ∀ j, j < n → (seg Ly oy n).getD j 0 = Ly.getD (oy + j) 0 := fun j hj => seg_getD hj
 generalize hxs : seg Lx ox m = xs at *
 generalize hys : seg Ly oy n = ys at *
 have bx1 := hp0.other hax H_bx.out
 have by1 := hp0.other hay H_by_.out
 have H_hp0 := hid hp0; have H_hlx := hid hlx; have H_hly := hid hly; have H_hbxs := hid hbxs; have H_hxs := hid hxs; have H_hys := hid hys; have H_bx1 := hid bx1; have H_by1 := hid by1; have H_hgy := hid hgy; clear hp0 hlx hly hbxs hxs hys bx1 by1 hgy
 go_wp2_with (fail)
 go_loopw [17] (fun i wr => ∃ k : Nat, k ≤ n ∧ i = .int .i64 k ∧ ∃ p : List Nat, Hid (p.length = m + k) ∧ Hid (∀ a ∈ p, a < 18446744073709551616) ∧ Hid (val p = val xs * val (ys.take k)) ∧ Hid (Puts .u64 gz (spl Lz oz (p ++ List.replicate (n - k) 0)) w wr)) (fun i _ => n - (intOf i).toNat)
 case atStart =>
  refine ⟨0, Nat.zero_le _, rfl, List.replicate m 0, ?_, ?_, ?_, ?_⟩
  · show _ = _; simp
  · show ∀ a ∈ _, _; exact rep_lt (by omega)
  · show _ = _; rw [val_rep]; simp [val]
  · show Puts _ _ _ _ _
    rw [List.replicate_append_replicate, show m + (n - 0) = m + n by omega]
    exact H_hp0.out
 case round =>
  obtain ⟨k, hk, rfl, p, hpl, hpb, hpv, hpp⟩ := hrel
  by_cases hlt : k < n
  · have lz := H_hz.out
    have hcy := (hpp.out.other hay H_by_.out).cell (o := oy + k) (by have := H_hy.out; omega)
    have hgk := H_hgy.out k hlt
    generalize hd : Ly.getD (oy + k) 0 = d at *
    have hdb : d < 18446744073709551616 := by rw [← hd]; exact getD_lt H_hby.out pos64 _
    have hrl : (p ++ List.replicate (n - k) 0).length = m + n := by have := hpl.out; simp; omega
    have htk : val (ys.take (k + 1)) = val (ys.take k) + wpow k * d := by rw [val_take_succ (by rw [H_hly.out]; exact hlt), hgk]
    have H_lz := hid lz; have H_hgk := hid hgk; have H_hd := hid hd; have H_hrl := hid hrl; have H_htk := hid htk; clear lz hgk hd hrl htk
    by_cases hd0 : d = 0
    · have t1 : ((d : Int) != 0) = false := by subst hd0; rfl
      have t2 : ((d : Int) == 0) = true := by subst hd0; rfl
      have H_hd0 := hid hd0; clear hd0
      go_wp2
      go_roundw
      case rel =>
       refine ⟨k + 1, by omega, by go_num, p ++ [0], ?_, ?_, ?_, ?_⟩
       · show _ = _; have := hpl.out; simp; omega
       · show ∀ a ∈ _, _
         intro a ha
         rw [List.mem_append, List.mem_singleton] at ha
         rcases ha with ha | rfl
         · exact hpb.out a ha
         · omega
       · show _ = _
         rw [H_htk.out, H_hd0.out, val_append, hpv.out]; simp [val]
       · show Puts _ _ _ _ _
         have := hpp.out
         rw [show n - k = (n - (k + 1)) + 1 by omega, List.replicate_succ] at this
         simpa using this
      case measure => simp [intOf]; omega
    · have t1 : ((d : Int) != 0) = true := by rw [bne_iff_ne]; omega
      have t2 : ((d : Int) == 0) = false := by rw [beq_eq_false_iff_ne]; omega
      have bxr := hpp.out.other hax H_bx.out
      have hw1 : IntKind.i64.wrap ((k : Int) + (m : Int)) = (k : Int) + (m : Int) := by rw [IntKind.wrap_i64]; omega
      have hw2 : IntKind.i64.wrap ((m : Int) + (k : Int)) = (m : Int) + (k : Int) := by rw [IntKind.wrap_i64]; omega
      have hw3 : ((k : Int) + (m : Int)).toNat = k + m := by omega
      have hw4 : ((m : Int) + (k : Int)).toNat = m + k := by omega
      have hw5 : (k : Int) ≤ (k : Int) + (m : Int) := by omega
      have hw6 : (k : Int) + (m : Int) ≤ (cz : Int) := by omega
      have hw7 : (0 : Int) ≤ (k : Int) := by omega
      have hw8 : (0 : Int) ≤ (m : Int) + (k : Int) := by omega
      have hw9 : (m : Int) + (k : Int) < (nz : Int) := by omega
      have H_hd0 := hid hd0; have H_bxr := hid bxr; clear hd0 bxr
      go_wp2_with (fail)
      have hl0 : (p.drop k).length = xs.length := by have h1 := hpl.out; have h2 := H_hlx.out; simp; omega
      have hround := mul_round (p := p) (xs := xs) (ys := ys) (i := k) (d := d) (r := amVs (p.drop k) xs d 0) (by have := hpl.out; have := H_hlx.out; omega) (by rw [H_hly.out]; exact hlt) hpv.out H_hgk.out rfl
      have hsl := amVs_length (p.drop k) xs d 0 hl0
      have hsb := amVs_lt (p.drop k) xs d 0
      have hcb := amVs_carry (p.drop k) xs d 0 (fun a ha => hpb.out a (List.mem_of_mem_drop ha)) H_hbxs.out hdb (by omega)
      generalize hrr : amVs (p.drop k) xs d 0 = res at *
      obtain ⟨s, c⟩ := res
      simp only at hround hsl hsb hcb
      have hsl2 : s.length = m := by have h2 := H_hlx.out; rw [hsl, hl0]; exact h2
      have hcall : ∀ W, Puts .u64 gz (spl Lz oz (p ++ List.replicate (n - k) 0)) w W → Blk .u64 W gx Lx →
       Calls Tryz.prog 221 #[.slice (some ⟨gz, oz + k, none⟩) m (cz - k), .slice (some ⟨gz, oz + k, none⟩) m (cz - k), .slice (some ⟨gx, ox, none⟩) m cx, .int .u64 (d : Int), .int .u64 0] W
        fun e w' => e = .returned (.int .u64 (c : Int)) ∧ Hid (Puts .u64 gz (spl Lz oz (p.take k ++ s ++ List.replicate (n - k) 0)) w w') := by
       intro W hW hWx
       have h1 := hpl.out; have h3 := H_lz.out; have h4 := H_hrl.out
       have hcur : ∀ a ∈ spl Lz oz (p ++ List.replicate (n - k) 0), a < 18446744073709551616 := by
        intro a ha
        rcases spl_mem ha with h | h
        · exact H_hbz.out a h
        · rw [List.mem_append] at h
          rcases h with h | h
          · exact hpb.out a h
          · exact rep_lt (by omega) a h
       have := addMulVVWW gz (oz + k) (cz - k) gz (oz + k) (cz - k) gx ox cx m d 0 _ _ Lx W (by omega) hW.blk hW.blk hWx (by rw [sgl (by omega)]; omega) (by rw [sgl (by omega)]; omega) H_hx.out hcur H_hbx.out hdb (by omega) (by omega) (by omega)
       rw [seg_spl_in (by omega) (by omega), seg_app h1, H_hxs.out, hrr, spl_in (by omega) (by rw [hsl2]; omega), List.take_append_of_le_length (by omega), List.drop_append, show p.drop (k + s.length) = [] from List.drop_eq_nil_of_le (by omega), show k + s.length - p.length = 0 by omega, List.drop_zero, List.nil_append] at this
       refine this.mono ?_
       rintro e w' ⟨rfl, hp⟩
       exact ⟨rfl, hW.trans hp⟩
      have hck : ¬ cz = k := by omega
      have hpl2 : (spl Lz oz (p.take k ++ s ++ List.replicate (n - k) 0)).length = Lz.length := by
       have h1 := hpl.out; have h3 := H_lz.out
       rw [sgl]
       simp [hsl2]; omega
      have H_hcall := hid hcall; have H_hpl2 := hid hpl2; have H_hround := hid hround; have H_hsb := hid hsb; have H_hcb := hid hcb; have H_hrr := hid hrr; have H_hsl := hid hsl; have H_hl0 := hid hl0; have H_hsl2 := hid hsl2; clear hcall hpl2 hround hsb hcb hrr hsl hl0 hsl2
      go_region_held3 (fun _ => True) (trivial) (first | (go_at_call 221; with_reducible refine (H_hcall.out _ ?c1 ?c2).mono ?_; (case c1 => exact hpp.out.drew); (case c2 => exact H_bxr.out.drew); rintro e w4 ⟨rfl, hp4⟩; have cc1 := hp4.out.blk.cell (o := oz + (m + k)) (by rw [H_hpl2.out]; have := H_lz.out; omega); have cc2 := hp4.out.blk.frozen (oz + (m + k)); generalize (spl Lz oz (p.take k ++ s ++ List.replicate (n - k) 0)).getD (oz + (m + k)) 0 = z9 at *))
      clear hw1 hw2 hw3 hw4 hw5 hw6 hw7 hw8 hw9 hck
      go_wp2
      go_roundw
      case rel =>
       have h1 := hpl.out; have h3 := H_lz.out; have h5 := H_hsl2.out
       refine ⟨k + 1, by omega, by go_num, p.take k ++ s ++ [c], ?_, ?_, ?_, ?_⟩
       · show _ = _; simp [h5]; omega
       · show ∀ a ∈ _, _
         intro a ha
         rw [List.mem_append, List.mem_append, List.mem_singleton] at ha
         rcases ha with (ha | ha) | rfl
         · exact hpb.out a (List.mem_of_mem_take ha)
         · exact H_hsb.out a ha
         · exact H_hcb.out
       · show _ = _; exact H_hround.out.1
       · show Puts _ _ _ _ _
         have := hp4.out.set (oz + (m + k)) c
         have e : (spl Lz oz (p.take k ++ s ++ List.replicate (n - k) 0)).set (oz + (m + k)) c = spl Lz oz (p.take k ++ s ++ [c] ++ List.replicate (n - (k + 1)) 0) := by
          rw [show n - k = (n - (k + 1)) + 1 by omega, List.replicate_succ]
          exact set_mid (by simp [h5]; omega) (by simp [h5]; omega)
         rw [e] at this
         exact this
      case measure => simp [intOf]; omega
  · have HE := hid (show k = n by omega)
    go_wp2
    go_end0
    refine ⟨rfl, p, ?_, hpb.out, ?_, ?_⟩
    · have := hpl.out; have := HE.out; omega
    · have := hpv.out
      rw [HE.out, List.take_of_length_le (by rw [H_hly.out]; exact Nat.le_refl _)] at this
      rw [H_hxs.out, H_hys.out]
      exact this
    · have := hpp.out
      rw [HE.out, Nat.sub_self] at this
      simpa using this

def NG : Nat := max (max 5 3) (max 4 2) + 1

structure Glob (w : World) : Prop where
 size : NG ≤ w.heap.size
 kar : w.cell? ⟨5, 0, none⟩ = some (.int .i64 40)
 bsq : w.cell? ⟨3, 0, none⟩ = some (.int .i64 12)
 ksq : w.cell? ⟨4, 0, none⟩ = some (.int .i64 80)
 drec : w.cell? ⟨2, 0, none⟩ = some (.int .i64 40)

theorem Glob.keep {S : Nat → Prop} {w w' : World} (h : Glob w) (hk : Keep S w w') (hs : ∀ k, k < NG → ¬ S k) : Glob w' := by
 have hn := h.size
 have e : ∀ g, g < NG → w'.cell? ⟨g, 0, none⟩ = w.cell? ⟨g, 0, none⟩ := fun g hg => hk.cell (p := ⟨g, 0, none⟩) (Nat.lt_of_lt_of_le hg hn) (hs g hg)
 exact ⟨Nat.le_trans hn hk.size, (e _ (by decide)).trans h.kar, (e _ (by decide)).trans h.bsq, (e _ (by decide)).trans h.ksq, (e _ (by decide)).trans h.drec⟩

theorem Glob.fresh {w w' : World} (h : Glob w) (hk : Fresh w w') : Glob w' := h.keep hk (fun _ _ h => h)

theorem Glob.drewN {w : World} (h : Glob w) (n : Nat) : Glob (w.drewN n) := h.fresh ((Keep.refl _ _).drewN n)

theorem NatOp.of_drewN {w : World} {n : Nat} {zv rv : Value} {l : List Nat} {w' : World} (h : NatOp (w.drewN n) zv rv l w') : NatOp w zv rv l w' := ⟨h.nat, h.keep.of_drewN, h.own⟩

theorem mul_big (zv xv yv : Value) (stk : Option Addr) (zl xl yl : List Nat) (w : World) (hG : Glob w) (hm : xl.length < 100000) (hn : 1 < yl.length) (hn40 : yl.length < 40) (hyx : yl.length ≤ xl.length)
 (h : NatAt w zv zl) (hx : NatAt w xv xl) (hy : NatAt w yv yl) (hsx : Sep zv xv) (hsy : Sep zv yv) :
 Calls Tryz.prog 171 #[zv, .pointer stk, xv, yv] w (NatRet w zv (val xl * val yl)) := by
 obtain ⟨gx, ox, cx, M, rfl, bx, hx1, hx2, hx3, hx4⟩ := hx.open_pos (by omega)
 obtain ⟨gy, oy, cy, K, rfl, by_, hy1, hy2, hy3, hy4⟩ := hy.open_pos (by omega)
 have hgx := bx.lt
 have hgy := by_.lt
 have hm0 : ((xl.length : Int) == 0) = false := by rw [beq_eq_false_iff_ne]; omega
 have hn0 : ((yl.length : Int) == 0) = false := by rw [beq_eq_false_iff_ne]; omega
 have hn1 : ((yl.length : Int) == 1) = false := by rw [beq_eq_false_iff_ne]; omega
 have hkar := hG.kar
 have cases : ∃ b1 b2 : Bool, ∃ z' : Value, Hid (∀ n, Calls Tryz.prog 144 #[zv, .slice (some ⟨gx, ox, none⟩) xl.length cx] (w.drewN n) (Quiet (w.drewN n) (.bool b1))) ∧
  (b1 = false → Hid (∀ n, Calls Tryz.prog 144 #[zv, .slice (some ⟨gy, oy, none⟩) yl.length cy] (w.drewN n) (Quiet (w.drewN n) (.bool b2)))) ∧
  z' = (if b1 || b2 then .slice none 0 0 else zv) ∧ Hid (∃ l, NatAt w z' l) ∧ (b1 = true → b2 = true) ∧
  Hid (∀ g off n, At (w.drewN n) z' g off → gx ≠ g ∧ gy ≠ g) := by
  have nilAt : ∀ g off n, At (w.drewN n) (.slice none 0 0) g off → gx ≠ g ∧ gy ≠ g := by
   intro g off n h
   rcases h with ⟨n0, c0, h⟩ | h
   · simp at h
   · have : (w.drewN n).heap.size = w.heap.size := rfl
     omega
  rcases hsx with hsx | hsx
  · refine ⟨true, true, _, ?_, fun h => by simp at h, by rfl, ⟨[], NatAt.nil w⟩, fun _ => rfl, nilAt⟩
    subst hsx
    exact fun n => alias_self gx ox xl.length cx xl (w.drewN n) (hx.drewN n) (by omega)
  · rcases hsy with hsy | hsy
    · refine ⟨false, true, _, fun n => alias_apart zv _ zl xl (w.drewN n) (h.drewN n) (hx.drewN n) hsx, fun _ => ?_, by rfl, ⟨[], NatAt.nil w⟩, fun h => by simp at h, nilAt⟩
      subst hsy
      exact fun n => alias_self gy oy yl.length cy yl (w.drewN n) (hy.drewN n) (by omega)
    · refine ⟨false, false, _, fun n => alias_apart zv _ zl xl (w.drewN n) (h.drewN n) (hx.drewN n) hsx, fun _ => fun n => alias_apart zv _ zl yl (w.drewN n) (h.drewN n) (hy.drewN n) hsy, by rfl, ⟨zl, h⟩, fun h => by simp at h, ?_⟩
      intro g off n hat
      rcases hat with ⟨n0, c0, hv⟩ | hg
      · have hv' : zv = .slice (some ⟨g, off, none⟩) n0 c0 := hv
        subst hv'
        exact ⟨fun e => hsx g rfl (by rw [← e]; rfl), fun e => hsy g rfl (by rw [← e]; rfl)⟩
      · have : (w.drewN n).heap.size = w.heap.size := rfl
        omega
 obtain ⟨b1, b2, z', ha1, ha2, hz', hzn, hb, hat⟩ := cases
 have fin : ∀ rv l w', NatOp w z' rv l w' → NatOp w zv rv l w' := by
  intro rv l w' ho
  rw [hz'] at ho
  by_cases e : (b1 || b2) = true
  · rw [if_pos e] at ho
    refine ⟨ho.nat, ho.keep.mono (fun k _ hk => by simp [Value.ownBlock] at hk), fun k hk => ?_⟩
    rcases ho.own k hk with h | h
    · simp [Value.ownBlock] at h
    · exact .inr h
  · rw [if_neg e] at ho; exact ho
 have hmk : ∀ n, Calls Tryz.prog 158 #[z', .int .i64 ((xl.length : Int) + (yl.length : Int))] (w.drewN n) (Made (w.drewN n) z' (xl.length + yl.length)) := by
  intro n
  obtain ⟨l, hl⟩ := hzn.out
  have := make_any z' l (xl.length + yl.length) (w.drewN n) (by omega) (by omega) (hl.drewN n)
  rwa [Int.natCast_add] at this
 have hx4' := hx4
 generalize hml : xl.length = m at *
 generalize hnl : yl.length = n at *
 have hlt : ¬ m < n := by omega
 have H_hG := hid hG; have H_h := hid h; have H_hx := hid hx; have H_hy := hid hy; have H_hsx := hid hsx; have H_hsy := hid hsy; have H_bx := hid bx; have H_by_ := hid by_; have H_hx2 := hid hx2; have H_hx3 := hid hx3; have H_hx4 := hid hx4; have H_hx4' := hid hx4'; have H_hy2 := hid hy2; have H_hy3 := hid hy3; have H_hy4 := hid hy4; have H_hzn := hid hzn; have H_fin := hid fin; have H_hmk := hid hmk; have H_hml := hid hml; have H_hnl := hid hnl; have H_hz' := hid hz'; clear hG h hx hy hsx hsy bx by_ hx2 hx3 hx4 hx4' hy2 hy3 hy4 hzn fin hmk hml hnl hz'
 cases b1
 · have ha3 := ha2 rfl
   clear ha2
   cases b2
   · have e : z' = zv := H_hz'.out
     subst e
     clear hb
     go_enter Tryz.func171, Tryz.ntmps171
     go_wp2_with (fail)
     refine (ha1.out 0).mono ?_
     rintro e w1 ⟨rfl, n1, rfl⟩
     go_wp2_with (fail)
     refine (ha3.out _).mono ?_
     rintro e w1 ⟨rfl, n2, hw⟩
     rw [World.drewN_drewN] at hw
     subst hw
     go_wp2_with (fail)
     refine (H_hmk.out _).mono ?_
     intro e w1 hm
     obtain ⟨g, off, cap, L, rfl, hbk, h1, h2, h3, h4, h5, hcap⟩ := hm.split
     clear hm
     have hd := hat.out g off _ h5.out
     have hG1 := (H_hG.out.drewN _).fresh h4.out
     have kar1 := hG1.kar
     have hmul := basicMul_any g off cap (m + n) gx ox cx m gy oy cy n L M K w1 (by omega) (by omega) (by omega) (by omega) hbk.out ((H_bx.out.drewN _).keep h4.out (fun h => h)) ((H_by_.out.drewN _).keep h4.out (fun h => h))
      h2.out h1 (by omega) (by have := H_hx2.out; omega) (by have := H_hy2.out; omega) h3.out H_hx4.out H_hy4.out hd.1 hd.2
     have H_hG1 := hid hG1; have H_hd := hid hd; have H_hmul := hid hmul; clear hG1 hd hmul
     go_wp2_with (fail)
     refine H_hmul.out.mono ?_
     rintro e w2 ⟨rfl, p, hpl, hpb, hpv, hpp⟩
     rw [show seg M ox m = xl from H_hx3.out.symm, show seg K oy n = yl from H_hy3.out.symm] at hpv
     have hna : NatAt w2 (.slice (some ⟨g, off, none⟩) (m + n) cap) p := by
      have := NatAt.spl hcap hpp.blk (cap := cap) (by omega) h2.out h3.out hpb
      rw [hpl] at this; exact this
     have hno := norm_any _ _ _ (by omega) hna
     have H_hpl := hid hpl; have H_hpb := hid hpb; have H_hpv := hid hpv; have H_hpp := hid hpp; have H_hna := hid hna; have H_hno := hid hno; clear hpl hpb hpv hpp hna hno
     go_wp2_with (fail)
     refine H_hno.out.mono ?_
     rintro e w7 ⟨rv, l, rfl, h6, hnorm, hval, hown, rfl⟩
     have H_h6 := hid h6; have H_hnorm := hid hnorm; have H_hval := hid hval; have H_hown := hid hown; clear h6 hnorm hval hown
     go_wp2
     go_ret
     exact ⟨rv, l, rfl, H_fin.out _ _ _ (NatOp.of_drewN (NatOp.of h5.out h4.out H_hpp.out.keep H_h6.out (fun k hk => by have := H_hown.out k hk; simpa [Value.ownBlock] using this.symm))), H_hnorm.out, by rw [H_hval.out, H_hpv.out]⟩
   · have e : z' = .slice none 0 0 := H_hz'.out
     subst e
     clear hb
     go_enter Tryz.func171, Tryz.ntmps171
     go_wp2_with (fail)
     refine (ha1.out 0).mono ?_
     rintro e w1 ⟨rfl, n1, rfl⟩
     go_wp2_with (fail)
     refine (ha3.out _).mono ?_
     rintro e w1 ⟨rfl, n2, hw⟩
     rw [World.drewN_drewN] at hw
     subst hw
     go_wp2_with (fail)
     refine (H_hmk.out _).mono ?_
     intro e w1 hm
     obtain ⟨g, off, cap, L, rfl, hbk, h1, h2, h3, h4, h5, hcap⟩ := hm.split
     clear hm
     have hd := hat.out g off _ h5.out
     have hG1 := (H_hG.out.drewN _).fresh h4.out
     have kar1 := hG1.kar
     have hmul := basicMul_any g off cap (m + n) gx ox cx m gy oy cy n L M K w1 (by omega) (by omega) (by omega) (by omega) hbk.out ((H_bx.out.drewN _).keep h4.out (fun h => h)) ((H_by_.out.drewN _).keep h4.out (fun h => h))
      h2.out h1 (by omega) (by have := H_hx2.out; omega) (by have := H_hy2.out; omega) h3.out H_hx4.out H_hy4.out hd.1 hd.2
     have H_hG1 := hid hG1; have H_hd := hid hd; have H_hmul := hid hmul; clear hG1 hd hmul
     go_wp2_with (fail)
     refine H_hmul.out.mono ?_
     rintro e w2 ⟨rfl, p, hpl, hpb, hpv, hpp⟩
     rw [show seg M ox m = xl from H_hx3.out.symm, show seg K oy n = yl from H_hy3.out.symm] at hpv
     have hna : NatAt w2 (.slice (some ⟨g, off, none⟩) (m + n) cap) p := by
      have := NatAt.spl hcap hpp.blk (cap := cap) (by omega) h2.out h3.out hpb
      rw [hpl] at this; exact this
     have hno := norm_any _ _ _ (by omega) hna
     have H_hpl := hid hpl; have H_hpb := hid hpb; have H_hpv := hid hpv; have H_hpp := hid hpp; have H_hna := hid hna; have H_hno := hid hno; clear hpl hpb hpv hpp hna hno
     go_wp2_with (fail)
     refine H_hno.out.mono ?_
     rintro e w7 ⟨rv, l, rfl, h6, hnorm, hval, hown, rfl⟩
     have H_h6 := hid h6; have H_hnorm := hid hnorm; have H_hval := hid hval; have H_hown := hid hown; clear h6 hnorm hval hown
     go_wp2
     go_ret
     exact ⟨rv, l, rfl, H_fin.out _ _ _ (NatOp.of_drewN (NatOp.of h5.out h4.out H_hpp.out.keep H_h6.out (fun k hk => by have := H_hown.out k hk; simpa [Value.ownBlock] using this.symm))), H_hnorm.out, by rw [H_hval.out, H_hpv.out]⟩
 · have e : z' = .slice none 0 0 := by have := H_hz'.out; simpa using this
   subst e
   have e2 : b2 = true := hb rfl
   subst e2
   clear hb
   · go_enter Tryz.func171, Tryz.ntmps171
     go_wp2_with (fail)
     refine (ha1.out 0).mono ?_
     rintro e w1 ⟨rfl, n1, rfl⟩
     go_wp2_with (fail)
     refine (H_hmk.out _).mono ?_
     intro e w1 hm
     obtain ⟨g, off, cap, L, rfl, hbk, h1, h2, h3, h4, h5, hcap⟩ := hm.split
     clear hm
     have hd := hat.out g off _ h5.out
     have hG1 := (H_hG.out.drewN _).fresh h4.out
     have kar1 := hG1.kar
     have hmul := basicMul_any g off cap (m + n) gx ox cx m gy oy cy n L M K w1 (by omega) (by omega) (by omega) (by omega) hbk.out ((H_bx.out.drewN _).keep h4.out (fun h => h)) ((H_by_.out.drewN _).keep h4.out (fun h => h))
      h2.out h1 (by omega) (by have := H_hx2.out; omega) (by have := H_hy2.out; omega) h3.out H_hx4.out H_hy4.out hd.1 hd.2
     have H_hG1 := hid hG1; have H_hd := hid hd; have H_hmul := hid hmul; clear hG1 hd hmul
     go_wp2_with (fail)
     refine H_hmul.out.mono ?_
     rintro e w2 ⟨rfl, p, hpl, hpb, hpv, hpp⟩
     rw [show seg M ox m = xl from H_hx3.out.symm, show seg K oy n = yl from H_hy3.out.symm] at hpv
     have hna : NatAt w2 (.slice (some ⟨g, off, none⟩) (m + n) cap) p := by
      have := NatAt.spl hcap hpp.blk (cap := cap) (by omega) h2.out h3.out hpb
      rw [hpl] at this; exact this
     have hno := norm_any _ _ _ (by omega) hna
     have H_hpl := hid hpl; have H_hpb := hid hpb; have H_hpv := hid hpv; have H_hpp := hid hpp; have H_hna := hid hna; have H_hno := hid hno; clear hpl hpb hpv hpp hna hno
     go_wp2_with (fail)
     refine H_hno.out.mono ?_
     rintro e w7 ⟨rv, l, rfl, h6, hnorm, hval, hown, rfl⟩
     have H_h6 := hid h6; have H_hnorm := hid hnorm; have H_hval := hid hval; have H_hown := hid hown; clear h6 hnorm hval hown
     go_wp2
     go_ret
     exact ⟨rv, l, rfl, H_fin.out _ _ _ (NatOp.of_drewN (NatOp.of h5.out h4.out H_hpp.out.keep H_h6.out (fun k hk => by have := H_hown.out k hk; simpa [Value.ownBlock] using this.symm))), H_hnorm.out, by rw [H_hval.out, H_hpv.out]⟩

theorem mul_ge (zv xv yv : Value) (stk : Option Addr) (zl xl yl : List Nat) (w : World) (hG : Glob w) (hm : xl.length < 100000) (hn40 : yl.length < 40) (hyx : yl.length ≤ xl.length)
 (h : NatAt w zv zl) (hx : NatAt w xv xl) (hy : NatAt w yv yl) (hsx : Sep zv xv) (hsy : Sep zv yv) :
 Calls Tryz.prog 171 #[zv, .pointer stk, xv, yv] w (NatRet w zv (val xl * val yl)) := by
 by_cases hn0 : yl.length = 0
 · obtain ⟨a, c, hv⟩ := h.form
   obtain ⟨ax, cx, hxv⟩ := hx.form
   obtain ⟨ay, cy, hyv⟩ := hy.form
   have hyl : yl = [] := List.eq_nil_of_length_eq_zero hn0
   have hr := NatRet.empty h hv
   rw [hyl, show val xl * val [] = 0 from Nat.mul_zero _]
   rw [hn0] at hyv
   have hb : ((xl.length : Int) == 0) = true ∨ ((xl.length : Int) == 0) = false := by cases ((xl.length : Int) == 0) <;> simp
   generalize hml : xl.length = m at *
   generalize zl.length = z at *
   subst hxv hyv hv
   have H_hG := hid hG; have H_h := hid h; have H_hx := hid hx; have H_hy := hid hy; have H_hsx := hid hsx; have H_hsy := hid hsy; have H_hr := hid hr; have H_hyl := hid hyl; have H_hml := hid hml; clear hG h hx hy hsx hsy hr hyl hml
   clear hn0 hyx hn40
   rcases hb with hb | hb
   all_goals
    go_enter Tryz.func171, Tryz.ntmps171
    go_wp2
    go_ret
    exact H_hr.out
 · by_cases hn1 : yl.length = 1
   · obtain ⟨gy, oy, cy, K, rfl, by_, hy1, hy2, hy3, hy4⟩ := hy.open_pos (by omega)
     obtain ⟨ax, cx, hxv⟩ := hx.form
     have hc := by_.cell (o := oy) (by omega)
     have hd := getD_lt hy4 pos64 oy
     have hyv : val yl = K.getD oy 0 := by
      rw [hy3, hn1, seg_head (by omega), seg_zero]; simp [val]
     have hmw := mulAddWW_any zv xv zl xl (K.getD oy 0) 0 w (by omega) hd (by omega) h hx hsx
     rw [hyv]
     rw [Nat.add_zero] at hmw
     generalize K.getD oy 0 = d at *
     have hm0 : ((xl.length : Int) == 0) = false := by rw [beq_eq_false_iff_ne]; omega
     rw [hn1]
     generalize hml : xl.length = m at *
     have hm1 : 1 ≤ m := by omega
     have hlt1 : ¬ m < 1 := by omega
     subst hxv
     have H_hG := hid hG; have H_h := hid h; have H_hx := hid hx; have H_hy := hid hy; have H_hsx := hid hsx; have H_hsy := hid hsy; have H_by_ := hid by_; have H_hy2 := hid hy2; have H_hy3 := hid hy3; have H_hy4 := hid hy4; have H_hml := hid hml; have H_hn1 := hid hn1; have H_hmw := hid hmw; have H_hyv := hid hyv; clear hG h hx hy hsx hsy by_ hy2 hy3 hy4 hml hn1 hmw hyv
     clear hn0 hyx hn40 hy1
     go_enter Tryz.func171, Tryz.ntmps171
     go_wp2_with (go_quiet (fail))
     refine H_hmw.out.mono ?_
     intro e w1 h1
     obtain ⟨rv, rfl, h1⟩ := h1.own
     have H_h1 := hid h1; clear h1
     go_wp2
     go_ret
     exact H_h1.out
   · exact mul_big zv xv yv stk zl xl yl w hG hm (by omega) hn40 hyx h hx hy hsx hsy

theorem nat_mul (zv xv yv : Value) (stk : Option Addr) (zl xl yl : List Nat) (w : World) (hG : Glob w) (hm : xl.length < 40) (hn : yl.length < 40)
 (h : NatAt w zv zl) (hx : NatAt w xv xl) (hy : NatAt w yv yl) (hsx : Sep zv xv) (hsy : Sep zv yv) :
 Calls Tryz.prog 171 #[zv, .pointer stk, xv, yv] w (NatRet w zv (val xl * val yl)) := by
 by_cases hlt : xl.length < yl.length
 · have hr := mul_ge zv yv xv stk zl yl xl w hG (by omega) hm (by omega) h hy hx hsy hsx
   rw [Nat.mul_comm] at hr
   obtain ⟨ax, cx, hxv⟩ := hx.form
   obtain ⟨ay, cy, hyv⟩ := hy.form
   generalize xl.length = m at *
   generalize yl.length = n at *
   subst hxv hyv
   have H_hG := hid hG; have H_h := hid h; have H_hx := hid hx; have H_hy := hid hy; have H_hsx := hid hsx; have H_hsy := hid hsy; have H_hr := hid hr; clear hG h hx hy hsx hsy hr
   go_enter Tryz.func171, Tryz.ntmps171
   go_wp2_with (fail)
   refine H_hr.out.mono ?_
   intro e w1 h1
   obtain ⟨rv, rfl, h1⟩ := h1.own
   have H_h1 := hid h1; clear h1
   go_wp2
   go_ret
   exact H_h1.out
 · exact mul_ge zv xv yv stk zl xl yl w hG (by omega) hn (by omega) h hx hy hsx hsy

end Go.Proofs.YtllencgncinphaaGreatDoor
