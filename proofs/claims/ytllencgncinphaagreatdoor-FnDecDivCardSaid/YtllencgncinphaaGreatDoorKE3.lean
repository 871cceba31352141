/- The contracts of math/big's functions on vectors of words and one word: addVW, subVW. -/
import Derived.Test.YtllencgncinphaaGreatDoorKE1
import Derived.Test.YtllencgncinphaaGreatDoorKE2
namespace Go.Proofs.YtllencgncinphaaGreatDoor
open Go.RowKit
open Go.Lib (hid)
set_option maxRecDepth 100000
set_option maxHeartbeats 1000000

def addWs : List Nat → Nat → List Nat × Nat
 | x :: xs, c => let r := addWs xs (addC x c 0); (addS x c 0 :: r.1, r.2)
 | [], c => ([], c)

theorem addWs_append (ys : List Nat) : ∀ (xs : List Nat) (c : Nat), addWs (xs ++ ys) c = ((addWs xs c).1 ++ (addWs ys (addWs xs c).2).1, (addWs ys (addWs xs c).2).2)
 | [], c => rfl
 | a :: xs, c => by
   have ih := addWs_append ys xs (addC a c 0)
   simp only [List.cons_append, addWs, ih]

theorem addWs_length : ∀ (xs : List Nat) (c : Nat), (addWs xs c).1.length = xs.length
 | [], c => rfl
 | a :: xs, c => by simp only [addWs, List.length_cons]; rw [addWs_length xs]

theorem addWs_zero : ∀ (xs : List Nat), (∀ a ∈ xs, a < 18446744073709551616) → addWs xs 0 = (xs, 0)
 | [], _ => rfl
 | a :: xs, h => by
   have h1 := h a (by simp)
   simp only [addWs]
   rw [show addC a 0 0 = 0 by unfold addC; omega, show addS a 0 0 = a by unfold addS; omega, addWs_zero xs (fun b hb => h b (by simp [hb]))]

theorem addWs_lt : ∀ (xs : List Nat) (c : Nat), ∀ a ∈ (addWs xs c).1, a < 18446744073709551616
 | [], c => by simp [addWs]
 | a :: xs, c => by
   intro z hz
   simp only [addWs, List.mem_cons] at hz
   rcases hz with rfl | hz
   · exact addS_lt _ _ _
   · exact addWs_lt xs _ z hz

def subWs : List Nat → Nat → List Nat × Nat
 | x :: xs, c => let r := subWs xs (subC x c 0); (subS x c 0 :: r.1, r.2)
 | [], c => ([], c)

theorem subWs_append (ys : List Nat) : ∀ (xs : List Nat) (c : Nat), subWs (xs ++ ys) c = ((subWs xs c).1 ++ (subWs ys (subWs xs c).2).1, (subWs ys (subWs xs c).2).2)
 | [], c => rfl
 | a :: xs, c => by
   have ih := subWs_append ys xs (subC a c 0)
   simp only [List.cons_append, subWs, ih]

theorem subWs_length : ∀ (xs : List Nat) (c : Nat), (subWs xs c).1.length = xs.length
 | [], c => rfl
 | a :: xs, c => by simp only [subWs, List.length_cons]; rw [subWs_length xs]

theorem subWs_zero : ∀ (xs : List Nat), (∀ a ∈ xs, a < 18446744073709551616) → subWs xs 0 = (xs, 0)
 | [], _ => rfl
 | a :: xs, h => by
   have h1 := h a (by simp)
   simp only [subWs]
   rw [show subC a 0 0 = 0 by unfold subC; rw [if_neg (by omega)], show subS a 0 0 = a by unfold subS; omega, subWs_zero xs (fun b hb => h b (by simp [hb]))]

theorem subWs_lt : ∀ (xs : List Nat) (c : Nat), ∀ a ∈ (subWs xs c).1, a < 18446744073709551616
 | [], c => by simp [subWs]
 | a :: xs, c => by
   intro z hz
   simp only [subWs, List.mem_cons] at hz
   rcases hz with rfl | hz
   · exact subS_lt _ _ _
   · exact subWs_lt xs _ z hz

theorem seg_split {L : List Nat} {off n m : Nat} (h : m ≤ n) (_hn : off + n ≤ L.length) : seg L off n = seg L off m ++ seg L (off + m) (n - m) := by
 simp only [seg]
 rw [show List.drop (off + m) L = (L.drop off).drop m by rw [List.drop_drop]]
 conv => lhs; rw [show n = m + (n - m) by omega, List.take_add]

theorem spl_spl {L : List Nat} {off : Nat} {l m : List Nat} {o : Nat} (ho : o = off + l.length) (h : o + m.length ≤ L.length) : spl (spl L off l) o m = spl L off (l ++ m) := by
 subst ho
 apply ext_getD
 · rw [sgl (by rw [sgl (by omega)]; omega), sgl (by omega), sgl (by simp; omega)]
 · intro i _
   rw [sgD (by rw [sgl (by omega)]; omega), sgD (by omega), sgD (by simp; omega), getD_append]
   simp only [List.length_append]
   by_cases a : off + l.length ≤ i ∧ i < off + l.length + m.length
   · rw [if_pos a, if_pos (by omega), if_neg (by omega), show i - (off + l.length) = i - off - l.length by omega]
   · rw [if_neg a]
     by_cases b : off ≤ i ∧ i < off + l.length
     · rw [if_pos b, if_pos (by omega), if_pos (by omega)]
     · rw [if_neg b, if_neg (by omega)]

theorem addWs_stop {L : List Nat} {off n k y : Nat} (hL : ∀ a ∈ L, a < 18446744073709551616) (hk : k ≤ n) (hn : off + n ≤ L.length) (h : (addWs (seg L off k) y).2 = 0) :
 addWs (seg L off n) y = ((addWs (seg L off k) y).1 ++ seg L (off + k) (n - k), 0) := by
 rw [seg_split hk hn, addWs_append, h, addWs_zero _ (fun a ha => hL a (seg_mem ha))]

theorem subWs_stop {L : List Nat} {off n k y : Nat} (hL : ∀ a ∈ L, a < 18446744073709551616) (hk : k ≤ n) (hn : off + n ≤ L.length) (h : (subWs (seg L off k) y).2 = 0) :
 subWs (seg L off n) y = ((subWs (seg L off k) y).1 ++ seg L (off + k) (n - k), 0) := by
 rw [seg_split hk hn, subWs_append, h, subWs_zero _ (fun a ha => hL a (seg_mem ha))]

theorem addWs_succ {L : List Nat} {off k y : Nat} (h : off + k < L.length) : addWs (seg L off (k + 1)) y = ((addWs (seg L off k) y).1 ++ [addS (L.getD (off + k) 0) (addWs (seg L off k) y).2 0], addC (L.getD (off + k) 0) (addWs (seg L off k) y).2 0) := by
 rw [seg_succ h, addWs_append]; rfl

theorem subWs_succ {L : List Nat} {off k y : Nat} (h : off + k < L.length) : subWs (seg L off (k + 1)) y = ((subWs (seg L off k) y).1 ++ [subS (L.getD (off + k) 0) (subWs (seg L off k) y).2 0], subC (L.getD (off + k) 0) (subWs (seg L off k) y).2 0) := by
 rw [seg_succ h, subWs_append]; rfl

theorem addC_le' {x y : Nat} (hx : x < 18446744073709551616) (hy : y < 18446744073709551616) : addC x y 0 ≤ 1 := by unfold addC; omega

theorem add1_max : addS 18446744073709551615 1 0 = 0 ∧ addC 18446744073709551615 1 0 = 1 := by unfold addS addC; omega
theorem add1_not {x : Nat} (hx : x < 18446744073709551616) (h : x ≠ 18446744073709551615) : addS x 1 0 = x + 1 ∧ addC x 1 0 = 0 := by unfold addS addC; omega
theorem sub1_zero : subS 0 1 0 = 18446744073709551615 ∧ subC 0 1 0 = 1 := by unfold subS subC; exact ⟨by omega, by rw [if_pos (by omega)]⟩
theorem sub1_not {x : Nat} (hx : x < 18446744073709551616) (h : x ≠ 0) : subS x 1 0 = x - 1 ∧ subC x 1 0 = 0 := by
 unfold subS subC; exact ⟨by omega, by rw [if_neg (by omega)]⟩

theorem spl_more {L : List Nat} {off n : Nat} {l : List Nat} {o : Nat} (h : off + l.length + n ≤ L.length) (ho : o = off + l.length) : spl L off (l ++ seg L o n) = spl L off l := by
 subst ho
 have hl : (seg L (off + l.length) n).length = n := sgL h
 apply ext_getD
 · rw [sgl (by simp [hl]; omega), sgl (by omega)]
 · intro i _
   rw [sgD (by simp [hl]; omega), sgD (by omega), getD_append]
   simp only [List.length_append, hl]
   by_cases b : off ≤ i ∧ i < off + l.length
   · rw [if_pos (by omega), if_pos (by omega), if_pos b]
   · rw [if_neg b]
     by_cases a : off ≤ i ∧ i < off + (l.length + n)
     · rw [if_pos a, if_neg (by omega), seg_getD (by omega)]; congr 1; omega
     · rw [if_neg a]

theorem addVW_apart (gz oz cz gx ox cx n y : Nat) (Lz Lx : List Nat) (w : World) (hn : 0 < n) (hlen : n ≤ 1000000)
 (bz : Blk .u64 w gz Lz) (bx : Blk .u64 w gx Lx) (hz : oz + n ≤ Lz.length) (hx : ox + n ≤ Lx.length)
 (hbx : ∀ a ∈ Lx, a < 18446744073709551616) (hy : y < 18446744073709551616) (hax : gx ≠ gz) (hcz : n ≤ cz) (hcx : n ≤ cx) :
 Calls Tryz.prog 160 #[.slice (some ⟨gz, oz, none⟩) n cz, .slice (some ⟨gx, ox, none⟩) n cx, .int .u64 y] w
  fun e w' => e = .returned (.int .u64 ((addWs (seg Lx ox n) y).2 : Nat)) ∧ Puts .u64 gz (spl Lz oz (addWs (seg Lx ox n) y).1) w w' := by
 have hz1 := bz.cell (o := oz) (by omega)
 have hz2 := bz.frozen oz
 have hx1 := bx.cell (o := ox) (by omega)
 have hgz : gz ≠ gx := Ne.symm hax
 have h1s := addWs_succ (L := Lx) (off := ox) (k := 0) (y := y) (by omega)
 have hx0b := getD_lt hbx pos64 ox
 simp only [seg_zero, addWs, List.nil_append, Nat.add_zero, Nat.zero_add] at h1s
 have hset : ∀ v, Lz.set oz v = spl Lz oz [v] := fun v => by
  have := spl_set (L := Lz) (off := oz) (l := []) (o := oz) (n := v) (by simp) (by omega)
  rw [spl_nil] at this; exact this
 generalize hg : Lx.getD ox 0 = x0 at *
 generalize Lz.getD oz 0 = z0 at *
 have pW := (Puts.refl bz).set oz (addS x0 y 0)
 rw [hset] at pW
 clear hset
 have bxW : Blk .u64 (w.setCell ⟨gz, oz, none⟩ (wd .u64 (addS x0 y 0))) gx Lx := bx.of_block (by rw [Go.RowKit.Below.heap_setCell _ _ _ _ hax])
 have H_bz := hid bz; have H_bx := hid bx; have H_hz := hid hz; have H_hx := hid hx; have H_hbx := hid hbx; have H_h1s := hid h1s; have H_hg := hid hg; have H_pW := hid pW; have H_bxW := hid bxW; have H_hx0b := hid hx0b; clear bz bx hz hx hbx h1s hg pW bxW hx0b
 go_enter Tryz.func160, Tryz.ntmps160
 by_cases hc : addC x0 y 0 = 0
 · have hcb : ((addC x0 y 0 : Nat) : Int) == 0 := by rw [hc]; rfl
   have H_hc := hid hc; clear hc
   go_wp2_with (go_at_call 176; refine (bits_Add _ y 0 (by omega) _).mono ?_; rintro e w' ⟨rfl, rfl⟩)
   generalize w.setCell ⟨gz, oz, none⟩ (.int .u64 ((addS x0 y 0 : Nat) : Int)) = W at *
   have hne : ∀ nq, (binOp .neq 143 (.pointer (some ⟨gz, oz, none⟩)) (.pointer (some ⟨gx, ox, none⟩))).run Tryz.prog (W.drewN nq) = .ok (.bool true) (W.drewN nq) :=
    fun nq => Blk.neq (H_pW.out.blk.drewN nq) (H_bxW.out.drewN nq) hgz Tryz.underlying143 (by kernel_rfl)
   go_quiet (fail)
   clear hne
   go_wp2_with (fail)
   have h1n : (1 : Int) ≤ (n : Int) := by omega
   go_still_tail 4, (by kernel_rfl)
   clear h1n
   have hzl := H_hz.out
   have hxl := H_hx.out
   refine wpList_copy_puts rfl (.tmp 40) (.tmp 42) 107 107 rfl 123 Tryz.underlying107 (by kernel_rfl) _ _ _ _ _ _ (by rfl) (by rfl) gz (oz + 1) _ (H_pW.out.blk.drewN nq).drew gx (ox + 1) _ (H_bxW.out.drewN nq).drew (n - 1) ?_ ?_ ?_ ?_ ?_
   · simp
   · intro hp
     rw [if_neg (by omega), if_neg (by omega)]; simp
   · rw [sgl (by simp; omega)]; omega
   · omega
   · intro w' hput
     have hput := (H_pW.out.trans hput.of_drew.of_drewN)
     rw [spl_spl (by simp) (by rw [sgL (by omega)]; omega)] at hput
     clear hzl hxl
     have H_hput := hid hput; clear hput
     have hst := addWs_stop (L := Lx) (off := ox) (n := n) (k := 1) (y := y) H_hbx.out (by omega) H_hx.out (by rw [H_h1s.out]; exact H_hc.out)
     rw [H_h1s.out] at hst
     have H_hst := hid hst; clear hst
     go_wp2
     all_goals (go_ret; rw [H_hst.out]; exact ⟨rfl, H_hput.out⟩)
 · have hcb : (((addC x0 y 0 : Nat) : Int) == 0) = false := by rw [beq_eq_false_iff_ne]; omega
   have hc1 : addC x0 y 0 = 1 := by
    have : addC x0 y 0 ≤ 1 := addC_le' H_hx0b.out hy
    omega
   have H_hc := hid hc; have H_hc1 := hid hc1; clear hc hc1
   go_wp2_with (go_at_call 176; refine (bits_Add _ y 0 (by omega) _).mono ?_; rintro e w' ⟨rfl, rfl⟩)
   generalize w.setCell ⟨gz, oz, none⟩ (.int .u64 ((addS x0 y 0 : Nat) : Int)) = W at *
   generalize ((addC x0 y 0 : Nat) : Int) = CC at *
   generalize ((addS x0 y 0 : Nat) : Int) = SS at *
   go_loopw [9] (fun i wr => ∃ k : Nat, 1 ≤ k ∧ k ≤ n ∧ i = .int .i64 k ∧ Hid ((addWs (seg Lx ox k) y).2 = 1) ∧ Puts .u64 gz (spl Lz oz (addWs (seg Lx ox k) y).1) w wr) (fun i _ => n - (intOf i).toNat)
   case atStart => exact ⟨1, Nat.le_refl _, hn, rfl, by rw [H_h1s.out]; exact H_hc1.out, by rw [H_h1s.out]; exact H_pW.out⟩
   case round =>
    obtain ⟨k, hk1, hk, rfl, hcar, hp⟩ := hrel
    by_cases hlt : k < n
    · have hl : (addWs (seg Lx ox k) y).1.length = k := by
       have := H_hx.out
       rw [addWs_length, sgL (by omega)]
      have hsu := addWs_succ (L := Lx) (off := ox) (k := k) (y := y) (by have := H_hx.out; omega)
      rw [hcar.out] at hsu
      have hxb := getD_lt H_hbx.out pos64 (ox + k)
      have H_hl := hid hl; have H_hsu := hid hsu; have H_hp := hid hp; clear hl hsu hp
      have hcx' : wr.cell? ⟨gx, ox + k, none⟩ = some (wd .u64 (Lx.getD (ox + k) 0)) := (H_hp.out.other hax H_bx.out).cell (by have := H_hx.out; omega)
      have bxr := hid (H_hp.out.other hax H_bx.out)
      have hz1' := H_hp.out.blk.cell (o := oz + k) (by have := H_hz.out; have := H_hl.out; rw [sgl (by omega)]; omega)
      have hz2' := H_hp.out.blk.frozen (oz + k)
      generalize (spl Lz oz (addWs (seg Lx ox k) y).1).getD (oz + k) 0 = zk at *
      generalize hxk : Lx.getD (ox + k) 0 = x at *
      have H_hxk := hid hxk; clear hxk
      by_cases hm : x = 18446744073709551615
      · have ht1 : ((x : Int) != 18446744073709551615) = false := by subst hm; rfl
        have ht2 : ((x : Int) == 18446744073709551615) = true := by subst hm; rfl
        have H_hm := hid hm; clear hm
        go_wp2
        go_roundw
        case rel =>
         have hs2 := H_hsu.out
         rw [H_hm.out, add1_max.1, add1_max.2] at hs2
         refine ⟨k + 1, by omega, by omega, by go_num, by rw [hs2]; exact rfl, ?_⟩
         rw [hs2]
         have := (H_hp.out).set (oz + k) 0
         rw [spl_set (by rw [H_hl.out]) (by have := H_hz.out; omega)] at this
         exact this
        case measure => simp [intOf]; omega
      · have ht1 : ((x : Int) != 18446744073709551615) = true := by rw [bne_iff_ne]; omega
        have ht2 : ((x : Int) == 18446744073709551615) = false := by rw [beq_eq_false_iff_ne]; omega
        have hwr : IntKind.u64.wrap ((x : Int) + 1) = ((x + 1 : Nat) : Int) := by rw [IntKind.wrap_u64]; omega
        have H_hm := hid hm; clear hm
        go_wp2_with (fail)
        have pV : Puts .u64 gz _ w (wr.setCell ⟨gz, oz + k, none⟩ (.int .u64 ((x : Int) + 1))) := (H_hp.out).set (oz + k) (x + 1)
        rw [spl_set (by rw [H_hl.out]) (by have := H_hz.out; omega)] at pV
        have H_pV := hid pV; clear pV
        have bxV : Blk .u64 (wr.setCell ⟨gz, oz + k, none⟩ (.int .u64 ((x : Int) + 1))) gx Lx := bxr.out.of_block (by rw [Go.RowKit.Below.heap_setCell _ _ _ _ hax])
        have H_bxV := hid bxV; clear bxV
        generalize wr.setCell ⟨gz, oz + k, none⟩ (.int .u64 ((x : Int) + 1)) = V at *
        have hne : ∀ nq, (binOp .neq 143 (.pointer (some ⟨gz, oz, none⟩)) (.pointer (some ⟨gx, ox, none⟩))).run Tryz.prog (V.drewN nq) = .ok (.bool true) (V.drewN nq) :=
         fun nq => Blk.neq (H_pV.out.blk.drewN nq) (H_bxV.out.drewN nq) hgz Tryz.underlying143 (by kernel_rfl)
        go_quiet (fail)
        clear hne
        have h1k : (0 : Int) ≤ (k : Int) + 1 := by omega
        have h1n : (k : Int) + 1 ≤ (n : Int) := by omega
        have hkw : IntKind.i64.wrap ((k : Int) + 1) = (k : Int) + 1 := by rw [IntKind.wrap_i64]; omega
        have hkt : ((k : Int) + 1).toNat = k + 1 := by omega
        go_wp2_with (fail)
        go_still_tail 8, (by kernel_rfl)
        clear h1n h1k hkw hkt
        have hzl := H_hz.out
        have hxl := H_hx.out
        refine wpList_copy_puts rfl (.tmp 69) (.tmp 73) 107 107 rfl 123 Tryz.underlying107 (by kernel_rfl) _ _ _ _ _ _ (by rfl) (by rfl) gz (oz + (k + 1)) _ (H_pV.out.blk.drewN nq).drew gx (ox + (k + 1)) _ (H_bxV.out.drewN nq).drew (n - (k + 1)) ?_ ?_ ?_ ?_ ?_
        · simp
        · intro hp
          rw [if_neg (by omega), if_neg (by omega)]; simp
        · rw [sgl (by simp; rw [H_hl.out]; omega)]; omega
        · omega
        · intro w' hput
          have hput := (H_pV.out.trans hput.of_drew.of_drewN)
          rw [spl_spl (by simp; rw [H_hl.out]) (by rw [sgL (by omega)]; omega)] at hput
          clear hzl hxl
          have H_hput := hid hput; clear hput
          have hs2 := H_hsu.out
          rw [(add1_not hxb H_hm.out).1, (add1_not hxb H_hm.out).2] at hs2
          have hst := addWs_stop (L := Lx) (off := ox) (n := n) (k := k + 1) (y := y) H_hbx.out (by omega) H_hx.out (by rw [hs2])
          rw [hs2] at hst
          have H_hst := hid hst; clear hst
          go_wp2
          all_goals (go_ret; rw [H_hst.out]; exact ⟨rfl, H_hput.out⟩)
    · have HE := hid (show k = n by omega)
      have H_hp := hid hp; clear hp
      go_wp2
      go_ret
      have ep := H_hp.out
      have ec := hcar.out
      rw [HE.out] at ep ec
      rw [ec]
      exact ⟨rfl, ep⟩

theorem addVW_same (gz oz cz cx n y : Nat) (Lz : List Nat) (w : World) (hn : 0 < n) (hlen : n ≤ 1000000)
 (bz : Blk .u64 w gz Lz) (hz : oz + n ≤ Lz.length)
 (hbx : ∀ a ∈ Lz, a < 18446744073709551616) (hy : y < 18446744073709551616) (_hcz : n ≤ cz) (_hcx : n ≤ cx) :
 Calls Tryz.prog 160 #[.slice (some ⟨gz, oz, none⟩) n cz, .slice (some ⟨gz, oz, none⟩) n cx, .int .u64 y] w
  fun e w' => e = .returned (.int .u64 ((addWs (seg Lz oz n) y).2 : Nat)) ∧ Puts .u64 gz (spl Lz oz (addWs (seg Lz oz n) y).1) w w' := by
 have hx1 := bz.cell (o := oz) (by omega)
 have hz2 := bz.frozen oz
 obtain ⟨jt, hjt⟩ : ∃ j, Tryz.prog.info? 123 = some j := by
  have h : (Tryz.prog.info? 123).isSome = true := by kernel_rfl
  exact Option.isSome_iff_exists.1 h
 have h1s := addWs_succ (L := Lz) (off := oz) (k := 0) (y := y) (by omega)
 have hx0b := getD_lt hbx pos64 oz
 simp only [seg_zero, addWs, List.nil_append, Nat.add_zero, Nat.zero_add] at h1s
 have hset : ∀ v, Lz.set oz v = spl Lz oz [v] := fun v => by
  have := spl_set (L := Lz) (off := oz) (l := []) (o := oz) (n := v) (by simp) (by omega)
  rw [spl_nil] at this; exact this
 generalize hg : Lz.getD oz 0 = x0 at *
 have pW := (Puts.refl bz).set oz (addS x0 y 0)
 rw [hset] at pW
 clear hset
 have H_bz := hid bz; have H_hz := hid hz; have H_hbx := hid hbx; have H_h1s := hid h1s; have H_hg := hid hg; have H_pW := hid pW; have H_hx0b := hid hx0b; clear bz hz hbx h1s hg pW hx0b
 go_enter Tryz.func160, Tryz.ntmps160
 by_cases hc : addC x0 y 0 = 0
 · have hcb : ((addC x0 y 0 : Nat) : Int) == 0 := by rw [hc]; rfl
   have H_hc := hid hc; clear hc
   go_wp2_with (go_at_call 176; refine (bits_Add _ y 0 (by omega) _).mono ?_; rintro e w' ⟨rfl, rfl⟩)
   generalize w.setCell ⟨gz, oz, none⟩ (.int .u64 ((addS x0 y 0 : Nat) : Int)) = W at *
   have hne : ∀ nq, (binOp .neq 143 (.pointer (some ⟨gz, oz, none⟩)) (.pointer (some ⟨gz, oz, none⟩))).run Tryz.prog (W.drewN nq) = .ok (.bool false) (W.drewN nq) :=
    fun nq => Go.Lib.run_neq_ptr_same _ _ Tryz.underlying143 hjt
   go_quiet (fail)
   clear hne
   go_wp2
   go_ret
   have hst := addWs_stop (L := Lz) (off := oz) (n := n) (k := 1) (y := y) H_hbx.out (by omega) H_hz.out (by rw [H_h1s.out]; exact H_hc.out)
   rw [H_h1s.out] at hst
   rw [hst]
   refine ⟨rfl, ?_⟩
   have := H_pW.out.drewN nq
   rw [show spl Lz oz ([addS x0 y 0] ++ seg Lz (oz + 1) (n - 1)) = spl Lz oz [addS x0 y 0] from ?_]
   · exact this
   · exact spl_more (by have := H_hz.out; simp; omega) (by simp)
 · have hcb : (((addC x0 y 0 : Nat) : Int) == 0) = false := by rw [beq_eq_false_iff_ne]; omega
   have hc1 : addC x0 y 0 = 1 := by
    have : addC x0 y 0 ≤ 1 := addC_le' H_hx0b.out hy
    omega
   have H_hc := hid hc; have H_hc1 := hid hc1; clear hc hc1
   go_wp2_with (go_at_call 176; refine (bits_Add _ y 0 (by omega) _).mono ?_; rintro e w' ⟨rfl, rfl⟩)
   generalize w.setCell ⟨gz, oz, none⟩ (.int .u64 ((addS x0 y 0 : Nat) : Int)) = W at *
   generalize ((addC x0 y 0 : Nat) : Int) = CC at *
   generalize ((addS x0 y 0 : Nat) : Int) = SS at *
   go_loopw [9] (fun i wr => ∃ k : Nat, 1 ≤ k ∧ k ≤ n ∧ i = .int .i64 k ∧ Hid ((addWs (seg Lz oz k) y).2 = 1) ∧ Puts .u64 gz (spl Lz oz (addWs (seg Lz oz k) y).1) w wr) (fun i _ => n - (intOf i).toNat)
   case atStart => exact ⟨1, Nat.le_refl _, hn, rfl, by rw [H_h1s.out]; exact H_hc1.out, by rw [H_h1s.out]; exact H_pW.out⟩
   case round =>
    obtain ⟨k, hk1, hk, rfl, hcar, hp⟩ := hrel
    by_cases hlt : k < n
    · have hl : (addWs (seg Lz oz k) y).1.length = k := by
       have := H_hz.out
       rw [addWs_length, sgL (by omega)]
      have hsu := addWs_succ (L := Lz) (off := oz) (k := k) (y := y) (by have := H_hz.out; omega)
      rw [hcar.out] at hsu
      have hxb := getD_lt H_hbx.out pos64 (oz + k)
      have H_hl := hid hl; have H_hsu := hid hsu; have H_hp := hid hp; clear hl hsu hp
      have hcx' : wr.cell? ⟨gz, oz + k, none⟩ = some (wd .u64 (Lz.getD (oz + k) 0)) := by
       have := H_hz.out; have := H_hl.out
       rw [H_hp.out.blk.cell (by rw [sgl (by omega)]; omega), sgD (by omega), if_neg (by omega)]
      have hz2' := H_hp.out.blk.frozen (oz + k)
      generalize hxk : Lz.getD (oz + k) 0 = x at *
      have H_hxk := hid hxk; clear hxk
      by_cases hm : x = 18446744073709551615
      · have ht1 : ((x : Int) != 18446744073709551615) = false := by subst hm; rfl
        have ht2 : ((x : Int) == 18446744073709551615) = true := by subst hm; rfl
        have H_hm := hid hm; clear hm
        go_wp2
        go_roundw
        case rel =>
         have hs2 := H_hsu.out
         rw [H_hm.out, add1_max.1, add1_max.2] at hs2
         refine ⟨k + 1, by omega, by omega, by go_num, by rw [hs2]; exact rfl, ?_⟩
         rw [hs2]
         have := (H_hp.out).set (oz + k) 0
         rw [spl_set (by rw [H_hl.out]) (by have := H_hz.out; omega)] at this
         exact this
        case measure => simp [intOf]; omega
      · have ht1 : ((x : Int) != 18446744073709551615) = true := by rw [bne_iff_ne]; omega
        have ht2 : ((x : Int) == 18446744073709551615) = false := by rw [beq_eq_false_iff_ne]; omega
        have hwr : IntKind.u64.wrap ((x : Int) + 1) = ((x + 1 : Nat) : Int) := by rw [IntKind.wrap_u64]; omega
        have H_hm := hid hm; clear hm
        go_wp2_with (fail)
        have pV : Puts .u64 gz _ w (wr.setCell ⟨gz, oz + k, none⟩ (.int .u64 ((x : Int) + 1))) := (H_hp.out).set (oz + k) (x + 1)
        rw [spl_set (by rw [H_hl.out]) (by have := H_hz.out; omega)] at pV
        have H_pV := hid pV; clear pV
        generalize wr.setCell ⟨gz, oz + k, none⟩ (.int .u64 ((x : Int) + 1)) = V at *
        have hne : ∀ nq, (binOp .neq 143 (.pointer (some ⟨gz, oz, none⟩)) (.pointer (some ⟨gz, oz, none⟩))).run Tryz.prog (V.drewN nq) = .ok (.bool false) (V.drewN nq) :=
         fun nq => Go.Lib.run_neq_ptr_same _ _ Tryz.underlying143 hjt
        go_quiet (fail)
        clear hne
        go_wp2
        go_ret
        have hs2 := H_hsu.out
        rw [(add1_not hxb H_hm.out).1, (add1_not hxb H_hm.out).2] at hs2
        have hst := addWs_stop (L := Lz) (off := oz) (n := n) (k := k + 1) (y := y) H_hbx.out (by omega) H_hz.out (by rw [hs2])
        rw [hs2] at hst
        rw [hst]
        refine ⟨rfl, ?_⟩
        rw [spl_more (by simp; rw [H_hl.out]; have := H_hz.out; omega) (by simp; rw [H_hl.out])]
        exact H_pV.out.drewN nq
    · have HE := hid (show k = n by omega)
      have H_hp := hid hp; clear hp
      go_wp2
      go_ret
      have ep := H_hp.out
      have ec := hcar.out
      rw [HE.out] at ep ec
      rw [ec]
      exact ⟨rfl, ep⟩

theorem subVW_apart (gz oz cz gx ox cx n y : Nat) (Lz Lx : List Nat) (w : World) (hn : 0 < n) (hlen : n ≤ 1000000)
 (bz : Blk .u64 w gz Lz) (bx : Blk .u64 w gx Lx) (hz : oz + n ≤ Lz.length) (hx : ox + n ≤ Lx.length)
 (hbx : ∀ a ∈ Lx, a < 18446744073709551616) (_hy : y < 18446744073709551616) (hax : gx ≠ gz) (hcz : n ≤ cz) (hcx : n ≤ cx) :
 Calls Tryz.prog 162 #[.slice (some ⟨gz, oz, none⟩) n cz, .slice (some ⟨gx, ox, none⟩) n cx, .int .u64 y] w
  fun e w' => e = .returned (.int .u64 ((subWs (seg Lx ox n) y).2 : Nat)) ∧ Puts .u64 gz (spl Lz oz (subWs (seg Lx ox n) y).1) w w' := by
 have hz1 := bz.cell (o := oz) (by omega)
 have hz2 := bz.frozen oz
 have hx1 := bx.cell (o := ox) (by omega)
 have hgz : gz ≠ gx := Ne.symm hax
 have h1s := subWs_succ (L := Lx) (off := ox) (k := 0) (y := y) (by omega)
 have hx0b := getD_lt hbx pos64 ox
 simp only [seg_zero, subWs, List.nil_append, Nat.add_zero, Nat.zero_add] at h1s
 have hset : ∀ v, Lz.set oz v = spl Lz oz [v] := fun v => by
  have := spl_set (L := Lz) (off := oz) (l := []) (o := oz) (n := v) (by simp) (by omega)
  rw [spl_nil] at this; exact this
 generalize hg : Lx.getD ox 0 = x0 at *
 generalize Lz.getD oz 0 = z0 at *
 have pW := (Puts.refl bz).set oz (subS x0 y 0)
 rw [hset] at pW
 clear hset
 have bxW : Blk .u64 (w.setCell ⟨gz, oz, none⟩ (wd .u64 (subS x0 y 0))) gx Lx := bx.of_block (by rw [Go.RowKit.Below.heap_setCell _ _ _ _ hax])
 have H_bz := hid bz; have H_bx := hid bx; have H_hz := hid hz; have H_hx := hid hx; have H_hbx := hid hbx; have H_h1s := hid h1s; have H_hg := hid hg; have H_pW := hid pW; have H_bxW := hid bxW; have H_hx0b := hid hx0b; clear bz bx hz hx hbx h1s hg pW bxW hx0b
 go_enter Tryz.func162, Tryz.ntmps162
 by_cases hc : subC x0 y 0 = 0
 · have hcb : ((subC x0 y 0 : Nat) : Int) == 0 := by rw [hc]; rfl
   have H_hc := hid hc; clear hc
   go_wp2_with (go_at_call 178; refine (bits_Sub _ y 0 (by omega) _).mono ?_; rintro e w' ⟨rfl, rfl⟩)
   generalize w.setCell ⟨gz, oz, none⟩ (.int .u64 ((subS x0 y 0 : Nat) : Int)) = W at *
   have hne : ∀ nq, (binOp .neq 143 (.pointer (some ⟨gz, oz, none⟩)) (.pointer (some ⟨gx, ox, none⟩))).run Tryz.prog (W.drewN nq) = .ok (.bool true) (W.drewN nq) :=
    fun nq => Blk.neq (H_pW.out.blk.drewN nq) (H_bxW.out.drewN nq) hgz Tryz.underlying143 (by kernel_rfl)
   go_quiet (fail)
   clear hne
   go_wp2_with (fail)
   have h1n : (1 : Int) ≤ (n : Int) := by omega
   go_still_tail 4, (by kernel_rfl)
   clear h1n
   have hzl := H_hz.out
   have hxl := H_hx.out
   refine wpList_copy_puts rfl (.tmp 40) (.tmp 42) 107 107 rfl 123 Tryz.underlying107 (by kernel_rfl) _ _ _ _ _ _ (by rfl) (by rfl) gz (oz + 1) _ (H_pW.out.blk.drewN nq).drew gx (ox + 1) _ (H_bxW.out.drewN nq).drew (n - 1) ?_ ?_ ?_ ?_ ?_
   · simp
   · intro hp
     rw [if_neg (by omega), if_neg (by omega)]; simp
   · rw [sgl (by simp; omega)]; omega
   · omega
   · intro w' hput
     have hput := (H_pW.out.trans hput.of_drew.of_drewN)
     rw [spl_spl (by simp) (by rw [sgL (by omega)]; omega)] at hput
     clear hzl hxl
     have H_hput := hid hput; clear hput
     have hst := subWs_stop (L := Lx) (off := ox) (n := n) (k := 1) (y := y) H_hbx.out (by omega) H_hx.out (by rw [H_h1s.out]; exact H_hc.out)
     rw [H_h1s.out] at hst
     have H_hst := hid hst; clear hst
     go_wp2
     all_goals (go_ret; rw [H_hst.out]; exact ⟨rfl, H_hput.out⟩)
 · have hcb : (((subC x0 y 0 : Nat) : Int) == 0) = false := by rw [beq_eq_false_iff_ne]; omega
   have hc1 : subC x0 y 0 = 1 := by
    have : subC x0 y 0 ≤ 1 := subC_le _ _ _
    omega
   have H_hc := hid hc; have H_hc1 := hid hc1; clear hc hc1
   go_wp2_with (go_at_call 178; refine (bits_Sub _ y 0 (by omega) _).mono ?_; rintro e w' ⟨rfl, rfl⟩)
   generalize w.setCell ⟨gz, oz, none⟩ (.int .u64 ((subS x0 y 0 : Nat) : Int)) = W at *
   generalize ((subC x0 y 0 : Nat) : Int) = CC at *
   generalize ((subS x0 y 0 : Nat) : Int) = SS at *
   go_loopw [9] (fun i wr => ∃ k : Nat, 1 ≤ k ∧ k ≤ n ∧ i = .int .i64 k ∧ Hid ((subWs (seg Lx ox k) y).2 = 1) ∧ Puts .u64 gz (spl Lz oz (subWs (seg Lx ox k) y).1) w wr) (fun i _ => n - (intOf i).toNat)
   case atStart => exact ⟨1, Nat.le_refl _, hn, rfl, by rw [H_h1s.out]; exact H_hc1.out, by rw [H_h1s.out]; exact H_pW.out⟩
   case round =>
    obtain ⟨k, hk1, hk, rfl, hcar, hp⟩ := hrel
    by_cases hlt : k < n
    · have hl : (subWs (seg Lx ox k) y).1.length = k := by
       have := H_hx.out
       rw [subWs_length, sgL (by omega)]
      have hsu := subWs_succ (L := Lx) (off := ox) (k := k) (y := y) (by have := H_hx.out; omega)
      rw [hcar.out] at hsu
      have hxb := getD_lt H_hbx.out pos64 (ox + k)
      have H_hl := hid hl; have H_hsu := hid hsu; have H_hp := hid hp; clear hl hsu hp
      have hcx' : wr.cell? ⟨gx, ox + k, none⟩ = some (wd .u64 (Lx.getD (ox + k) 0)) := (H_hp.out.other hax H_bx.out).cell (by have := H_hx.out; omega)
      have bxr := hid (H_hp.out.other hax H_bx.out)
      have hz1' := H_hp.out.blk.cell (o := oz + k) (by have := H_hz.out; have := H_hl.out; rw [sgl (by omega)]; omega)
      have hz2' := H_hp.out.blk.frozen (oz + k)
      generalize (spl Lz oz (subWs (seg Lx ox k) y).1).getD (oz + k) 0 = zk at *
      generalize hxk : Lx.getD (ox + k) 0 = x at *
      have H_hxk := hid hxk; clear hxk
      by_cases hm : x = 0
      · have ht1 : ((x : Int) != 0) = false := by subst hm; rfl
        have ht2 : ((x : Int) == 0) = true := by subst hm; rfl
        have H_hm := hid hm; clear hm
        go_wp2
        go_roundw
        case rel =>
         have hs2 := H_hsu.out
         rw [H_hm.out, sub1_zero.1, sub1_zero.2] at hs2
         refine ⟨k + 1, by omega, by omega, by go_num, by rw [hs2]; exact rfl, ?_⟩
         rw [hs2]
         have := (H_hp.out).set (oz + k) 18446744073709551615
         rw [spl_set (by rw [H_hl.out]) (by have := H_hz.out; omega)] at this
         exact this
        case measure => simp [intOf]; omega
      · have ht1 : ((x : Int) != 0) = true := by rw [bne_iff_ne]; omega
        have ht2 : ((x : Int) == 0) = false := by rw [beq_eq_false_iff_ne]; omega
        have hwr : IntKind.u64.wrap ((x : Int) - 1) = ((x - 1 : Nat) : Int) := by rw [IntKind.wrap_u64]; omega
        have H_hm := hid hm; clear hm
        go_wp2_with (fail)
        have pV := (H_hp.out).set (oz + k) (x - 1)
        rw [spl_set (by rw [H_hl.out]) (by have := H_hz.out; omega)] at pV
        have H_pV := hid pV; clear pV
        have bxV : Blk .u64 (wr.setCell ⟨gz, oz + k, none⟩ (wd .u64 (x - 1))) gx Lx := bxr.out.of_block (by rw [Go.RowKit.Below.heap_setCell _ _ _ _ hax])
        have H_bxV := hid bxV; clear bxV
        generalize wr.setCell ⟨gz, oz + k, none⟩ (.int .u64 ((x - 1 : Nat) : Int)) = V at *
        have hne : ∀ nq, (binOp .neq 143 (.pointer (some ⟨gz, oz, none⟩)) (.pointer (some ⟨gx, ox, none⟩))).run Tryz.prog (V.drewN nq) = .ok (.bool true) (V.drewN nq) :=
         fun nq => Blk.neq (H_pV.out.blk.drewN nq) (H_bxV.out.drewN nq) hgz Tryz.underlying143 (by kernel_rfl)
        go_quiet (fail)
        clear hne
        have h1k : (0 : Int) ≤ (k : Int) + 1 := by omega
        have h1n : (k : Int) + 1 ≤ (n : Int) := by omega
        have hkw : IntKind.i64.wrap ((k : Int) + 1) = (k : Int) + 1 := by rw [IntKind.wrap_i64]; omega
        have hkt : ((k : Int) + 1).toNat = k + 1 := by omega
        go_wp2_with (fail)
        go_still_tail 8, (by kernel_rfl)
        clear h1n h1k hkw hkt
        have hzl := H_hz.out
        have hxl := H_hx.out
        refine wpList_copy_puts rfl (.tmp 69) (.tmp 73) 107 107 rfl 123 Tryz.underlying107 (by kernel_rfl) _ _ _ _ _ _ (by rfl) (by rfl) gz (oz + (k + 1)) _ (H_pV.out.blk.drewN nq).drew gx (ox + (k + 1)) _ (H_bxV.out.drewN nq).drew (n - (k + 1)) ?_ ?_ ?_ ?_ ?_
        · simp
        · intro hp
          rw [if_neg (by omega), if_neg (by omega)]; simp
        · rw [sgl (by simp; rw [H_hl.out]; omega)]; omega
        · omega
        · intro w' hput
          have hput := (H_pV.out.trans hput.of_drew.of_drewN)
          rw [spl_spl (by simp; rw [H_hl.out]) (by rw [sgL (by omega)]; omega)] at hput
          clear hzl hxl
          have H_hput := hid hput; clear hput
          have hs2 := H_hsu.out
          rw [(sub1_not hxb H_hm.out).1, (sub1_not hxb H_hm.out).2] at hs2
          have hst := subWs_stop (L := Lx) (off := ox) (n := n) (k := k + 1) (y := y) H_hbx.out (by omega) H_hx.out (by rw [hs2])
          rw [hs2] at hst
          have H_hst := hid hst; clear hst
          go_wp2
          all_goals (go_ret; rw [H_hst.out]; exact ⟨rfl, H_hput.out⟩)
    · have HE := hid (show k = n by omega)
      have H_hp := hid hp; clear hp
      go_wp2
      go_ret
      have ep := H_hp.out
      have ec := hcar.out
      rw [HE.out] at ep ec
      rw [ec]
      exact ⟨rfl, ep⟩

theorem subVW_same (gz oz cz cx n y : Nat) (Lz : List Nat) (w : World) (hn : 0 < n) (hlen : n ≤ 1000000)
 (bz : Blk .u64 w gz Lz) (hz : oz + n ≤ Lz.length)
 (hbx : ∀ a ∈ Lz, a < 18446744073709551616) (_hy : y < 18446744073709551616) (_hcz : n ≤ cz) (_hcx : n ≤ cx) :
 Calls Tryz.prog 162 #[.slice (some ⟨gz, oz, none⟩) n cz, .slice (some ⟨gz, oz, none⟩) n cx, .int .u64 y] w
  fun e w' => e = .returned (.int .u64 ((subWs (seg Lz oz n) y).2 : Nat)) ∧ Puts .u64 gz (spl Lz oz (subWs (seg Lz oz n) y).1) w w' := by
 have hx1 := bz.cell (o := oz) (by omega)
 have hz2 := bz.frozen oz
 obtain ⟨jt, hjt⟩ : ∃ j, Tryz.prog.info? 123 = some j := by
  have h : (Tryz.prog.info? 123).isSome = true := by kernel_rfl
  exact Option.isSome_iff_exists.1 h
 have h1s := subWs_succ (L := Lz) (off := oz) (k := 0) (y := y) (by omega)
 have hx0b := getD_lt hbx pos64 oz
 simp only [seg_zero, subWs, List.nil_append, Nat.add_zero, Nat.zero_add] at h1s
 have hset : ∀ v, Lz.set oz v = spl Lz oz [v] := fun v => by
  have := spl_set (L := Lz) (off := oz) (l := []) (o := oz) (n := v) (by simp) (by omega)
  rw [spl_nil] at this; exact this
 generalize hg : Lz.getD oz 0 = x0 at *
 have pW := (Puts.refl bz).set oz (subS x0 y 0)
 rw [hset] at pW
 clear hset
 have H_bz := hid bz; have H_hz := hid hz; have H_hbx := hid hbx; have H_h1s := hid h1s; have H_hg := hid hg; have H_pW := hid pW; have H_hx0b := hid hx0b; clear bz hz hbx h1s hg pW hx0b
 go_enter Tryz.func162, Tryz.ntmps162
 by_cases hc : subC x0 y 0 = 0
 · have hcb : ((subC x0 y 0 : Nat) : Int) == 0 := by rw [hc]; rfl
   have H_hc := hid hc; clear hc
   go_wp2_with (go_at_call 178; refine (bits_Sub _ y 0 (by omega) _).mono ?_; rintro e w' ⟨rfl, rfl⟩)
   generalize w.setCell ⟨gz, oz, none⟩ (.int .u64 ((subS x0 y 0 : Nat) : Int)) = W at *
   have hne : ∀ nq, (binOp .neq 143 (.pointer (some ⟨gz, oz, none⟩)) (.pointer (some ⟨gz, oz, none⟩))).run Tryz.prog (W.drewN nq) = .ok (.bool false) (W.drewN nq) :=
    fun nq => Go.Lib.run_neq_ptr_same _ _ Tryz.underlying143 hjt
   go_quiet (fail)
   clear hne
   go_wp2
   go_ret
   have hst := subWs_stop (L := Lz) (off := oz) (n := n) (k := 1) (y := y) H_hbx.out (by omega) H_hz.out (by rw [H_h1s.out]; exact H_hc.out)
   rw [H_h1s.out] at hst
   rw [hst]
   refine ⟨rfl, ?_⟩
   have := H_pW.out.drewN nq
   rw [show spl Lz oz ([subS x0 y 0] ++ seg Lz (oz + 1) (n - 1)) = spl Lz oz [subS x0 y 0] from ?_]
   · exact this
   · exact spl_more (by have := H_hz.out; simp; omega) (by simp)
 · have hcb : (((subC x0 y 0 : Nat) : Int) == 0) = false := by rw [beq_eq_false_iff_ne]; omega
   have hc1 : subC x0 y 0 = 1 := by
    have : subC x0 y 0 ≤ 1 := subC_le _ _ _
    omega
   have H_hc := hid hc; have H_hc1 := hid hc1; clear hc hc1
   go_wp2_with (go_at_call 178; refine (bits_Sub _ y 0 (by omega) _).mono ?_; rintro e w' ⟨rfl, rfl⟩)
   generalize w.setCell ⟨gz, oz, none⟩ (.int .u64 ((subS x0 y 0 : Nat) : Int)) = W at *
   generalize ((subC x0 y 0 : Nat) : Int) = CC at *
   generalize ((subS x0 y 0 : Nat) : Int) = SS at *
   go_loopw [9] (fun i wr => ∃ k : Nat, 1 ≤ k ∧ k ≤ n ∧ i = .int .i64 k ∧ Hid ((subWs (seg Lz oz k) y).2 = 1) ∧ Puts .u64 gz (spl Lz oz (subWs (seg Lz oz k) y).1) w wr) (fun i _ => n - (intOf i).toNat)
   case atStart => exact ⟨1, Nat.le_refl _, hn, rfl, by rw [H_h1s.out]; exact H_hc1.out, by rw [H_h1s.out]; exact H_pW.out⟩
   case round =>
    obtain ⟨k, hk1, hk, rfl, hcar, hp⟩ := hrel
    by_cases hlt : k < n
    · have hl : (subWs (seg Lz oz k) y).1.length = k := by
       have := H_hz.out
       rw [subWs_length, sgL (by omega)]
      have hsu := subWs_succ (L := Lz) (off := oz) (k := k) (y := y) (by have := H_hz.out; omega)
      rw [hcar.out] at hsu
      have hxb := getD_lt H_hbx.out pos64 (oz + k)
      have H_hl := hid hl; have H_hsu := hid hsu; have H_hp := hid hp; clear hl hsu hp
      have hcx' : wr.cell? ⟨gz, oz + k, none⟩ = some (wd .u64 (Lz.getD (oz + k) 0)) := by
       have := H_hz.out; have := H_hl.out
       rw [H_hp.out.blk.cell (by rw [sgl (by omega)]; omega), sgD (by omega), if_neg (by omega)]
      have hz2' := H_hp.out.blk.frozen (oz + k)
      generalize hxk : Lz.getD (oz + k) 0 = x at *
      have H_hxk := hid hxk; clear hxk
      by_cases hm : x = 0
      · have ht1 : ((x : Int) != 0) = false := by subst hm; rfl
        have ht2 : ((x : Int) == 0) = true := by subst hm; rfl
        have H_hm := hid hm; clear hm
        go_wp2
        go_roundw
        case rel =>
         have hs2 := H_hsu.out
         rw [H_hm.out, sub1_zero.1, sub1_zero.2] at hs2
         refine ⟨k + 1, by omega, by omega, by go_num, by rw [hs2]; exact rfl, ?_⟩
         rw [hs2]
         have := (H_hp.out).set (oz + k) 18446744073709551615
         rw [spl_set (by rw [H_hl.out]) (by have := H_hz.out; omega)] at this
         exact this
        case measure => simp [intOf]; omega
      · have ht1 : ((x : Int) != 0) = true := by rw [bne_iff_ne]; omega
        have ht2 : ((x : Int) == 0) = false := by rw [beq_eq_false_iff_ne]; omega
        have hwr : IntKind.u64.wrap ((x : Int) - 1) = ((x - 1 : Nat) : Int) := by rw [IntKind.wrap_u64]; omega
        have H_hm := hid hm; clear hm
        go_wp2_with (fail)
        have pV := (H_hp.out).set (oz + k) (x - 1)
        rw [spl_set (by rw [H_hl.out]) (by have := H_hz.out; omega)] at pV
        have H_pV := hid pV; clear pV
        generalize wr.setCell ⟨gz, oz + k, none⟩ (.int .u64 ((x - 1 : Nat) : Int)) = V at *
        have hne : ∀ nq, (binOp .neq 143 (.pointer (some ⟨gz, oz, none⟩)) (.pointer (some ⟨gz, oz, none⟩))).run Tryz.prog (V.drewN nq) = .ok (.bool false) (V.drewN nq) :=
         fun nq => Go.Lib.run_neq_ptr_same _ _ Tryz.underlying143 hjt
        go_quiet (fail)
        clear hne
        go_wp2
        go_ret
        have hs2 := H_hsu.out
        rw [(sub1_not hxb H_hm.out).1, (sub1_not hxb H_hm.out).2] at hs2
        have hst := subWs_stop (L := Lz) (off := oz) (n := n) (k := k + 1) (y := y) H_hbx.out (by omega) H_hz.out (by rw [hs2])
        rw [hs2] at hst
        rw [hst]
        refine ⟨rfl, ?_⟩
        rw [spl_more (by simp; rw [H_hl.out]; have := H_hz.out; omega) (by simp; rw [H_hl.out])]
        exact H_pV.out.drewN nq
    · have HE := hid (show k = n by omega)
      have H_hp := hid hp; clear hp
      go_wp2
      go_ret
      have ep := H_hp.out
      have ec := hcar.out
      rw [HE.out] at ep ec
      rw [ec]
      exact ⟨rfl, ep⟩

def Norm (l : List Nat) : Prop := ∀ k, l.length = k + 1 → l.getD k 0 ≠ 0

theorem Norm.nil : Norm [] := fun k h => by simp at h

def normL (l : List Nat) : List Nat := l.take (normK l l.length)
where
 normK (l : List Nat) : Nat → Nat
  | 0 => 0
  | k + 1 => if l.getD k 0 = 0 then normK l k else k + 1

theorem normK_le (l : List Nat) : ∀ n, normL.normK l n ≤ n
 | 0 => Nat.le_refl _
 | n + 1 => by simp only [normL.normK]; split; have := normK_le l n; omega; omega

theorem normK_norm (l : List Nat) : ∀ n, n ≤ l.length → Norm (l.take (normL.normK l n))
 | 0, _ => by simp only [normL.normK, List.take_zero]; exact Norm.nil
 | n + 1, h => by
   simp only [normL.normK]; split
   · exact normK_norm l n (by omega)
   · rename_i h0
     intro k hk
     have : k = n := by simp at hk; omega
     subst this
     rw [show (l.take (k + 1)).getD k 0 = l.getD k 0 by simp [List.getD]]
     exact h0

def cmpN (a b : Nat) : Int := if a < b then -1 else if b < a then 1 else 0

theorem cmpN_lt {a b : Nat} (h : a < b) : cmpN a b = -1 := if_pos h

theorem cmpN_gt {a b : Nat} (h : b < a) : cmpN a b = 1 := by unfold cmpN; rw [if_neg (by omega), if_pos h]

theorem cmpN_eq (a : Nat) : cmpN a a = 0 := by unfold cmpN; rw [if_neg (by omega), if_neg (by omega)]

def Quiet (w : World) (v : Value) (e : Ending) (w' : World) : Prop := e = .returned v ∧ ∃ n, w' = w.drewN n

theorem quietOf {P : Program} {f : FuncId} {args : Array Value} {w : World} {n : Nat} {v : Value}
 (h : Calls P f args (w.drewN n) (Quiet (w.drewN n) v)) : Calls P f args (w.drewN n) fun e w'' => e = .returned v ∧ ∃ m, w'' = w.drewN m :=
 h.mono fun _ _ ⟨he, m, hm⟩ => ⟨he, n + m, by rw [hm, World.drewN_drewN]⟩

theorem cell?_setCell_eq {w : World} {p : Addr} {v : Value} (hs : p.spot = none) (h : (w.cell? p).isSome = true) : (w.setCell p v).cell? p = some v := by
 unfold World.cell? at h ⊢
 simp only [World.setCell, Array.getElem?_modify]
 cases hb : w.heap[p.block]? with
 | none => simp [hb] at h
 | some o =>
   cases o <;> simp_all

theorem cell?_setCell_ne {w : World} {p q : Addr} {v : Value} (h : q.block ≠ p.block ∨ q.off ≠ p.off) : (w.setCell p v).cell? q = w.cell? q := by
 unfold World.cell?
 simp only [World.setCell, Array.getElem?_modify]
 by_cases hb : p.block = q.block
 · rcases h with h | h
   · exact absurd hb.symm h
   · rw [if_pos hb]
     cases hq : w.heap[q.block]? with
     | none => simp
     | some o =>
       cases o <;> simp
       split
       · rfl
       · split
         · rfl
         · rw [Array.getElem?_setIfInBounds_ne (by omega)]
 · rw [if_neg hb]

end Go.Proofs.YtllencgncinphaaGreatDoor
