/- bint: sign, isOdd, fint, quoRem, add, sub, subAbs, inc. -/
import Derived.Test.YtmgidnjpkbgmgabGreatDoorKB12
import Derived.Test.YtmgidnjpkbgmgabGreatDoorKB16
import Derived.Test.YtmgidnjpkbgmgabGreatDoorKB20
import Derived.Test.YtmgidnjpkbgmgabGreatDoorKB22
import Derived.Test.YtmgidnjpkbgmgabGreatDoorKB36
import Derived.Test.YtmgidnjpkbgmgabGreatDoorKB37
namespace Go.Proofs.YtmgidnjpkbgmgabGreatDoor
open Go.RowKit

/-- a number's words: none, or one at least, of which the first lies in a block -/
theorem BI.words {w : World} {g n : Nat} {v : Value} (h : BI w g v n) :
    (n = 0 ∧ ∃ a c, v = .slice a 0 c) ∨ (0 < n ∧ ∃ gx ox cx m, v = .slice (some ⟨gx, ox, none⟩) (m + 1 : Nat) cx ∧ w.cell? ⟨gx, ox, none⟩ = some (wd .u64 (n % 18446744073709551616)) ∧ (n < 18446744073709551616 → m = 0)) := by
  obtain ⟨l, hi, rfl⟩ := h
  by_cases h0 : l.length = 0
  · obtain ⟨a, c, hv⟩ := hi.nat.form
    rw [h0] at hv
    exact .inl ⟨by rw [List.eq_nil_of_length_eq_zero h0]; rfl, a, c, hv⟩
  · obtain ⟨gx, ox, cx, M, rfl, bx, h1, h2, h3, h4⟩ := hi.nat.open_pos (by omega)
    right
    obtain ⟨m, hm⟩ : ∃ m, l.length = m + 1 := ⟨l.length - 1, by omega⟩
    have hp : 0 < val l := by
      rcases Nat.eq_zero_or_pos (val l) with h | h
      · have := val_nil_of hi.norm h
        rw [this] at h0; simp at h0
      · exact h
    refine ⟨hp, gx, ox, cx, m, by rw [hm], ?_, ?_⟩
    · have hc := bx.cell (o := ox) (by omega)
      have hs : l = M.getD ox 0 :: seg M (ox + 1) m := by
        conv => lhs; rw [h3, hm]
        exact seg_head (by omega)
      have hlt := getD_lt h4 pos64 ox
      have hv : val l % 18446744073709551616 = M.getD ox 0 := by
        rw [hs]
        simp only [val]
        rw [Nat.add_mul_mod_self_left, Nat.mod_eq_of_lt hlt]
      rw [hv]; exact hc
    · intro hlt
      have := hi.norm.len_le (k := 1) (by unfold wpow; omega)
      omega

set_option maxRecDepth 20000 in
theorem IntSign_any (g n : Nat) (v : Value) (w : World) (hx : BI w g v n) :
    Calls Tryz.prog 175 #[.pointer (some ⟨g, 0, none⟩)] w (fun e w' => e = .returned (.int .i64 (if n = 0 then 0 else 1)) ∧ w' = w) := by
  have hw := hx.words
  obtain ⟨l, hi, _⟩ := hx
  have c0 := hi.str.c0
  have c1 : w.cell? ⟨g, 1, none⟩ = some v := hi.str.c1
  clear hi
  rcases hw with ⟨h0, a, c, rfl⟩ | ⟨h0, gx, ox, cx, m, rfl, hc, _⟩
  · rw [if_pos h0]
    clear h0
    go_enter Tryz.func175, Tryz.ntmps175
    go_wp2
    go_ret
    exact ⟨rfl, rfl⟩
  · have t1 : (((m + 1 : Nat) : Int) == 0) = false := by rw [beq_eq_false_iff_ne]; omega
    rw [if_neg (by omega)]
    generalize ((m + 1 : Nat) : Int) = k at *
    clear h0 hc
    go_enter Tryz.func175, Tryz.ntmps175
    go_wp2
    go_ret
    exact ⟨rfl, rfl⟩

theorem bsign_any (g n : Nat) (v : Value) (w : World) (hx : BI w g v n) :
    Calls Tryz.prog 150 #[.pointer (some ⟨g, 0, none⟩)] w (fun e w' => e = .returned (.int .i64 (if n = 0 then 0 else 1)) ∧ w' = w) := by
  have h := IntSign_any g n v w hx
  generalize (if n = 0 then (0 : Int) else 1) = r at *
  have H_h := Lib.hid h; clear h
  have H_hx := Lib.hid hx; clear hx
  go_enter Tryz.func150, Tryz.ntmps150
  go_wp2_with (fail)
  refine H_h.out.mono ?_
  rintro e w2 ⟨rfl, rfl⟩
  go_wp2
  go_ret
  exact ⟨rfl, rfl⟩

set_option maxRecDepth 20000 in
theorem Bit_any (g n : Nat) (v : Value) (w : World) (hx : BI w g v n) :
    Calls Tryz.prog 177 #[.pointer (some ⟨g, 0, none⟩), .int .i64 0] w (fun e w' => e = .returned (.int .u64 ((n % 2 : Nat) : Int)) ∧ w' = w) := by
  have hw := hx.words
  obtain ⟨l, hi, _⟩ := hx
  have c1 : w.cell? ⟨g, 1, none⟩ = some v := hi.str.c1
  clear hi
  rcases hw with ⟨rfl, a, c, rfl⟩ | ⟨h0, gx, ox, cx, m, rfl, hc, _⟩
  · go_enter Tryz.func177, Tryz.ntmps177
    go_wp2
    go_ret
    exact ⟨rfl, rfl⟩
  · have t1 : decide ((0 : Int) < ((m + 1 : Nat) : Int)) = true := decide_eq_true (by omega)
    have t2 : (0 : Int) < ((m + 1 : Nat) : Int) := by omega
    have hb : bits BinOp.and IntKind.u64 ((n % 18446744073709551616 : Nat) : Int) 1 = ((n % 18446744073709551616 % 2 : Nat) : Int) := by rw [and_one_u64 _ (by omega) (by omega)]; omega
    have e2 : n % 18446744073709551616 % 2 = n % 2 := Nat.mod_mod_of_dvd _ ⟨9223372036854775808, rfl⟩
    rw [e2] at hb
    generalize n % 18446744073709551616 = x at *
    generalize n % 2 = r at *
    generalize ((m + 1 : Nat) : Int) = k at *
    clear h0 e2
    go_enter Tryz.func177, Tryz.ntmps177
    go_wp2
    go_ret
    exact ⟨rfl, rfl⟩

theorem bisOdd_any (g n : Nat) (v : Value) (w : World) (hx : BI w g v n) :
    Calls Tryz.prog 153 #[.pointer (some ⟨g, 0, none⟩)] w (fun e w' => e = .returned (.bool (decide (n % 2 = 1))) ∧ w' = w) := by
  have h := Bit_any g n v w hx
  have hb : ((((n % 2 : Nat) : Int)) != 0) = decide (n % 2 = 1) := by
    rcases Nat.mod_two_eq_zero_or_one n with h | h <;> rw [h] <;> rfl
  generalize decide (n % 2 = 1) = b at *
  generalize ((n % 2 : Nat) : Int) = r at *
  have H_h := Lib.hid h; clear h
  have H_hx := Lib.hid hx; clear hx
  go_enter Tryz.func153, Tryz.ntmps153
  go_wp2_with (fail)
  refine H_h.out.mono ?_
  rintro e w2 ⟨rfl, rfl⟩
  go_wp2
  go_ret
  exact ⟨rfl, rfl⟩

set_option maxRecDepth 20000 in
theorem Uint64_any (g n : Nat) (v : Value) (w : World) (hn : n < 18446744073709551616) (hx : BI w g v n) :
    Calls Tryz.prog 154 #[.pointer (some ⟨g, 0, none⟩)] w (fun e w' => e = .returned (.int .u64 n) ∧ w' = w) := by
  have hw := hx.words
  obtain ⟨l, hi, _⟩ := hx
  have c1 : w.cell? ⟨g, 1, none⟩ = some v := hi.str.c1
  clear hi
  have hlow : Calls Tryz.prog 178 #[v] w (fun e w' => e = .returned (.int .u64 n) ∧ w' = w) := by
    rcases hw with ⟨rfl, a, c, rfl⟩ | ⟨h0, gx, ox, cx, m, rfl, hc, hm⟩
    · clear c1
      go_enter Tryz.func178, Tryz.ntmps178
      go_wp2
      go_ret
      exact ⟨rfl, rfl⟩
    · obtain rfl := hm hn
      rw [Nat.mod_eq_of_lt hn] at hc
      clear hm h0 c1 hn
      go_enter Tryz.func178, Tryz.ntmps178
      go_wp2
      go_ret
      exact ⟨rfl, rfl⟩
  clear hw hn
  have H_hlow := Lib.hid hlow; clear hlow
  go_enter Tryz.func154, Tryz.ntmps154
  go_wp2_with (fail)
  refine H_hlow.out.mono ?_
  rintro e w2 ⟨rfl, rfl⟩
  go_wp2
  go_ret
  exact ⟨rfl, rfl⟩

theorem bfint_any (g n : Nat) (v : Value) (w : World) (hn : n < 18446744073709551616) (hx : BI w g v n) :
    Calls Tryz.prog 129 #[.pointer (some ⟨g, 0, none⟩)] w (fun e w' => e = .returned (.int .u64 n) ∧ w' = w) := by
  have h := Uint64_any g n v w hn hx
  clear hn
  have H_h := Lib.hid h; clear h
  have H_hx := Lib.hid hx; clear hx
  go_enter Tryz.func129, Tryz.ntmps129
  go_wp2_with (fail)
  refine H_h.out.mono ?_
  rintro e w2 ⟨rfl, rfl⟩
  go_wp2
  go_ret
  exact ⟨rfl, rfl⟩

theorem badd_any (bz bx bY : Nat) (vz vx vy : Value) (nz nx ny : Nat) (w : World) (hn : nx < wpow 39) (hm : ny < wpow 39)
    (hz : BI w bz vz nz) (hx : BI w bx vx nx) (hy : BI w bY vy ny) (hsx : Sep vz vx) (hsy : Sep vz vy) :
    Calls Tryz.prog 104 #[.pointer (some ⟨bz, 0, none⟩), .pointer (some ⟨bx, 0, none⟩), .pointer (some ⟨bY, 0, none⟩)] w (fun e w' => e = .returned (.tuple #[]) ∧ BSet w bz vz (nx + ny) w') := by
  obtain ⟨lz, hz, _⟩ := hz
  obtain ⟨lx, hx, rfl⟩ := hx
  obtain ⟨ly, hy, rfl⟩ := hy
  have h1 := hx.norm.len_le hn
  have h2 := hy.norm.len_le hm
  have h := Int_Add bz 0 bx 0 bY 0 false false false vz vx vy lz lx ly w (by omega) (by omega) hz hx hy hsx hsy
  have e : ival false lx + ival false ly = ((val lx + val ly : Nat) : Int) := by simp [ival]
  rw [e] at h
  clear hn hm hz hx hy hsx hsy h1 h2 e
  generalize val lx + val ly = r at *
  have H_h := Lib.hid h; clear h
  go_enter Tryz.func104, Tryz.ntmps104
  go_wp2_with (fail)
  refine H_h.out.mono ?_
  intro e w2 hr
  obtain ⟨rfl, hb⟩ := hr.bset
  clear hr
  have H_hb := Lib.hid hb; clear hb
  go_wp2
  go_end0
  exact ⟨rfl, H_hb.out⟩

end Go.Proofs.YtmgidnjpkbgmgabGreatDoor

/- big: nat.lsh by 1 of a number of one word; Int.Lsh, bint.dbl. -/
namespace Go.Proofs.YtmgidnjpkbgmgabGreatDoor
open Go.RowKit

/-- clear, over no cell -/
theorem wpList_clear_none {P : Program} {w : World} {ops : Array Oper} {rest : List Oper} {o : Oper} {a : Act} {Q : Exit → Act → World → Prop} (hgd : o.guard = none) (d : Operand) (dT : TypeId)
    (ho : o.op = .call { callee := .builtin .clear, args := #[d], argTypes := #[dT] }) (elem : TypeId) (hu : P.underlying dT = some (.slice elem)) (a0 : Option Addr) (c : Nat)
    (hd : a.eval d = .slice a0 0 c) (h : wpList P ops Q rest (a.put o.dst (.tuple #[])) w) : wpList P ops Q (o :: rest) a w := by
  refine wpList_plain hgd fun K hK => ?_
  have hrun : (Builtin.clear_ #[dT] o.type #[.slice a0 0 c]).run P w = .ok (.tuple #[]) w := by
    cases a0 <;> simp [Builtin.clear_, run_underlying hu, Result.andThen]
  unfold Oper.wp
  simp [execOp, ho, resolve, invoke, builtin, hd, hrun, Result.andThen]
  exact hK _ _ h

set_option maxRecDepth 20000 in
set_option maxHeartbeats 1000000 in
theorem lshVU_one (g off cap gx ox cx r : Nat) (L : List Nat) (w : World) (bz : Blk .u64 w g L) (ho : off + 1 ≤ L.length)
    (hc : w.cell? ⟨gx, ox, none⟩ = some (wd .u64 r)) :
    Calls Tryz.prog 197 #[.slice (some ⟨g, off, none⟩) 1 cap, .slice (some ⟨gx, ox, none⟩) 1 cx, .int .u64 1] w
      (fun e w' => e = .returned (.int .u64 ((r / 9223372036854775808 : Nat) : Int)) ∧ Puts .u64 g (L.set off (2 * r % 18446744073709551616)) w w') := by
  have hcz := bz.cell (o := off) (by omega)
  have hfz := bz.frozen off
  have hl : Calls Tryz.prog 225 #[.slice (some ⟨g, off, none⟩) 1 cap, .slice (some ⟨gx, ox, none⟩) 1 cx, .int .u64 1] w
      (fun e w' => e = .returned (.int .u64 ((r / 9223372036854775808 : Nat) : Int)) ∧ Puts .u64 g (L.set off (2 * r % 18446744073709551616)) w w') := by
    generalize L.getD off 0 = z0 at *
    have b1 : bits BinOp.and IntKind.u64 1 63 = 1 := by decide
    have b2 : IntKind.u64.wrap (64 - 1) = 63 := by decide
    have b3 : bits BinOp.and IntKind.u64 63 63 = 63 := by decide
    have b4 : IntKind.u64.wrap ((r : Int) * 2) = ((2 * r % 18446744073709551616 : Nat) : Int) := by
      rw [show (r : Int) * 2 = ((2 * r : Nat) : Int) by omega]; exact wrap_u64_mod _
    have b5 : ((r / 9223372036854775808 : Nat) : Int) = (r : Int) / 9223372036854775808 := by omega
    rw [b5]
    generalize 2 * r % 18446744073709551616 = z1 at *
    clear b5
    have H_bz := Lib.hid bz; clear bz
    have H_ho := Lib.hid ho; clear ho
    go_enter Tryz.func225, Tryz.ntmps225
    go_wp2
    refine wp_loop_rounds 1 ?_
    rw [rounds_succ]
    go_wp2
    go_ret
    exact ⟨rfl, (Puts.refl H_bz.out).set off z1⟩
  clear hcz hfz hc
  have H_bz := Lib.hid bz; clear bz
  have H_hl := Lib.hid hl; clear hl
  go_enter Tryz.func197, Tryz.ntmps197
  go_wp2_with (fail)
  refine H_hl.out.mono ?_
  rintro e w2 ⟨rfl, hp⟩
  have H_hp := Lib.hid hp; clear hp
  go_wp2
  go_ret
  exact ⟨rfl, H_hp.out⟩

set_option maxRecDepth 20000 in
set_option maxHeartbeats 1000000 in
theorem lsh_word (zv xv : Value) (zl xl : List Nat) (w : World) (hn : xl.length ≤ 1) (h : NatAt w zv zl) (hx : NatAt w xv xl) (hs : Sep zv xv) :
    Calls Tryz.prog 200 #[zv, xv, .int .u64 1] w (NatRet w zv (2 * val xl)) := by
  by_cases h0 : xl.length = 0
  · obtain ⟨a, c, hv⟩ := h.form
    obtain ⟨ax, cx, hxv⟩ := hx.form
    have hr : NatRet w zv 0 (.returned (.slice a 0 c)) w := NatRet.empty h hv
    have e0 : 2 * val xl = 0 := by rw [List.eq_nil_of_length_eq_zero h0]; rfl
    rw [e0]
    rw [h0] at hxv
    generalize zl.length = nz at *
    subst hv hxv
    clear hn h0 e0
    have H_h := Lib.hid h; clear h
    have H_hx := Lib.hid hx; clear hx
    have H_hs := Lib.hid hs; clear hs
    have H_hr := Lib.hid hr; clear hr
    go_enter Tryz.func200, Tryz.ntmps200
    go_wp2
    go_ret
    exact H_hr.out
  · obtain ⟨gx, ox, cx, M, rfl, bx, hx1, hx2, hx3, hx4⟩ := hx.open_pos (by omega)
    have hm := make_any zv zl 2 w (by omega) (by omega) h
    have hgx := bx.lt
    have hl1 : xl.length = 1 := by omega
    obtain ⟨r, rfl⟩ : ∃ r, xl = [r] := List.length_eq_one_iff.1 hl1
    have hr : r < 18446744073709551616 := hx.bnd r (by simp)
    have hgd : M.getD ox 0 = r := by
      have := hx3
      rw [hl1, seg_head (by omega), seg_zero] at this
      simpa using this.symm
    rw [hl1]
    have ev : 2 * val [r] = 2 * r := by simp [val]
    rw [ev]
    clear ev hx3 hn h0 hl1
    have H_h := Lib.hid h; clear h
    have H_hx := Lib.hid hx; clear hx
    have H_hs := Lib.hid hs; clear hs
    have H_bx := Lib.hid bx; clear bx
    have H_hx1 := Lib.hid hx1; clear hx1
    have H_hx2 := Lib.hid hx2; clear hx2
    have H_hx4 := Lib.hid hx4; clear hx4
    have H_hgd := Lib.hid hgd; clear hgd
    have H_hr := Lib.hid hr; clear hr
    go_enter Tryz.func200, Tryz.ntmps200
    go_wp2_with (fail)
    refine hm.mono ?_
    intro e w1 hm
    obtain ⟨g, off, cap, L, rfl, hb, h1, h2, h3, h4, h5, hcap⟩ := hm.split
    clear hm
    have hcx := (H_bx.out.keep h4.out (fun h => h)).cell (o := ox) (by have := H_hx1.out; have := H_hx2.out; have : [r].length = 1 := rfl; omega)
    rw [H_hgd.out] at hcx
    have hls := fun c => lshVU_one g off c gx ox cx r L w1 hb.out (by have := h2.out; omega) hcx
    clear hcx
    have H_hls := Lib.hid hls; clear hls
    go_wp2_with (fail)
    refine (H_hls.out _).mono ?_
    rintro e w2 ⟨rfl, hp⟩
    have cc1 := hp.blk.cell (o := off + 1) (by have := h2.out; rw [List.length_set]; omega)
    have cc2 := hp.blk.frozen (off + 1)
    have p6 := hp.set (off + 1) (r / 9223372036854775808)
    generalize (L.set off (2 * r % 18446744073709551616)).getD (off + 1) 0 = z9 at *
    have H_hp := Lib.hid hp; clear hp
    have H_p6 := Lib.hid p6; clear p6
    go_wp2_with (refine wpList_clear_none (o := ⟨none, _, _, _, _, _⟩) rfl (.tmp 68) 134 rfl 164 Tryz.underlying134 _ _ (by rfl) ?_)
    generalize wr6 : w2.setCell ⟨g, off + 1, none⟩ (.int .u64 ((r : Int) / 9223372036854775808)) = w3 at *
    have e5 : w2.setCell ⟨g, off + 1, none⟩ (.int .u64 ((r / 9223372036854775808 : Nat) : Int)) = w3 := by
      rw [← wr6, show ((r / 9223372036854775808 : Nat) : Int) = (r : Int) / 9223372036854775808 by omega]
    have p7 := H_p6.out
    rw [e5] at p7
    have hB := H_hr.out
    have hlt : ∀ a ∈ (L.set off (2 * r % 18446744073709551616)).set (off + 1) (r / 9223372036854775808), a < 18446744073709551616 := by
      intro a ha
      rcases List.mem_or_eq_of_mem_set ha with ha | rfl
      · rcases List.mem_or_eq_of_mem_set ha with ha | rfl
        · exact h3.out a ha
        · exact Nat.mod_lt _ (by omega)
      · omega
    have hna : NatAt w3 (.slice (some ⟨g, off, none⟩) 2 cap) [2 * r % 18446744073709551616, r / 9223372036854775808] := by
      have := NatAt.mk (n := 2) (off := off) hcap p7.blk (by omega) (by rw [List.length_set, List.length_set]; exact h2.out) hlt
      rw [seg_head (by rw [List.length_set, List.length_set]; have := h2.out; omega), seg_head (by rw [List.length_set, List.length_set]; have := h2.out; omega), seg_zero,
        getD_set _ _ _ _ (by rw [List.length_set]; have := h2.out; omega), if_neg (by omega), getD_set _ _ _ _ (by have := h2.out; omega), if_pos rfl,
        getD_set _ _ _ _ (by rw [List.length_set]; have := h2.out; omega), if_pos rfl] at this
      exact this
    have hno := norm_any _ _ _ (by simp) hna
    have hvv : val [2 * r % 18446744073709551616, r / 9223372036854775808] = 2 * r := by simp only [val]; omega
    rw [hvv] at hno
    clear wr6 e5 hlt hvv hB
    have H_hna := Lib.hid hna; clear hna
    have H_hno := Lib.hid hno; clear hno
    have H_p7 := Lib.hid p7; clear p7
    refine H_hno.out.mono ?_
    rintro e w7 ⟨rv, l, rfl, h6, hnorm, hval, hown, rfl⟩
    have H_h6 := Lib.hid h6; clear h6
    have H_hnorm := Lib.hid hnorm; clear hnorm
    have H_hval := Lib.hid hval; clear hval
    have H_hown := Lib.hid hown; clear hown
    go_wp2
    go_ret
    exact ⟨rv, l, rfl, NatOp.of h5.out h4.out H_p7.out.keep H_h6.out (fun k hk => by have := H_hown.out k hk; simpa [Value.ownBlock] using this.symm), H_hnorm.out, H_hval.out⟩

end Go.Proofs.YtmgidnjpkbgmgabGreatDoor

/- bint: inc, subAbs, hasPrec, rshHalfEven. -/
namespace Go.Proofs.YtmgidnjpkbgmgabGreatDoor
open Go.RowKit

theorem BSet.of_fresh {w w1 w' : World} {g n : Nat} {v : Value} (hf : Fresh w w1) (h : BSet w1 g v n w') : BSet w g v n w' := by
  obtain ⟨u, h1, h2, h3⟩ := h
  refine ⟨u, h1, hf.trans h2 (fun _ _ h => h.elim) (fun _ _ h => h), fun k hk => ?_⟩
  rcases h3 k hk with h | h
  · exact .inl h
  · exact .inr (Nat.le_trans hf.size h)

/-- set twice -/
theorem BSet.trans {w w1 w' : World} {g a n : Nat} {v u : Value} (_hb : BI w1 g u a) (hk : Keep (fun k => k = g ∨ v.ownBlock = some k) w w1) (ho : ∀ k, u.ownBlock = some k → v.ownBlock = some k ∨ w.heap.size ≤ k) (h : BSet w1 g u n w') : BSet w g v n w' := by
  obtain ⟨x, h1, h2, h3⟩ := h
  refine ⟨x, h1, hk.trans h2 (fun _ _ h => h) (fun k hlt h => ?_), fun k hk' => ?_⟩
  · rcases h with h | h
    · exact .inl h
    · rcases ho k h with h' | h'
      · exact .inr h'
      · omega
  · rcases h3 k hk' with h | h
    · exact ho k h
    · exact .inr (Nat.le_trans hk.size h)

theorem inc_self (g n : Nat) (v : Value) (w : World) (hG : Glob w) (hP : Pow10s w) (hn : n < wpow 39) (hz : BI w g v n) :
    Calls Tryz.prog 152 #[.pointer (some ⟨g, 0, none⟩), .pointer (some ⟨g, 0, none⟩)] w (fun e w' => e = .returned (.tuple #[]) ∧ BSet w g v (n + 1) w') := by
  have hb := bpow10_any 0 w hG hP (by omega)
  clear hG hP
  have H_hz := Lib.hid hz; clear hz
  have H_hb := Lib.hid hb; clear hb
  have H_hn := Lib.hid hn; clear hn
  go_enter Tryz.func152, Tryz.ntmps152
  go_wp2_with (fail)
  refine H_hb.out.mono ?_
  rintro e w1 ⟨h, u, rfl, b1, l1, o1, f1⟩
  have hadd := badd_any g g h v v u n n (10 ^ 0) w1 H_hn.out (by unfold wpow; decide) (H_hz.out.fresh f1) (H_hz.out.fresh f1) b1 (.inl rfl) (.inr (fun k hk e => by have := H_hz.out.own_lt hk; have := o1 k e; omega))
  have H_b1 := Lib.hid b1; clear b1
  have H_l1 := Lib.hid l1; clear l1
  have H_o1 := Lib.hid o1; clear o1
  have H_f1 := Lib.hid f1; clear f1
  have H_hadd := Lib.hid hadd; clear hadd
  go_wp2_with (fail)
  refine H_hadd.out.mono ?_
  rintro e w2 ⟨rfl, hs⟩
  have H_hs := Lib.hid hs; clear hs
  go_wp2
  go_end0
  exact ⟨rfl, BSet.of_fresh H_f1.out (by simpa using H_hs.out)⟩

/-- has the number 20 digits or more? -/
theorem hasPrec20 (g n : Nat) (v : Value) (w : World) (hG : Glob w) (hP : Pow10s w) (hn : n < wpow 39) (hz : BI w g v n) :
    Calls Tryz.prog 128 #[.pointer (some ⟨g, 0, none⟩), .int .i64 20] w (fun e w' => e = .returned (.bool (decide (10000000000000000000 ≤ n))) ∧ Fresh w w') := by
  have hb := bpow10_any 19 w hG hP (by omega)
  clear hG hP
  have hc : decide (0 ≤ cmpN n (10 ^ 19)) = decide (10000000000000000000 ≤ n) := by
    rw [show (10 : Nat) ^ 19 = 10000000000000000000 from rfl]
    unfold cmpN
    by_cases h : n < 10000000000000000000
    · rw [if_pos h, decide_eq_false (show ¬ 10000000000000000000 ≤ n by omega)]; rfl
    · rw [if_neg h, decide_eq_true (show 10000000000000000000 ≤ n by omega)]
      split <;> rfl
  have h10 : 10 ^ 19 < wpow 39 := wpow_big (by decide)
  generalize (10 : Nat) ^ 19 = y at *
  generalize decide (10000000000000000000 ≤ n) = r at *
  have H_hz := Lib.hid hz; clear hz
  have H_hb := Lib.hid hb; clear hb
  have H_hn := Lib.hid hn; clear hn
  have H_h10 := Lib.hid h10; clear h10
  obtain ⟨c, hcc⟩ : ∃ c, c = cmpN n y := ⟨_, rfl⟩
  rw [← hcc] at hc
  have H_hcc := Lib.hid hcc; clear hcc
  go_enter Tryz.func128, Tryz.ntmps128
  go_wp2_with (fail)
  refine H_hb.out.mono ?_
  rintro e w1 ⟨h, u, rfl, b1, l1, o1, f1⟩
  have hcmp := bcmp_any g h v u n y w1 H_hn.out H_h10.out (by have := H_hz.out.lt; omega) (H_hz.out.fresh f1) b1
  rw [← H_hcc.out] at hcmp
  have H_b1 := Lib.hid b1; clear b1
  have H_l1 := Lib.hid l1; clear l1
  have H_o1 := Lib.hid o1; clear o1
  have H_f1 := Lib.hid f1; clear f1
  have H_hcmp := Lib.hid hcmp; clear hcmp
  go_wp2_with (fail)
  refine H_hcmp.out.mono ?_
  rintro e w2 ⟨rfl, q, rfl⟩
  go_wp2
  go_ret
  exact ⟨rfl, H_f1.out.trans (fresh_drewN _ _) (fun _ _ h => h) (fun _ _ h => h)⟩

theorem cmpN_three (a b : Nat) : (cmpN a b = -1 ∧ a < b) ∨ (cmpN a b = 0 ∧ a = b) ∨ (cmpN a b = 1 ∧ b < a) := by
  unfold cmpN
  rcases Nat.lt_trichotomy a b with h | h | h
  · left; rw [if_pos h]; exact ⟨rfl, h⟩
  · right; left; subst h; rw [if_neg (by omega), if_neg (by omega)]; exact ⟨rfl, rfl⟩
  · right; right; rw [if_neg (by omega), if_pos h]; exact ⟨rfl, h⟩

set_option maxRecDepth 20000 in
theorem brsh_zero (g s : Nat) (v : Value) (w : World) (hz : BI w g v 0) :
    Calls Tryz.prog 127 #[.pointer (some ⟨g, 0, none⟩), .pointer (some ⟨g, 0, none⟩), .int .i64 s] w (fun e w' => e = .returned (.tuple #[]) ∧ BSet w g v 0 w') := by
  have hsg := bsign_any g 0 v w hz
  rw [if_pos rfl] at hsg
  have hset := setFint_any g v 0 0 w (by omega) hz
  have H_hz := Lib.hid hz; clear hz
  have H_hsg := Lib.hid hsg; clear hsg
  have H_hset := Lib.hid hset; clear hset
  go_enter_defers Tryz.func127, Tryz.ntmps127
  go_wp2_with (fail)
  refine H_hsg.out.mono ?_
  rintro e w1 ⟨rfl, rfl⟩
  go_wp2_with (fail)
  refine H_hset.out.mono ?_
  rintro e w2 ⟨rfl, hb⟩
  have H_hb := Lib.hid hb; clear hb
  go_wp2_with (fail)
  refine ⟨.tuple #[], ?_, ?_⟩
  · simp [results, Tryz.results127]
  · exact ⟨rfl, H_hb.out⟩

/-- the whole number n lies in block g; it and its words were made since w0 -/
def OB (w0 w : World) (g n : Nat) : Prop := ∃ v, BI w g v n ∧ w0.heap.size ≤ g ∧ (∀ k, v.ownBlock = some k → w0.heap.size ≤ k) ∧ Fresh w0 w

theorem OB.set {w0 w w' : World} {g n m : Nat} {v : Value} (hg : w0.heap.size ≤ g) (hv : ∀ k, v.ownBlock = some k → w0.heap.size ≤ k) (hf : Fresh w0 w) (_ : BI w g v n) (h : BSet w g v m w') : OB w0 w' g m := by
  obtain ⟨u, h1, h2, h3⟩ := h.fresh_of hf hg hv
  exact ⟨u, h1, hg, h2, h3⟩

theorem OB.fresh {w0 w w' : World} {g n : Nat} (h : OB w0 w g n) (hf : Fresh w w') : OB w0 w' g n := by
  obtain ⟨v, h1, h2, h3, h4⟩ := h
  exact ⟨v, h1.fresh hf, h2, h3, h4.trans hf (fun _ _ h => h) (fun _ _ h => h)⟩

end Go.Proofs.YtmgidnjpkbgmgabGreatDoor
