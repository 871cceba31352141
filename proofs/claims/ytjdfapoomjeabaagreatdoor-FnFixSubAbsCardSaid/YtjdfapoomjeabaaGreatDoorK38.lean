/- bint: sign, isOdd, fint, quoRem, add, sub, subAbs, inc. -/
import Derived.Test.YtjdfapoomjeabaaGreatDoorK12
import Derived.Test.YtjdfapoomjeabaaGreatDoorK16
import Derived.Test.YtjdfapoomjeabaaGreatDoorK20
import Derived.Test.YtjdfapoomjeabaaGreatDoorK22
import Derived.Test.YtjdfapoomjeabaaGreatDoorK36
import Derived.Test.YtjdfapoomjeabaaGreatDoorK37
namespace Go.Proofs.YtjdfapoomjeabaaGreatDoor
open Go.RowKit

/-- a number's words: none, or one at least, of which the first lies in a block -/
theorem BI.words {w : World} {g n : Nat} {v : Value} (h : BI w g v n) :
    (n = 0 ∧ ∃ a c, v = .slice a 0 c) ∨ (0 < n ∧ ∃ gx ox cx m, v = .slice (some ⟨gx, ox, none⟩) (m + 1 : Nat) cx ∧ w.cell? ⟨gx, ox, none⟩ = some (wd .u64 (n % 18446744073709551616)) ∧ (n < 18446744073709551616 → m = 0)) := by
  obtain ⟨l, hi, rfl⟩ := h
  by_cases h0 : l.length = 0
  · obtain ⟨a, c, hv⟩ := hi.nat.form
    rw [h0] at hv
    exact .inl ⟨by rw [List.eq_nil_of_length_eq_zero h0]; rfl, a, c, hv⟩
  · obtain ⟨gx, ox, cx, M, rfl, bx, h1, h2, h3, h4⟩ := hi.nat.open_pos (by omega)
    right
    obtain ⟨m, hm⟩ : ∃ m, l.length = m + 1 := ⟨l.length - 1, by omega⟩
    have hp : 0 < val l := by
      rcases Nat.eq_zero_or_pos (val l) with h | h
      · have := val_nil_of hi.norm h
        rw [this] at h0; simp at h0
      · exact h
    refine ⟨hp, gx, ox, cx, m, by rw [hm], ?_, ?_⟩
    · have hc := bx.cell (o := ox) (by omega)
      have hs : l = M.getD ox 0 :: seg M (ox + 1) m := by
        conv => lhs; rw [h3, hm]
        exact seg_head (by omega)
      have hlt := getD_lt h4 pos64 ox
      have hv : val l % 18446744073709551616 = M.getD ox 0 := by
        rw [hs]
        simp only [val]
        rw [Nat.add_mul_mod_self_left, Nat.mod_eq_of_lt hlt]
      rw [hv]; exact hc
    · intro hlt
      have := hi.norm.len_le (k := 1) (by unfold wpow; omega)
      omega

set_option maxRecDepth 20000 in
theorem IntSign_any (g n : Nat) (v : Value) (w : World) (hx : BI w g v n) :
    Calls Tryz.prog 168 #[.pointer (some ⟨g, 0, none⟩)] w (fun e w' => e = .returned (.int .i64 (if n = 0 then 0 else 1)) ∧ w' = w) := by
  have hw := hx.words
  obtain ⟨l, hi, _⟩ := hx
  have c0 := hi.str.c0
  have c1 : w.cell? ⟨g, 1, none⟩ = some v := hi.str.c1
  clear hi
  rcases hw with ⟨h0, a, c, rfl⟩ | ⟨h0, gx, ox, cx, m, rfl, hc, _⟩
  · rw [if_pos h0]
    clear h0
    go_enter Tryz.func168, Tryz.ntmps168
    go_wp2
    go_ret
    exact ⟨rfl, rfl⟩
  · have t1 : (((m + 1 : Nat) : Int) == 0) = false := by rw [beq_eq_false_iff_ne]; omega
    rw [if_neg (by omega)]
    generalize ((m + 1 : Nat) : Int) = k at *
    clear h0 hc
    go_enter Tryz.func168, Tryz.ntmps168
    go_wp2
    go_ret
    exact ⟨rfl, rfl⟩

theorem bsign_any (g n : Nat) (v : Value) (w : World) (hx : BI w g v n) :
    Calls Tryz.prog 149 #[.pointer (some ⟨g, 0, none⟩)] w (fun e w' => e = .returned (.int .i64 (if n = 0 then 0 else 1)) ∧ w' = w) := by
  have h := IntSign_any g n v w hx
  generalize (if n = 0 then (0 : Int) else 1) = r at *
  have H_h := Lib.hid h; clear h
  have H_hx := Lib.hid hx; clear hx
  go_enter Tryz.func149, Tryz.ntmps149
  go_wp2_with (fail)
  refine H_h.out.mono ?_
  rintro e w2 ⟨rfl, rfl⟩
  go_wp2
  go_ret
  exact ⟨rfl, rfl⟩

set_option maxRecDepth 20000 in
theorem Bit_any (g n : Nat) (v : Value) (w : World) (hx : BI w g v n) :
    Calls Tryz.prog 171 #[.pointer (some ⟨g, 0, none⟩), .int .i64 0] w (fun e w' => e = .returned (.int .u64 ((n % 2 : Nat) : Int)) ∧ w' = w) := by
  have hw := hx.words
  obtain ⟨l, hi, _⟩ := hx
  have c1 : w.cell? ⟨g, 1, none⟩ = some v := hi.str.c1
  clear hi
  rcases hw with ⟨rfl, a, c, rfl⟩ | ⟨h0, gx, ox, cx, m, rfl, hc, _⟩
  · go_enter Tryz.func171, Tryz.ntmps171
    go_wp2
    go_ret
    exact ⟨rfl, rfl⟩
  · have t1 : decide ((0 : Int) < ((m + 1 : Nat) : Int)) = true := decide_eq_true (by omega)
    have t2 : (0 : Int) < ((m + 1 : Nat) : Int) := by omega
    have hb : bits BinOp.and IntKind.u64 ((n % 18446744073709551616 : Nat) : Int) 1 = ((n % 18446744073709551616 % 2 : Nat) : Int) := by rw [and_one_u64 _ (by omega) (by omega)]; omega
    have e2 : n % 18446744073709551616 % 2 = n % 2 := Nat.mod_mod_of_dvd _ ⟨9223372036854775808, rfl⟩
    rw [e2] at hb
    generalize n % 18446744073709551616 = x at *
    generalize n % 2 = r at *
    generalize ((m + 1 : Nat) : Int) = k at *
    clear h0 e2
    go_enter Tryz.func171, Tryz.ntmps171
    go_wp2
    go_ret
    exact ⟨rfl, rfl⟩

theorem bisOdd_any (g n : Nat) (v : Value) (w : World) (hx : BI w g v n) :
    Calls Tryz.prog 153 #[.pointer (some ⟨g, 0, none⟩)] w (fun e w' => e = .returned (.bool (decide (n % 2 = 1))) ∧ w' = w) := by
  have h := Bit_any g n v w hx
  have hb : ((((n % 2 : Nat) : Int)) != 0) = decide (n % 2 = 1) := by
    rcases Nat.mod_two_eq_zero_or_one n with h | h <;> rw [h] <;> rfl
  generalize decide (n % 2 = 1) = b at *
  generalize ((n % 2 : Nat) : Int) = r at *
  have H_h := Lib.hid h; clear h
  have H_hx := Lib.hid hx; clear hx
  go_enter Tryz.func153, Tryz.ntmps153
  go_wp2_with (fail)
  refine H_h.out.mono ?_
  rintro e w2 ⟨rfl, rfl⟩
  go_wp2
  go_ret
  exact ⟨rfl, rfl⟩

set_option maxRecDepth 20000 in
theorem Uint64_any (g n : Nat) (v : Value) (w : World) (hn : n < 18446744073709551616) (hx : BI w g v n) :
    Calls Tryz.prog 154 #[.pointer (some ⟨g, 0, none⟩)] w (fun e w' => e = .returned (.int .u64 n) ∧ w' = w) := by
  have hw := hx.words
  obtain ⟨l, hi, _⟩ := hx
  have c1 : w.cell? ⟨g, 1, none⟩ = some v := hi.str.c1
  clear hi
  have hlow : Calls Tryz.prog 172 #[v] w (fun e w' => e = .returned (.int .u64 n) ∧ w' = w) := by
    rcases hw with ⟨rfl, a, c, rfl⟩ | ⟨h0, gx, ox, cx, m, rfl, hc, hm⟩
    · clear c1
      go_enter Tryz.func172, Tryz.ntmps172
      go_wp2
      go_ret
      exact ⟨rfl, rfl⟩
    · obtain rfl := hm hn
      rw [Nat.mod_eq_of_lt hn] at hc
      clear hm h0 c1 hn
      go_enter Tryz.func172, Tryz.ntmps172
      go_wp2
      go_ret
      exact ⟨rfl, rfl⟩
  clear hw hn
  have H_hlow := Lib.hid hlow; clear hlow
  go_enter Tryz.func154, Tryz.ntmps154
  go_wp2_with (fail)
  refine H_hlow.out.mono ?_
  rintro e w2 ⟨rfl, rfl⟩
  go_wp2
  go_ret
  exact ⟨rfl, rfl⟩

theorem bfint_any (g n : Nat) (v : Value) (w : World) (hn : n < 18446744073709551616) (hx : BI w g v n) :
    Calls Tryz.prog 130 #[.pointer (some ⟨g, 0, none⟩)] w (fun e w' => e = .returned (.int .u64 n) ∧ w' = w) := by
  have h := Uint64_any g n v w hn hx
  clear hn
  have H_h := Lib.hid h; clear h
  have H_hx := Lib.hid hx; clear hx
  go_enter Tryz.func130, Tryz.ntmps130
  go_wp2_with (fail)
  refine H_h.out.mono ?_
  rintro e w2 ⟨rfl, rfl⟩
  go_wp2
  go_ret
  exact ⟨rfl, rfl⟩

theorem bquoRem_any (bz bx bY br : Nat) (vz vx vy vr : Value) (nz nx y nr : Nat) (w : World) (hn : nx < wpow 39) (hy2 : 2 ≤ y) (hyb : y < 18446744073709551616) (hne : bz ≠ br)
    (hz : BI w bz vz nz) (hx : BI w bx vx nx) (hy : BI w bY vy y) (hr : BI w br vr nr) (hs : Sep vz vx) (ha : ∀ k, vz.ownBlock = some k → vr.ownBlock ≠ some k) :
    Calls Tryz.prog 150 #[.pointer (some ⟨bz, 0, none⟩), .pointer (some ⟨bx, 0, none⟩), .pointer (some ⟨bY, 0, none⟩), .pointer (some ⟨br, 0, none⟩)] w
      (fun e w' => e = .returned (.tuple #[]) ∧ QRSet w bz br vz vr (nx / y) (nx % y) w') := by
  have h := QuoRem_any bz bx bY br vz vx vy vr nz nx y nr w hn hy2 hyb hne hz hx hy hr hs ha
  clear hn hy2 hyb hne hz hx hy hr hs ha
  have H_h := Lib.hid h; clear h
  go_enter Tryz.func150, Tryz.ntmps150
  go_wp2_with (fail)
  refine H_h.out.mono ?_
  rintro e w2 ⟨rfl, hb⟩
  have H_hb := Lib.hid hb; clear hb
  go_wp2
  go_end0
  exact ⟨rfl, H_hb.out⟩

theorem badd_any (bz bx bY : Nat) (vz vx vy : Value) (nz nx ny : Nat) (w : World) (hn : nx < wpow 39) (hm : ny < wpow 39)
    (hz : BI w bz vz nz) (hx : BI w bx vx nx) (hy : BI w bY vy ny) (hsx : Sep vz vx) (hsy : Sep vz vy) :
    Calls Tryz.prog 105 #[.pointer (some ⟨bz, 0, none⟩), .pointer (some ⟨bx, 0, none⟩), .pointer (some ⟨bY, 0, none⟩)] w (fun e w' => e = .returned (.tuple #[]) ∧ BSet w bz vz (nx + ny) w') := by
  obtain ⟨lz, hz, _⟩ := hz
  obtain ⟨lx, hx, rfl⟩ := hx
  obtain ⟨ly, hy, rfl⟩ := hy
  have h1 := hx.norm.len_le hn
  have h2 := hy.norm.len_le hm
  have h := Int_Add bz 0 bx 0 bY 0 false false false vz vx vy lz lx ly w (by omega) (by omega) hz hx hy hsx hsy
  have e : ival false lx + ival false ly = ((val lx + val ly : Nat) : Int) := by simp [ival]
  rw [e] at h
  clear hn hm hz hx hy hsx hsy h1 h2 e
  generalize val lx + val ly = r at *
  have H_h := Lib.hid h; clear h
  go_enter Tryz.func105, Tryz.ntmps105
  go_wp2_with (fail)
  refine H_h.out.mono ?_
  intro e w2 hr
  obtain ⟨rfl, hb⟩ := hr.bset
  clear hr
  have H_hb := Lib.hid hb; clear hb
  go_wp2
  go_end0
  exact ⟨rfl, H_hb.out⟩

theorem bsub_any (bz bx bY : Nat) (vz vx vy : Value) (nz nx ny : Nat) (w : World) (hn : nx < wpow 39) (hm : ny ≤ nx)
    (hz : BI w bz vz nz) (hx : BI w bx vx nx) (hy : BI w bY vy ny) (hsx : Sep vz vx) (hsy : Sep vz vy) :
    Calls Tryz.prog 125 #[.pointer (some ⟨bz, 0, none⟩), .pointer (some ⟨bx, 0, none⟩), .pointer (some ⟨bY, 0, none⟩)] w (fun e w' => e = .returned (.tuple #[]) ∧ BSet w bz vz (nx - ny) w') := by
  obtain ⟨lz, hz, _⟩ := hz
  obtain ⟨lx, hx, rfl⟩ := hx
  obtain ⟨ly, hy, rfl⟩ := hy
  have h1 := hx.norm.len_le hn
  have h2 := hy.norm.len_le (Nat.lt_of_le_of_lt hm hn)
  have h := Int_Sub bz 0 bx 0 bY 0 false false false vz vx vy lz lx ly w (by omega) (by omega) hz hx hy hsx hsy
  have e : ival false lx - ival false ly = ((val lx - val ly : Nat) : Int) := by simp [ival]; omega
  rw [e] at h
  clear hn hm hz hx hy hsx hsy h1 h2 e
  generalize val lx - val ly = r at *
  have H_h := Lib.hid h; clear h
  go_enter Tryz.func125, Tryz.ntmps125
  go_wp2_with (fail)
  refine H_h.out.mono ?_
  intro e w2 hr
  obtain ⟨rfl, hb⟩ := hr.bset
  clear hr
  have H_hb := Lib.hid hb; clear hb
  go_wp2
  go_end0
  exact ⟨rfl, H_hb.out⟩

end Go.Proofs.YtjdfapoomjeabaaGreatDoor

/- big: nat.lsh by 1 of a number of one word; Int.Lsh, bint.dbl. -/
namespace Go.Proofs.YtjdfapoomjeabaaGreatDoor
open Go.RowKit

/-- clear, over no cell -/
theorem wpList_clear_none {P : Program} {w : World} {ops : Array Oper} {rest : List Oper} {o : Oper} {a : Act} {Q : Exit → Act → World → Prop} (hgd : o.guard = none) (d : Operand) (dT : TypeId)
    (ho : o.op = .call { callee := .builtin .clear, args := #[d], argTypes := #[dT] }) (elem : TypeId) (hu : P.underlying dT = some (.slice elem)) (a0 : Option Addr) (c : Nat)
    (hd : a.eval d = .slice a0 0 c) (h : wpList P ops Q rest (a.put o.dst (.tuple #[])) w) : wpList P ops Q (o :: rest) a w := by
  refine wpList_plain hgd fun K hK => ?_
  have hrun : (Builtin.clear_ #[dT] o.type #[.slice a0 0 c]).run P w = .ok (.tuple #[]) w := by
    cases a0 <;> simp [Builtin.clear_, run_underlying hu, Result.andThen]
  unfold Oper.wp
  simp [execOp, ho, resolve, invoke, builtin, hd, hrun, Result.andThen]
  exact hK _ _ h

set_option maxRecDepth 20000 in
set_option maxHeartbeats 1000000 in
theorem lshVU_one (g off cap gx ox cx r : Nat) (L : List Nat) (w : World) (bz : Blk .u64 w g L) (ho : off + 1 ≤ L.length)
    (hc : w.cell? ⟨gx, ox, none⟩ = some (wd .u64 r)) :
    Calls Tryz.prog 208 #[.slice (some ⟨g, off, none⟩) 1 cap, .slice (some ⟨gx, ox, none⟩) 1 cx, .int .u64 1] w
      (fun e w' => e = .returned (.int .u64 ((r / 9223372036854775808 : Nat) : Int)) ∧ Puts .u64 g (L.set off (2 * r % 18446744073709551616)) w w') := by
  have hcz := bz.cell (o := off) (by omega)
  have hfz := bz.frozen off
  have hl : Calls Tryz.prog 237 #[.slice (some ⟨g, off, none⟩) 1 cap, .slice (some ⟨gx, ox, none⟩) 1 cx, .int .u64 1] w
      (fun e w' => e = .returned (.int .u64 ((r / 9223372036854775808 : Nat) : Int)) ∧ Puts .u64 g (L.set off (2 * r % 18446744073709551616)) w w') := by
    generalize L.getD off 0 = z0 at *
    have b1 : bits BinOp.and IntKind.u64 1 63 = 1 := by decide
    have b2 : IntKind.u64.wrap (64 - 1) = 63 := by decide
    have b3 : bits BinOp.and IntKind.u64 63 63 = 63 := by decide
    have b4 : IntKind.u64.wrap ((r : Int) * 2) = ((2 * r % 18446744073709551616 : Nat) : Int) := by
      rw [show (r : Int) * 2 = ((2 * r : Nat) : Int) by omega]; exact wrap_u64_mod _
    have b5 : ((r / 9223372036854775808 : Nat) : Int) = (r : Int) / 9223372036854775808 := by omega
    rw [b5]
    generalize 2 * r % 18446744073709551616 = z1 at *
    clear b5
    have H_bz := Lib.hid bz; clear bz
    have H_ho := Lib.hid ho; clear ho
    go_enter Tryz.func237, Tryz.ntmps237
    go_wp2
    refine wp_loop_rounds 1 ?_
    rw [rounds_succ]
    go_wp2
    go_ret
    exact ⟨rfl, (Puts.refl H_bz.out).set off z1⟩
  clear hcz hfz hc
  have H_bz := Lib.hid bz; clear bz
  have H_hl := Lib.hid hl; clear hl
  go_enter Tryz.func208, Tryz.ntmps208
  go_wp2_with (fail)
  refine H_hl.out.mono ?_
  rintro e w2 ⟨rfl, hp⟩
  have H_hp := Lib.hid hp; clear hp
  go_wp2
  go_ret
  exact ⟨rfl, H_hp.out⟩

set_option maxRecDepth 20000 in
set_option maxHeartbeats 1000000 in
theorem lsh_word (zv xv : Value) (zl xl : List Nat) (w : World) (hn : xl.length ≤ 1) (h : NatAt w zv zl) (hx : NatAt w xv xl) (hs : Sep zv xv) :
    Calls Tryz.prog 182 #[zv, xv, .int .u64 1] w (NatRet w zv (2 * val xl)) := by
  by_cases h0 : xl.length = 0
  · obtain ⟨a, c, hv⟩ := h.form
    obtain ⟨ax, cx, hxv⟩ := hx.form
    have hr : NatRet w zv 0 (.returned (.slice a 0 c)) w := NatRet.empty h hv
    have e0 : 2 * val xl = 0 := by rw [List.eq_nil_of_length_eq_zero h0]; rfl
    rw [e0]
    rw [h0] at hxv
    generalize zl.length = nz at *
    subst hv hxv
    clear hn h0 e0
    have H_h := Lib.hid h; clear h
    have H_hx := Lib.hid hx; clear hx
    have H_hs := Lib.hid hs; clear hs
    have H_hr := Lib.hid hr; clear hr
    go_enter Tryz.func182, Tryz.ntmps182
    go_wp2
    go_ret
    exact H_hr.out
  · obtain ⟨gx, ox, cx, M, rfl, bx, hx1, hx2, hx3, hx4⟩ := hx.open_pos (by omega)
    have hm := make_any zv zl 2 w (by omega) (by omega) h
    have hgx := bx.lt
    have hl1 : xl.length = 1 := by omega
    obtain ⟨r, rfl⟩ : ∃ r, xl = [r] := List.length_eq_one_iff.1 hl1
    have hr : r < 18446744073709551616 := hx.bnd r (by simp)
    have hgd : M.getD ox 0 = r := by
      have := hx3
      rw [hl1, seg_head (by omega), seg_zero] at this
      simpa using this.symm
    rw [hl1]
    have ev : 2 * val [r] = 2 * r := by simp [val]
    rw [ev]
    clear ev hx3 hn h0 hl1
    have H_h := Lib.hid h; clear h
    have H_hx := Lib.hid hx; clear hx
    have H_hs := Lib.hid hs; clear hs
    have H_bx := Lib.hid bx; clear bx
    have H_hx1 := Lib.hid hx1; clear hx1
    have H_hx2 := Lib.hid hx2; clear hx2
    have H_hx4 := Lib.hid hx4; clear hx4
    have H_hgd := Lib.hid hgd; clear hgd
    have H_hr := Lib.hid hr; clear hr
    go_enter Tryz.func182, Tryz.ntmps182
    go_wp2_with (fail)
    refine hm.mono ?_
    intro e w1 hm
    obtain ⟨g, off, cap, L, rfl, hb, h1, h2, h3, h4, h5, hcap⟩ := hm.split
    clear hm
    have hcx := (H_bx.out.keep h4.out (fun h => h)).cell (o := ox) (by have := H_hx1.out; have := H_hx2.out; have : [r].length = 1 := rfl; omega)
    rw [H_hgd.out] at hcx
    have hls := fun c => lshVU_one g off c gx ox cx r L w1 hb.out (by have := h2.out; omega) hcx
    clear hcx
    have H_hls := Lib.hid hls; clear hls
    go_wp2_with (fail)
    refine (H_hls.out _).mono ?_
    rintro e w2 ⟨rfl, hp⟩
    have cc1 := hp.blk.cell (o := off + 1) (by have := h2.out; rw [List.length_set]; omega)
    have cc2 := hp.blk.frozen (off + 1)
    have p6 := hp.set (off + 1) (r / 9223372036854775808)
    generalize (L.set off (2 * r % 18446744073709551616)).getD (off + 1) 0 = z9 at *
    have H_hp := Lib.hid hp; clear hp
    have H_p6 := Lib.hid p6; clear p6
    go_wp2_with (refine wpList_clear_none (o := ⟨none, _, _, _, _, _⟩) rfl (.tmp 68) 116 rfl 135 Tryz.underlying116 _ _ (by rfl) ?_)
    generalize wr6 : w2.setCell ⟨g, off + 1, none⟩ (.int .u64 ((r : Int) / 9223372036854775808)) = w3 at *
    have e5 : w2.setCell ⟨g, off + 1, none⟩ (.int .u64 ((r / 9223372036854775808 : Nat) : Int)) = w3 := by
      rw [← wr6, show ((r / 9223372036854775808 : Nat) : Int) = (r : Int) / 9223372036854775808 by omega]
    have p7 := H_p6.out
    rw [e5] at p7
    have hB := H_hr.out
    have hlt : ∀ a ∈ (L.set off (2 * r % 18446744073709551616)).set (off + 1) (r / 9223372036854775808), a < 18446744073709551616 := by
      intro a ha
      rcases List.mem_or_eq_of_mem_set ha with ha | rfl
      · rcases List.mem_or_eq_of_mem_set ha with ha | rfl
        · exact h3.out a ha
        · exact Nat.mod_lt _ (by omega)
      · omega
    have hna : NatAt w3 (.slice (some ⟨g, off, none⟩) 2 cap) [2 * r % 18446744073709551616, r / 9223372036854775808] := by
      have := NatAt.mk (n := 2) (off := off) hcap p7.blk (by omega) (by rw [List.length_set, List.length_set]; exact h2.out) hlt
      rw [seg_head (by rw [List.length_set, List.length_set]; have := h2.out; omega), seg_head (by rw [List.length_set, List.length_set]; have := h2.out; omega), seg_zero,
        getD_set _ _ _ _ (by rw [List.length_set]; have := h2.out; omega), if_neg (by omega), getD_set _ _ _ _ (by have := h2.out; omega), if_pos rfl,
        getD_set _ _ _ _ (by rw [List.length_set]; have := h2.out; omega), if_pos rfl] at this
      exact this
    have hno := norm_any _ _ _ (by simp) hna
    have hvv : val [2 * r % 18446744073709551616, r / 9223372036854775808] = 2 * r := by simp only [val]; omega
    rw [hvv] at hno
    clear wr6 e5 hlt hvv hB
    have H_hna := Lib.hid hna; clear hna
    have H_hno := Lib.hid hno; clear hno
    have H_p7 := Lib.hid p7; clear p7
    refine H_hno.out.mono ?_
    rintro e w7 ⟨rv, l, rfl, h6, hnorm, hval, hown, rfl⟩
    have H_h6 := Lib.hid h6; clear h6
    have H_hnorm := Lib.hid hnorm; clear hnorm
    have H_hval := Lib.hid hval; clear hval
    have H_hown := Lib.hid hown; clear hown
    go_wp2
    go_ret
    exact ⟨rv, l, rfl, NatOp.of h5.out h4.out H_p7.out.keep H_h6.out (fun k hk => by have := H_hown.out k hk; simpa [Value.ownBlock] using this.symm), H_hnorm.out, H_hval.out⟩

set_option maxRecDepth 20000 in
set_option maxHeartbeats 2000000 in
theorem Lsh_self (b n : Nat) (vz : Value) (w : World) (hn : n < 18446744073709551616) (hz : BI w b vz n) :
    Calls Tryz.prog 170 #[.pointer (some ⟨b, 0, none⟩), .pointer (some ⟨b, 0, none⟩), .int .u64 1] w (IntRet w b 0 vz ((2 * n : Nat) : Int)) := by
  obtain ⟨lz, hz, rfl⟩ := hz
  have hl : lz.length ≤ 1 := hz.norm.len_le (by unfold wpow; omega)
  have hc := lsh_word vz vz lz lz w.drew hl hz.nat.drew hz.nat.drew (.inl rfl)
  have cz1 := hz.str.c1
  rw [Nat.zero_add] at cz1
  have nz : ¬ (vz.ownBlock = some b) := fun e => IntIs.ne hz.str hz.nat e rfl
  clear hn hl
  have H_hc := Lib.hid hc; clear hc
  have H_hz := Lib.hid hz; clear hz
  have H_nz := Lib.hid nz; clear nz
  go_enter Tryz.func170, Tryz.ntmps170
  go_wp2_with (fail)
  refine wp_region_E (S := (fun (w' : World) => w'.cell? ⟨b, 1, none⟩ = some vz)) 13 (by kernel_rfl) (by exact cz1) (fun hHeld => ?_)
  refine wpAnyE_takeP (i := 0) (v := ?v0_1) rfl (by kernel_rfl) (fun _ _ _ h => h) ⟨by rfl, ?y0_1⟩ (by assumption) ?r0_1
  case y0_1 => (intro w; go_simp; try with_reducible rfl)
  try simp only [Act.put, yA, yB, yD, yE, yF]
  refine wpAnyE_takeP (i := 1) (v := ?v1_1) rfl (by kernel_rfl) (fun _ _ _ h => h) ⟨by rfl, ?y1_1⟩ (by assumption) ?r1_1
  case y1_1 => (intro w; go_simp; try with_reducible rfl)
  try simp only [Act.put, yA, yB, yC, yD, yE, yF]
  refine wpAnyE_takeP (i := 2) (v := ?v2_1) rfl (by kernel_rfl) (fun _ _ _ h => h) ⟨by rfl, ?y2_1⟩ (by assumption) ?r2_1
  case y2_1 => (intro w; go_simp; try with_reducible rfl)
  try simp only [Act.put, yA, yB, yC, yD, yE, yF]
  refine wpAnyE_takeP (i := 3) (v := ?v3_1) rfl (by kernel_rfl) (fun _ _ _ h => h) ⟨by rfl, ?y3_1⟩ (by assumption) ?r3_1
  case y3_1 => (intro w; go_simp; try with_reducible rfl)
  try simp only [Act.put, yA, yB, yC, yD, yE, yF]
  refine wpAnyE_takeL (i := 4) (c := 10) (v := ?v4_1) rfl (by kernel_rfl) (fun _ _ _ h => h) ⟨by rfl, ?y4_1⟩ (by assumption) ?r4_1
  case y4_1 => (intro w hSw; go_split_ands; go_simp; try with_reducible rfl)
  try simp only [Act.put, yA, yB, yC, yD, yE, yF]
  refine wpAnyE_takeP (i := 5) (v := ?v5_1) rfl (by kernel_rfl) (fun _ _ _ h => h) ⟨by rfl, ?y5_1⟩ (by assumption) ?r5_1
  case y5_1 => (intro w; go_simp; try with_reducible rfl)
  try simp only [Act.put, yA, yB, yC, yD, yE, yF]
  refine wpAnyE_takeP (i := 6) (v := ?v6_1) rfl (by kernel_rfl) (fun _ _ _ h => h) ⟨by rfl, ?y6_1⟩ (by assumption) ?r6_1
  case y6_1 => (intro w; go_simp; try with_reducible rfl)
  try simp only [Act.put, yA, yB, yC, yD, yE, yF]
  refine wpAnyE_takeP (i := 7) (v := ?v7_1) rfl (by kernel_rfl) (fun _ _ _ h => h) ⟨by rfl, ?y7_1⟩ (by assumption) ?r7_1
  case y7_1 => (intro w; go_simp; try with_reducible rfl)
  try simp only [Act.put, yA, yB, yC, yD, yE, yF]
  refine wpAnyE_takeL (i := 8) (c := 10) (v := ?v8_1) rfl (by kernel_rfl) (fun _ _ _ h => h) ⟨by rfl, ?y8_1⟩ (by assumption) ?r8_1
  case y8_1 => (intro w hSw; go_split_ands; go_simp; try with_reducible rfl)
  try simp only [Act.put, yA, yB, yC, yD, yE, yF]
  refine wpAnyE_takeP (i := 9) (v := ?v9_1) rfl (by kernel_rfl) (fun _ _ _ h => h) ⟨by rfl, ?y9_1⟩ (by assumption) ?r9_1
  case y9_1 => (intro w; go_simp; try with_reducible rfl)
  try simp only [Act.put, yA, yB, yC, yD, yE, yF]
  refine wpAnyE_one (i := 10) rfl (by kernel_rfl) (fun K hK => ?_)
  go_simp
  refine H_hc.out.mono ?_; rintro e w1 hr; obtain ⟨rv, l, rfl, hop, hnorm, hval⟩ := hr; have hop := hop.of_drew; have kz := (H_hz.out.str.keep hop.keep H_nz.out).c1; have kf := (H_hz.out.str.keep hop.keep H_nz.out).f1; have kf0 := (H_hz.out.str.keep hop.keep H_nz.out).f0; have kz0 := (H_hz.out.str.keep hop.keep H_nz.out).c0; rw [Nat.zero_add] at kz kf; obtain ⟨ra, rc, hrv⟩ := hop.nat.form; generalize hll : l.length = nl at *; subst hrv; have H_hop := Lib.hid hop; have H_hnorm := Lib.hid hnorm; have H_hval := Lib.hid hval; have H_hll := Lib.hid hll; clear hop hnorm hval hll
  go_wp2_with (fail)
  have hHeldB : ((fun (w' : World) => w'.cell? ⟨b, 1, none⟩ = some vz)) _ := kz
  refine hK.out _ _ (fun _ => hHeldB) ?_
  clear hK K
  try simp only [Act.put, yA, yB, yC, yD, yE, yF]
  refine wpAnyE_takeP (i := 11) (v := ?v11_1) rfl (by kernel_rfl) (fun _ _ _ h => h) ⟨by rfl, ?y11_1⟩ (by assumption) ?r11_1
  case y11_1 => (intro w; go_simp; try with_reducible rfl)
  try simp only [Act.put, yA, yB, yC, yD, yE, yF]
  refine wpAnyE_takeP (i := 12) (v := ?v12_1) rfl (by kernel_rfl) (fun _ _ _ h => h) ⟨by rfl, ?y12_1⟩ (by assumption) ?r12_1
  case y12_1 => (intro w; go_simp; try with_reducible rfl)
  try simp only [Act.put, yA, yB, yC, yD, yE, yF]
  refine wpAnyE_one (i := 13) rfl (by kernel_rfl) (fun K hK => ?_)
  go_simp
  refine hK.out _ _ (fun h => Bool.noConfusion (show true = false from h)) ?_
  clear hK K
  try simp only [Act.put, yA, yB, yC, yD, yE, yF]
  refine wpAnyE_done (by kernel_rfl) ?_ _
  clear hHeldB
  have kz0' : (w1.setCell ⟨b, 1, none⟩ (.slice ra nl rc)).cell? ⟨b, 0, none⟩ = some (.bool false) := (cell?_setCell_ne (.inr (by simp))).trans kz0
  have kf0' : (w1.setCell ⟨b, 1, none⟩ (.slice ra nl rc)).frozen? ⟨b, 0, none⟩ = false := (frozen?_setCell' _ _ _ _).trans kf0
  clear cz1 kz kf kf0 kz0
  go_wp2_with (fail)
  go_ret
  exact ⟨rfl, IntIs.made H_hz.out.str H_hz.out.nat H_hop.out H_hnorm.out false (fun _ => rfl) _ (by simp [ival, H_hval.out]) rfl⟩

theorem dbl_self (g n : Nat) (v : Value) (w : World) (hn : n < 18446744073709551616) (hz : BI w g v n) :
    Calls Tryz.prog 151 #[.pointer (some ⟨g, 0, none⟩), .pointer (some ⟨g, 0, none⟩)] w (fun e w' => e = .returned (.tuple #[]) ∧ BSet w g v (2 * n) w') := by
  have h := Lsh_self g n v w hn hz
  clear hn hz
  generalize 2 * n = r at *
  have H_h := Lib.hid h; clear h
  go_enter Tryz.func151, Tryz.ntmps151
  go_wp2_with (fail)
  refine H_h.out.mono ?_
  intro e w2 hr
  obtain ⟨rfl, hb⟩ := hr.bset
  clear hr
  have H_hb := Lib.hid hb; clear hb
  go_wp2
  go_end0
  exact ⟨rfl, H_hb.out⟩

end Go.Proofs.YtjdfapoomjeabaaGreatDoor

/- bint: inc, subAbs, hasPrec, rshHalfEven. -/
namespace Go.Proofs.YtjdfapoomjeabaaGreatDoor
open Go.RowKit

theorem BSet.of_fresh {w w1 w' : World} {g n : Nat} {v : Value} (hf : Fresh w w1) (h : BSet w1 g v n w') : BSet w g v n w' := by
  obtain ⟨u, h1, h2, h3⟩ := h
  refine ⟨u, h1, hf.trans h2 (fun _ _ h => h.elim) (fun _ _ h => h), fun k hk => ?_⟩
  rcases h3 k hk with h | h
  · exact .inl h
  · exact .inr (Nat.le_trans hf.size h)

/-- set twice -/
theorem BSet.trans {w w1 w' : World} {g a n : Nat} {v u : Value} (_hb : BI w1 g u a) (hk : Keep (fun k => k = g ∨ v.ownBlock = some k) w w1) (ho : ∀ k, u.ownBlock = some k → v.ownBlock = some k ∨ w.heap.size ≤ k) (h : BSet w1 g u n w') : BSet w g v n w' := by
  obtain ⟨x, h1, h2, h3⟩ := h
  refine ⟨x, h1, hk.trans h2 (fun _ _ h => h) (fun k hlt h => ?_), fun k hk' => ?_⟩
  · rcases h with h | h
    · exact .inl h
    · rcases ho k h with h' | h'
      · exact .inr h'
      · omega
  · rcases h3 k hk' with h | h
    · exact ho k h
    · exact .inr (Nat.le_trans hk.size h)

theorem inc_self (g n : Nat) (v : Value) (w : World) (hG : Glob w) (hP : Pow10s w) (hn : n < wpow 39) (hz : BI w g v n) :
    Calls Tryz.prog 152 #[.pointer (some ⟨g, 0, none⟩), .pointer (some ⟨g, 0, none⟩)] w (fun e w' => e = .returned (.tuple #[]) ∧ BSet w g v (n + 1) w') := by
  have hb := bpow10_any 0 w hG hP (by omega)
  clear hG hP
  have H_hz := Lib.hid hz; clear hz
  have H_hb := Lib.hid hb; clear hb
  have H_hn := Lib.hid hn; clear hn
  go_enter Tryz.func152, Tryz.ntmps152
  go_wp2_with (fail)
  refine H_hb.out.mono ?_
  rintro e w1 ⟨h, u, rfl, b1, l1, o1, f1⟩
  have hadd := badd_any g g h v v u n n (10 ^ 0) w1 H_hn.out (by unfold wpow; decide) (H_hz.out.fresh f1) (H_hz.out.fresh f1) b1 (.inl rfl) (.inr (fun k hk e => by have := H_hz.out.own_lt hk; have := o1 k e; omega))
  have H_b1 := Lib.hid b1; clear b1
  have H_l1 := Lib.hid l1; clear l1
  have H_o1 := Lib.hid o1; clear o1
  have H_f1 := Lib.hid f1; clear f1
  have H_hadd := Lib.hid hadd; clear hadd
  go_wp2_with (fail)
  refine H_hadd.out.mono ?_
  rintro e w2 ⟨rfl, hs⟩
  have H_hs := Lib.hid hs; clear hs
  go_wp2
  go_end0
  exact ⟨rfl, BSet.of_fresh H_f1.out (by simpa using H_hs.out)⟩

/-- has the number 20 digits or more? -/
theorem hasPrec20 (g n : Nat) (v : Value) (w : World) (hG : Glob w) (hP : Pow10s w) (hn : n < wpow 39) (hz : BI w g v n) :
    Calls Tryz.prog 129 #[.pointer (some ⟨g, 0, none⟩), .int .i64 20] w (fun e w' => e = .returned (.bool (decide (10000000000000000000 ≤ n))) ∧ Fresh w w') := by
  have hb := bpow10_any 19 w hG hP (by omega)
  clear hG hP
  have hc : decide (0 ≤ cmpN n (10 ^ 19)) = decide (10000000000000000000 ≤ n) := by
    rw [show (10 : Nat) ^ 19 = 10000000000000000000 from rfl]
    unfold cmpN
    by_cases h : n < 10000000000000000000
    · rw [if_pos h, decide_eq_false (show ¬ 10000000000000000000 ≤ n by omega)]; rfl
    · rw [if_neg h, decide_eq_true (show 10000000000000000000 ≤ n by omega)]
      split <;> rfl
  have h10 : 10 ^ 19 < wpow 39 := wpow_big (by decide)
  generalize (10 : Nat) ^ 19 = y at *
  generalize decide (10000000000000000000 ≤ n) = r at *
  have H_hz := Lib.hid hz; clear hz
  have H_hb := Lib.hid hb; clear hb
  have H_hn := Lib.hid hn; clear hn
  have H_h10 := Lib.hid h10; clear h10
  obtain ⟨c, hcc⟩ : ∃ c, c = cmpN n y := ⟨_, rfl⟩
  rw [← hcc] at hc
  have H_hcc := Lib.hid hcc; clear hcc
  go_enter Tryz.func129, Tryz.ntmps129
  go_wp2_with (fail)
  refine H_hb.out.mono ?_
  rintro e w1 ⟨h, u, rfl, b1, l1, o1, f1⟩
  have hcmp := bcmp_any g h v u n y w1 H_hn.out H_h10.out (by have := H_hz.out.lt; omega) (H_hz.out.fresh f1) b1
  rw [← H_hcc.out] at hcmp
  have H_b1 := Lib.hid b1; clear b1
  have H_l1 := Lib.hid l1; clear l1
  have H_o1 := Lib.hid o1; clear o1
  have H_f1 := Lib.hid f1; clear f1
  have H_hcmp := Lib.hid hcmp; clear hcmp
  go_wp2_with (fail)
  refine H_hcmp.out.mono ?_
  rintro e w2 ⟨rfl, q, rfl⟩
  go_wp2
  go_ret
  exact ⟨rfl, H_f1.out.trans (fresh_drewN _ _) (fun _ _ h => h) (fun _ _ h => h)⟩

theorem subAbs_any (g h n m : Nat) (v u : Value) (w : World) (hn : n < wpow 39) (hm : m < wpow 39) (hne : g ≠ h) (hz : BI w g v n) (hy : BI w h u m) (hs : Sep v u) :
    Calls Tryz.prog 107 #[.pointer (some ⟨g, 0, none⟩), .pointer (some ⟨g, 0, none⟩), .pointer (some ⟨h, 0, none⟩)] w (fun e w' => e = .returned (.tuple #[]) ∧ BSet w g v (if m ≤ n then n - m else m - n) w') := by
  have hcmp := bcmp_any g h v u n m w hn hm hne hz hy
  rcases Nat.lt_or_ge m n with hlt | hge
  · have hc : cmpN n m = 1 := by unfold cmpN; rw [if_neg (by omega), if_pos hlt]
    rw [hc] at hcmp
    rw [if_pos (by omega)]
    have hsub := fun q => bsub_any g g h v v u n n m (w.drewN q) hn (by omega) (hz.fresh (fresh_drewN _ _)) (hz.fresh (fresh_drewN _ _)) (hy.fresh (fresh_drewN _ _)) (.inl rfl) hs
    clear hc
    have H_hn := Lib.hid hn; clear hn
    have H_hm := Lib.hid hm; clear hm
    have H_hz := Lib.hid hz; clear hz
    have H_hy := Lib.hid hy; clear hy
    have H_hs := Lib.hid hs; clear hs
    have H_hcmp := Lib.hid hcmp; clear hcmp
    have H_hsub := Lib.hid hsub; clear hsub
    go_enter Tryz.func107, Tryz.ntmps107
    go_wp2_with (fail)
    refine H_hcmp.out.mono ?_
    rintro e w2 ⟨rfl, q, rfl⟩
    go_wp2_with (fail)
    refine (H_hsub.out q).mono ?_
    rintro e w3 ⟨rfl, hb⟩
    have H_hb := Lib.hid hb; clear hb
    go_wp2
    go_end0
    exact ⟨rfl, BSet.of_fresh (fresh_drewN _ _) H_hb.out⟩
  · have hc : (cmpN n m == 1) = false := by
      unfold cmpN
      split
      · rfl
      · rw [if_neg (by omega)]; rfl
    have he : (if m ≤ n then n - m else m - n) = m - n := by split <;> omega
    rw [he]
    have hsub := fun q => bsub_any g h g v u v n m n (w.drewN q) hm hge (hz.fresh (fresh_drewN _ _)) (hy.fresh (fresh_drewN _ _)) (hz.fresh (fresh_drewN _ _)) hs (.inl rfl)
    generalize cmpN n m = c at *
    clear he
    have H_hn := Lib.hid hn; clear hn
    have H_hm := Lib.hid hm; clear hm
    have H_hz := Lib.hid hz; clear hz
    have H_hy := Lib.hid hy; clear hy
    have H_hs := Lib.hid hs; clear hs
    have H_hcmp := Lib.hid hcmp; clear hcmp
    have H_hsub := Lib.hid hsub; clear hsub
    go_enter Tryz.func107, Tryz.ntmps107
    go_wp2_with (fail)
    refine H_hcmp.out.mono ?_
    rintro e w2 ⟨rfl, q, rfl⟩
    go_wp2_with (fail)
    refine (H_hsub.out q).mono ?_
    rintro e w3 ⟨rfl, hb⟩
    have H_hb := Lib.hid hb; clear hb
    go_wp2
    go_end0
    exact ⟨rfl, BSet.of_fresh (fresh_drewN _ _) H_hb.out⟩

theorem cmpN_three (a b : Nat) : (cmpN a b = -1 ∧ a < b) ∨ (cmpN a b = 0 ∧ a = b) ∨ (cmpN a b = 1 ∧ b < a) := by
  unfold cmpN
  rcases Nat.lt_trichotomy a b with h | h | h
  · left; rw [if_pos h]; exact ⟨rfl, h⟩
  · right; left; subst h; rw [if_neg (by omega), if_neg (by omega)]; exact ⟨rfl, rfl⟩
  · right; right; rw [if_neg (by omega), if_pos h]; exact ⟨rfl, h⟩

set_option maxRecDepth 20000 in
theorem brsh_zero (g s : Nat) (v : Value) (w : World) (hz : BI w g v 0) :
    Calls Tryz.prog 128 #[.pointer (some ⟨g, 0, none⟩), .pointer (some ⟨g, 0, none⟩), .int .i64 s] w (fun e w' => e = .returned (.tuple #[]) ∧ BSet w g v 0 w') := by
  have hsg := bsign_any g 0 v w hz
  rw [if_pos rfl] at hsg
  have hset := setFint_any g v 0 0 w (by omega) hz
  have H_hz := Lib.hid hz; clear hz
  have H_hsg := Lib.hid hsg; clear hsg
  have H_hset := Lib.hid hset; clear hset
  go_enter_defers Tryz.func128, Tryz.ntmps128
  go_wp2_with (fail)
  refine H_hsg.out.mono ?_
  rintro e w1 ⟨rfl, rfl⟩
  go_wp2_with (fail)
  refine H_hset.out.mono ?_
  rintro e w2 ⟨rfl, hb⟩
  have H_hb := Lib.hid hb; clear hb
  go_wp2_with (fail)
  refine ⟨.tuple #[], ?_, ?_⟩
  · simp [results, Tryz.results128]
  · exact ⟨rfl, H_hb.out⟩

/-- the whole number n lies in block g; it and its words were made since w0 -/
def OB (w0 w : World) (g n : Nat) : Prop := ∃ v, BI w g v n ∧ w0.heap.size ≤ g ∧ (∀ k, v.ownBlock = some k → w0.heap.size ≤ k) ∧ Fresh w0 w

theorem OB.set {w0 w w' : World} {g n m : Nat} {v : Value} (hg : w0.heap.size ≤ g) (hv : ∀ k, v.ownBlock = some k → w0.heap.size ≤ k) (hf : Fresh w0 w) (_ : BI w g v n) (h : BSet w g v m w') : OB w0 w' g m := by
  obtain ⟨u, h1, h2, h3⟩ := h.fresh_of hf hg hv
  exact ⟨u, h1, hg, h2, h3⟩

theorem OB.fresh {w0 w w' : World} {g n : Nat} (h : OB w0 w g n) (hf : Fresh w w') : OB w0 w' g n := by
  obtain ⟨v, h1, h2, h3, h4⟩ := h
  exact ⟨v, h1.fresh hf, h2, h3, h4.trans hf (fun _ _ h => h) (fun _ _ h => h)⟩

set_option maxRecDepth 20000 in
set_option maxHeartbeats 4000000 in
theorem brsh_pos (w0 w : World) (g n s : Nat) (v : Value) (hG : Glob w0) (hP : Pow10s w0) (hf : Fresh w0 w) (hgl : w0.heap.size ≤ g) (hvl : ∀ k, v.ownBlock = some k → w0.heap.size ≤ k)
    (hn : n < wpow 39) (h0 : 0 < n) (hs1 : 1 ≤ s) (hs : s ≤ 19) (hz : BI w g v n) :
    Calls Tryz.prog 128 #[.pointer (some ⟨g, 0, none⟩), .pointer (some ⟨g, 0, none⟩), .int .i64 s] w (fun e w' => e = .returned (.tuple #[]) ∧ BSet w g v (rhe n (10 ^ s)) w') := by
  have hsg := bsign_any g n v w hz
  rw [if_neg (by omega)] at hsg
  have t1 : decide (s = 0) = false := by simp; omega
  have t2 : decide ((s : Int) < 100) = true := by simp; omega
  have hy2 : 2 ≤ 10 ^ s := Nat.le_trans (by decide : 2 ≤ 10 ^ 1) (Nat.pow_le_pow_right (by omega) hs1)
  have hyb : 10 ^ s ≤ 10000000000000000000 := Nat.le_trans (Nat.pow_le_pow_right (by omega) hs) (by decide : 10 ^ 19 ≤ 10000000000000000000)
  have hbp : ∀ W, Fresh w0 W → Calls Tryz.prog 121 #[.int .i64 s] W (BRet W (10 ^ s)) := fun W h => bpow10_any s W (hG.fresh h) (hP.fresh h) hs
  have hgs : NG ≤ w.heap.size := Nat.le_trans hG.size hf.size
  have hqn : n / 10 ^ s < wpow 39 := Nat.lt_of_le_of_lt (Nat.div_le_self _ _) hn
  have hrn : n % 10 ^ s < 10 ^ s := Nat.mod_lt _ (by omega)
  have hyw : 10 ^ s < wpow 39 := wpow_big (by omega)
  have hrw : 2 * (n % 10 ^ s) < wpow 39 := wpow_big (by omega)
  have hinc : ∀ W V, Fresh w0 W → BI W g V (n / 10 ^ s) → Calls Tryz.prog 152 #[.pointer (some ⟨g, 0, none⟩), .pointer (some ⟨g, 0, none⟩)] W (fun e w' => e = .returned (.tuple #[]) ∧ BSet W g V (n / 10 ^ s + 1) w') :=
    fun W V h hV => inc_self g (n / 10 ^ s) V W (hG.fresh h) (hP.fresh h) hqn hV
  have hres : rhe n (10 ^ s) = n / 10 ^ s + (if 10 ^ s < 2 * (n % 10 ^ s) ∨ (2 * (n % 10 ^ s) = 10 ^ s ∧ n / 10 ^ s % 2 = 1) then 1 else 0) := rfl
  have hqr := fun bY br (vy vr : Value) (nr : Nat) (W : World) (hne : g ≠ br) (hz : BI W g v n) (hy : BI W bY vy (10 ^ s)) (hr : BI W br vr nr) (ha : ∀ k, v.ownBlock = some k → vr.ownBlock ≠ some k) =>
    bquoRem_any g g bY br v v vy vr n n (10 ^ s) nr W hn hy2 (by omega) hne hz hz hy hr (.inl rfl) ha
  obtain ⟨b, hb⟩ : ∃ b, b = w.heap.size := ⟨_, rfl⟩
  have hgb := getBint_any w hgs
  rw [← hb] at hgb
  rw [hres]
  generalize n / 10 ^ s = q at *
  generalize n % 10 ^ s = r at *
  generalize 10 ^ s = y at *
  obtain ⟨R, hR⟩ : ∃ R, R = q + (if y < 2 * r ∨ (2 * r = y ∧ q % 2 = 1) then 1 else 0) := ⟨_, rfl⟩
  rw [← hR]
  clear hres hG hP hn h0 hs1 hs hy2
  have H_hR := Lib.hid hR; clear hR
  have H_hf := Lib.hid hf; clear hf
  have H_hgl := Lib.hid hgl; clear hgl
  have H_hvl := Lib.hid hvl; clear hvl
  have H_hz := Lib.hid hz; clear hz
  have H_hsg := Lib.hid hsg; clear hsg
  have H_hyb := Lib.hid hyb; clear hyb
  have H_hbp := Lib.hid hbp; clear hbp
  have H_hgs := Lib.hid hgs; clear hgs
  have H_hqn := Lib.hid hqn; clear hqn
  have H_hrn := Lib.hid hrn; clear hrn
  have H_hyw := Lib.hid hyw; clear hyw
  have H_hrw := Lib.hid hrw; clear hrw
  have H_hinc := Lib.hid hinc; clear hinc
  have H_hqr := Lib.hid hqr; clear hqr
  have H_hb := Lib.hid hb; clear hb
  have H_hgb := Lib.hid hgb; clear hgb
  go_enter_defers Tryz.func128, Tryz.ntmps128
  go_wp2_with (fail)
  refine H_hsg.out.mono ?_
  rintro e w1 ⟨rfl, ew⟩
  subst w1
  go_wp2_with (fail)
  refine H_hgb.out.mono ?_
  rintro e w1 ⟨rfl, b1, f1, s1⟩
  have f01 : Fresh w0 w1 := H_hf.out.trans f1 (fun _ _ h => h) (fun _ _ h => h)
  have hgb : g ≠ b := by have := H_hz.out.lt; have := H_hb.out; omega
  have H_b1 := Lib.hid b1; clear b1
  have H_f1 := Lib.hid f1; clear f1
  have H_s1 := Lib.hid s1; clear s1
  have H_f01 := Lib.hid f01; clear f01
  have H_hgb := Lib.hid hgb; clear hgb
  go_wp2_with (fail)
  refine (H_hbp.out _ H_f01.out).mono ?_
  rintro e w2 ⟨h, u, rfl, b2, l2, o2, f2⟩
  have f02 : Fresh w0 w2 := H_f01.out.trans f2 (fun _ _ h => h) (fun _ _ h => h)
  have z2 := (H_hz.out.fresh H_f1.out).fresh f2
  have r2 := H_b1.out.fresh f2
  have hq := H_hqr.out h b u _ 0 w2 H_hgb.out z2 b2 r2 (fun k _ h => by simp [Value.ownBlock] at h)
  have hl1 : w.heap.size < w1.heap.size := by have := H_s1.out; have := H_hb.out; omega
  have hhg : h ≠ g := by have := H_hz.out.lt; omega
  have hhb : h ≠ b := by have := H_hb.out; omega
  have u2 : ∀ k, u.ownBlock = some k → k ≠ g ∧ k ≠ b ∧ v.ownBlock ≠ some k := fun k hk => by
    have a1 := o2 k hk
    have a2 := H_hz.out.lt
    have a3 := H_hb.out
    exact ⟨by omega, by omega, fun e => by have := H_hz.out.own_lt e; omega⟩
  have H_b2 := Lib.hid b2; clear b2
  have H_l2 := Lib.hid l2; clear l2
  have H_o2 := Lib.hid o2; clear o2
  have H_f2 := Lib.hid f2; clear f2
  have H_f02 := Lib.hid f02; clear f02
  have H_z2 := Lib.hid z2; clear z2
  have H_r2 := Lib.hid r2; clear r2
  have H_hq := Lib.hid hq; clear hq
  have H_hl1 := Lib.hid hl1; clear hl1
  have H_hhg := Lib.hid hhg; clear hhg
  have H_hhb := Lib.hid hhb; clear hhb
  have H_u2 := Lib.hid u2; clear u2
  go_wp2_with (fail)
  refine H_hq.out.mono ?_
  rintro e w3 ⟨rfl, v3, u3, z3, r3, k3, ov, ou, od⟩
  have f03 : Fresh w0 w3 := H_f02.out.trans k3 (fun _ _ h => h) (fun k hk h => by
    rcases h with rfl | rfl | h | h
    · have := H_hgl.out; omega
    · have := H_hb.out; have := H_hf.out.size; omega
    · have := H_hvl.out k h; omega
    · simp [Value.ownBlock] at h)
  have y3 : BI w3 h u y := H_b2.out.keep k3 (fun hh => by
    rcases hh with hh | hh | hh | hh
    · exact H_hhg.out hh
    · exact H_hhb.out hh
    · have := H_hz.out.own_lt hh; have := H_l2.out; have := H_f1.out.size; omega
    · simp [Value.ownBlock] at hh) (fun k hk hh => by
    obtain ⟨a1, a2, a3⟩ := H_u2.out k hk
    rcases hh with hh | hh | hh | hh
    · exact a1 hh
    · exact a2 hh
    · exact a3 hh
    · simp [Value.ownBlock] at hh)
  have ov3 : ∀ k, v3.ownBlock = some k → w0.heap.size ≤ k := fun k hk => by
    rcases ov k hk with h | h
    · exact H_hvl.out k h
    · have := H_f02.out.size; omega
  have ou3 : ∀ k, u3.ownBlock = some k → w2.heap.size ≤ k := fun k hk => by
    rcases ou k hk with h | h
    · simp [Value.ownBlock] at h
    · exact h
  have k03 : Keep (fun k => k = g ∨ v.ownBlock = some k) w w3 := (H_f1.out.trans H_f2.out (fun _ _ h => h) (fun _ _ h => h)).trans k3 (fun _ _ h => h.elim) (fun k hk h => by
    rcases h with rfl | rfl | h | h
    · exact .inl rfl
    · have := H_hb.out; omega
    · exact .inr h
    · simp [Value.ownBlock] at h)
  have own03 : ∀ k, v3.ownBlock = some k → v.ownBlock = some k ∨ w.heap.size ≤ k := fun k hk => by
    rcases ov k hk with h | h
    · exact .inl h
    · have := H_f1.out.size; have := H_f2.out.size; exact .inr (by omega)
  have H_k03 := Lib.hid k03; clear k03
  have H_own03 := Lib.hid own03; clear own03
  have hdbl := dbl_self b r u3 w3 (by have := H_hrn.out; have := H_hyb.out; omega) r3
  have H_z3 := Lib.hid z3; clear z3
  have H_r3 := Lib.hid r3; clear r3
  have H_k3 := Lib.hid k3; clear k3
  have H_ov := Lib.hid ov; clear ov
  have H_ou := Lib.hid ou; clear ou
  have H_od := Lib.hid od; clear od
  have H_f03 := Lib.hid f03; clear f03
  have H_y3 := Lib.hid y3; clear y3
  have H_ov3 := Lib.hid ov3; clear ov3
  have H_ou3 := Lib.hid ou3; clear ou3
  have H_hdbl := Lib.hid hdbl; clear hdbl
  go_wp2_with (fail)
  refine H_hdbl.out.mono ?_
  rintro e w4 ⟨rfl, u4, r4, k4, o4⟩
  have f04 : Fresh w0 w4 := H_f03.out.trans k4 (fun _ _ h => h) (fun k hk h => by
    rcases h with rfl | h
    · have := H_hb.out; have := H_hf.out.size; omega
    · have := H_ou3.out k h; have := H_f02.out.size; omega)
  have k04 : Keep (fun k => k = g ∨ v.ownBlock = some k) w w4 := H_k03.out.trans k4 (fun _ _ h => h) (fun k hk h => by
    rcases h with rfl | h
    · have := H_hb.out; omega
    · have := H_ou3.out k h; have := H_f1.out.size; have := H_f2.out.size; omega)
  have H_k04 := Lib.hid k04; clear k04
  have z4 : BI w4 g v3 q := H_z3.out.keep k4 (fun hh => by
    rcases hh with hh | hh
    · exact H_hgb.out hh
    · have := H_ou3.out g hh; have := H_z2.out.lt; omega) (fun k hk hh => by
    rcases hh with rfl | hh
    · exact BI.ne_own H_r3.out H_z3.out hk rfl
    · exact H_od.out k hk hh)
  have y4 : BI w4 h u y := H_y3.out.keep k4 (fun hh => by
    rcases hh with hh | hh
    · exact H_hhb.out hh
    · have := H_ou3.out h hh; have := H_b2.out.lt; omega) (fun k hk hh => by
    rcases hh with hh | hh
    · exact (H_u2.out k hk).2.1 hh
    · have := H_ou3.out k hh; have := H_b2.out.own_lt hk; omega)
  have hcmp := bcmp_any h b u u4 y (2 * r) w4 H_hyw.out H_hrw.out H_hhb.out y4 r4
  have hcv := cmpN_three y (2 * r)
  have H_r4 := Lib.hid r4; clear r4
  have H_k4 := Lib.hid k4; clear k4
  have H_o4 := Lib.hid o4; clear o4
  have H_f04 := Lib.hid f04; clear f04
  have H_z4 := Lib.hid z4; clear z4
  have H_y4 := Lib.hid y4; clear y4
  rcases hcv with ⟨c1, c2⟩ | ⟨c1, c2⟩ | ⟨c1, c2⟩
  · rw [c1] at hcmp
    have hR1 : R = q + 1 := by rw [H_hR.out, if_pos (.inl c2)]
    clear c1
    have H_c2 := Lib.hid c2; clear c2
    have H_hcmp := Lib.hid hcmp; clear hcmp
    have H_hR1 := Lib.hid hR1; clear hR1
    go_wp2_with (fail)
    refine H_hcmp.out.mono ?_
    rintro e w5 ⟨rfl, qn, rfl⟩
    have f05 := H_f04.out.drewN qn
    have H_k05 := Lib.hid (H_k04.out.drewN qn)
    have z5 := H_z4.out.fresh (fresh_drewN w4 qn)
    generalize w4.drewN qn = w5 at *
    have hi := H_hinc.out w5 v3 f05 z5
    have H_f05 := Lib.hid f05; clear f05
    have H_z5 := Lib.hid z5; clear z5
    have H_hi := Lib.hid hi; clear hi
    go_wp2_with (fail)
    refine H_hi.out.mono ?_
    rintro e w6 ⟨rfl, hb6⟩
    have H_hb6 := Lib.hid hb6; clear hb6
    go_wp2_with (fail)
    refine leaves_cons (f := 102) (args := #[.pointer (some ⟨b, 0, none⟩)]) (by simp) (by simp [go_sem]) ?_
    refine (putBint_idle _ _).mono ?_
    rintro e u' w'' ⟨rfl, rfl, rfl⟩
    refine ⟨.tuple #[], ?_, ?_⟩
    · simp [results, Tryz.results128]
    · exact ⟨rfl, by rw [H_hR1.out]; exact BSet.trans H_z5.out H_k05.out H_own03.out H_hb6.out⟩
  · rw [c1] at hcmp
    rcases Nat.mod_two_eq_zero_or_one q with ho | ho
    · have hR1 : R = q := by rw [H_hR.out, if_neg (by omega), Nat.add_zero]
      have hod := fun W V (hV : BI W g V q) => bisOdd_any g q V W hV
      rw [decide_eq_false (show ¬ q % 2 = 1 by omega)] at hod
      clear c1
      have H_c2 := Lib.hid c2; clear c2
      have H_ho := Lib.hid ho; clear ho
      have H_hcmp := Lib.hid hcmp; clear hcmp
      have H_hod := Lib.hid hod; clear hod
      have H_hR1 := Lib.hid hR1; clear hR1
      go_wp2_with (fail)
      refine H_hcmp.out.mono ?_
      rintro e w5 ⟨rfl, qn, rfl⟩
      have f05 := H_f04.out.drewN qn
      have H_k05 := Lib.hid (H_k04.out.drewN qn)
      have z5 := H_z4.out.fresh (fresh_drewN w4 qn)
      generalize w4.drewN qn = w5 at *
      have ho2 := H_hod.out w5 v3 z5
      have H_f05 := Lib.hid f05; clear f05
      have H_z5 := Lib.hid z5; clear z5
      have H_ho2 := Lib.hid ho2; clear ho2
      go_wp2_with (fail)
      refine H_ho2.out.mono ?_
      rintro e w6 ⟨rfl, rfl⟩
      go_wp2_with (fail)
      refine leaves_cons (f := 102) (args := #[.pointer (some ⟨b, 0, none⟩)]) (by simp) (by simp [go_sem]) ?_
      refine (putBint_idle _ _).mono ?_
      rintro e u' w'' ⟨rfl, rfl, rfl⟩
      refine ⟨.tuple #[], ?_, ?_⟩
      · simp [results, Tryz.results128]
      · exact ⟨rfl, by rw [H_hR1.out]; exact ⟨v3, H_z5.out, H_k05.out, H_own03.out⟩⟩
    · have hR1 : R = q + 1 := by rw [H_hR.out, if_pos (.inr ⟨c2.symm, ho⟩)]
      have hod := fun W V (hV : BI W g V q) => bisOdd_any g q V W hV
      rw [decide_eq_true ho] at hod
      clear c1
      have H_c2 := Lib.hid c2; clear c2
      have H_ho := Lib.hid ho; clear ho
      have H_hcmp := Lib.hid hcmp; clear hcmp
      have H_hod := Lib.hid hod; clear hod
      have H_hR1 := Lib.hid hR1; clear hR1
      go_wp2_with (fail)
      refine H_hcmp.out.mono ?_
      rintro e w5 ⟨rfl, qn, rfl⟩
      have f05 := H_f04.out.drewN qn
      have H_k05 := Lib.hid (H_k04.out.drewN qn)
      have z5 := H_z4.out.fresh (fresh_drewN w4 qn)
      generalize w4.drewN qn = w5 at *
      have hi := H_hinc.out w5 v3 f05 z5
      have ho2 := H_hod.out w5 v3 z5
      have H_f05 := Lib.hid f05; clear f05
      have H_z5 := Lib.hid z5; clear z5
      have H_hi := Lib.hid hi; clear hi
      have H_ho2 := Lib.hid ho2; clear ho2
      go_wp2_with (fail)
      refine H_ho2.out.mono ?_
      rintro e w6 ⟨rfl, rfl⟩
      go_wp2_with (fail)
      refine H_hi.out.mono ?_
      rintro e w7 ⟨rfl, hb6⟩
      have H_hb6 := Lib.hid hb6; clear hb6
      go_wp2_with (fail)
      refine leaves_cons (f := 102) (args := #[.pointer (some ⟨b, 0, none⟩)]) (by simp) (by simp [go_sem]) ?_
      refine (putBint_idle _ _).mono ?_
      rintro e u' w'' ⟨rfl, rfl, rfl⟩
      refine ⟨.tuple #[], ?_, ?_⟩
      · simp [results, Tryz.results128]
      · exact ⟨rfl, by rw [H_hR1.out]; exact BSet.trans H_z5.out H_k05.out H_own03.out H_hb6.out⟩
  · rw [c1] at hcmp
    have hR1 : R = q := by rw [H_hR.out, if_neg (by omega), Nat.add_zero]
    clear c1
    have H_c2 := Lib.hid c2; clear c2
    have H_hcmp := Lib.hid hcmp; clear hcmp
    have H_hR1 := Lib.hid hR1; clear hR1
    go_wp2_with (fail)
    refine H_hcmp.out.mono ?_
    rintro e w5 ⟨rfl, qn, rfl⟩
    have f05 := H_f04.out.drewN qn
    have H_k05 := Lib.hid (H_k04.out.drewN qn)
    have z5 := H_z4.out.fresh (fresh_drewN w4 qn)
    generalize w4.drewN qn = w5 at *
    have H_f05 := Lib.hid f05; clear f05
    have H_z5 := Lib.hid z5; clear z5
    go_wp2_with (fail)
    refine leaves_cons (f := 102) (args := #[.pointer (some ⟨b, 0, none⟩)]) (by simp) (by simp [go_sem]) ?_
    refine (putBint_idle _ _).mono ?_
    rintro e u' w'' ⟨rfl, rfl, rfl⟩
    refine ⟨.tuple #[], ?_, ?_⟩
    · simp [results, Tryz.results128]
    · exact ⟨rfl, by rw [H_hR1.out]; exact ⟨v3, H_z5.out, H_k05.out, H_own03.out⟩⟩

theorem brsh_any (w0 w : World) (g n s : Nat) (v : Value) (hG : Glob w0) (hP : Pow10s w0) (hf : Fresh w0 w) (hgl : w0.heap.size ≤ g) (hvl : ∀ k, v.ownBlock = some k → w0.heap.size ≤ k)
    (hn : n < wpow 39) (hs1 : 1 ≤ s) (hs : s ≤ 19) (hz : BI w g v n) :
    Calls Tryz.prog 128 #[.pointer (some ⟨g, 0, none⟩), .pointer (some ⟨g, 0, none⟩), .int .i64 s] w (fun e w' => e = .returned (.tuple #[]) ∧ BSet w g v (rhe n (10 ^ s)) w') := by
  rcases Nat.eq_zero_or_pos n with h0 | h0
  · subst h0
    have e : rhe 0 (10 ^ s) = 0 := rhe_exact (Nat.pow_pos (by omega)) (by rw [Nat.zero_mul])
    rw [e]
    exact brsh_zero g s v w hz
  · exact brsh_pos w0 w g n s v hG hP hf hgl hvl hn h0 hs1 hs hz

end Go.Proofs.YtjdfapoomjeabaaGreatDoor
