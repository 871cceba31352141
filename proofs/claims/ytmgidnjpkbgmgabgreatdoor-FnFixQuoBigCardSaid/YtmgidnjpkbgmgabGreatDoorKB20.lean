/- The contracts of math/big's products. -/
import Derived.Deep.RegionHeld3
import Derived.Deep.DrawnRows
import Derived.Test.YtmgidnjpkbgmgabGreatDoorKB9
import Derived.Test.YtmgidnjpkbgmgabGreatDoorKB19
namespace Go.Proofs.YtmgidnjpkbgmgabGreatDoor
open Go.RowKit

/-- clear, over a block of numbers -/
theorem wpList_clear_puts {k : IntKind} {P : Program} {w : World} {ops : Array Oper} {rest : List Oper} {o : Oper} {a : Act} {Q : Exit → Act → World → Prop} (hgd : o.guard = none) (d : Operand) (dT : TypeId)
    (ho : o.op = .call { callee := .builtin .clear, args := #[d], argTypes := #[dT] }) (elem : TypeId) (hu : P.underlying dT = some (.slice elem)) (hz : ∀ w, (zeroValue elem).run P w = .ok (.int k 0) w)
    (g off n c : Nat) (hd : a.eval d = .slice (some ⟨g, off, none⟩) n c) (L : List Nat) (bz : Blk k w g L) (hn : 0 < n) (hfit : off + n ≤ L.length)
    (h : ∀ w', Puts k g (spl L off (List.replicate n 0)) w w' → wpList P ops Q rest (a.put o.dst (.tuple #[])) w') :
    wpList P ops Q (o :: rest) a w := by
  obtain ⟨T, hg⟩ := id bz
  have hzc : (Builtin.zeroCells (Value.int k 0).cells n).toList = List.replicate n (Value.int k 0) := by
    simp [Builtin.zeroCells, Value.cells]
    apply List.ext_getElem
    · simp
    · intro i h1 h2
      simp [Nat.mod_one]
  have hst := run_storeCells_at P g off T (List.replicate n (Value.int k 0)) 0 (L.map (wd k)).toArray w hg (by simpa using hfit) (by intro v hv'; rw [List.eq_of_mem_replicate hv']; rfl)
  simp only [Nat.add_zero] at hst
  refine wpList_plain hgd fun K hK => ?_
  have hrun : (Builtin.clear_ #[dT] o.type #[.slice (some ⟨g, off, none⟩) n c]).run P w = .ok (.tuple #[]) (w.setRow g ((spl L off (List.replicate n 0)).map (wd k)).toArray) := by
    have e : (List.take off (L.map (wd k)) ++ List.replicate n (Value.int k 0) ++ List.drop (off + n) (L.map (wd k))).toArray = ((spl L off (List.replicate n 0)).map (wd k)).toArray := by
      simp [spl, List.map_take, List.map_drop]
    cases n with
    | zero => omega
    | succ n => simp [Builtin.clear_, run_underlying hu, hz, hzc, hst, Result.andThen, ← e]
  unfold Oper.wp
  simp [execOp, ho, resolve, invoke, builtin, hd, hrun, Result.andThen]
  exact hK _ _ (h _ (Puts.setRow bz _ rfl))

theorem val_rep (n : Nat) : val (List.replicate n 0) = 0 := by
  induction n with
  | zero => rfl
  | succ n ih => simp [List.replicate_succ, val, ih]

theorem seg_spl_in {L q : List Nat} {o k m : Nat} (h : o + q.length ≤ L.length) (hk : k + m ≤ q.length) : seg (spl L o q) (o + k) m = seg q k m := by
  refine seg_ext (by rw [spl_length h]; omega) hk (fun j hj => ?_)
  rw [spl_getD h, if_pos (by omega)]
  congr 1; omega

theorem spl_in {L q s : List Nat} {o k : Nat} (h : o + q.length ≤ L.length) (hk : k + s.length ≤ q.length) : spl (spl L o q) (o + k) s = spl L o (q.take k ++ s ++ q.drop (k + s.length)) := by
  have hl : (q.take k ++ s ++ q.drop (k + s.length)).length = q.length := by simp; omega
  apply ext_getD
  · rw [spl_length (by rw [spl_length h]; omega), spl_length h, spl_length (by omega)]
  · intro i _
    rw [spl_getD (by rw [spl_length h]; omega), spl_getD h, spl_getD (by omega), hl, getD_append, getD_append]
    simp only [List.length_append, List.length_take, Nat.min_eq_left (show k ≤ q.length by omega)]
    by_cases a : o ≤ i ∧ i < o + q.length
    · rw [if_pos a, if_pos a]
      obtain ⟨j, rfl⟩ : ∃ j, i = o + j := ⟨i - o, by omega⟩
      rw [show o + j - o = j by omega]
      by_cases b : j < k
      · rw [if_neg (by omega), if_pos (by omega), if_pos b]
        simp [List.getD, b]
      · by_cases c : j < k + s.length
        · rw [if_pos (by omega), if_pos (by omega), if_neg b]
          congr 1; omega
        · rw [if_neg (by omega), if_neg (by omega)]
          simp only [List.getD, List.getElem?_drop]
          rw [show k + s.length + (j - (k + s.length)) = j by omega]
    · rw [if_neg a, if_neg a, if_neg (by omega)]

theorem seg_app {p z : List Nat} {k m : Nat} (h : p.length = m + k) : seg (p ++ z) k m = p.drop k := by
  simp only [seg]
  rw [List.drop_append_of_le_length (by omega), List.take_append_of_le_length (by simp; omega), List.take_of_length_le (by simp; omega)]

theorem set_mid {L q z : List Nat} {o i x c : Nat} (hi : i = o + q.length) (h : o + (q.length + 1 + z.length) ≤ L.length) : (spl L o (q ++ x :: z)).set i c = spl L o (q ++ [c] ++ z) := by
  subst hi
  apply ext_getD
  · rw [List.length_set, spl_length (by simp; omega), spl_length (by simp; omega)]
  · intro j _
    rw [getD_set _ _ _ _ (by rw [spl_length (by simp; omega)]; omega), spl_getD (by simp; omega), spl_getD (by simp; omega)]
    by_cases e : o + q.length = j
    · subst e
      rw [if_pos rfl, if_pos (by simp), show o + q.length - o = q.length by omega, getD_append, if_pos (by simp), getD_append, if_neg (by omega)]
      simp
    · rw [if_neg e]
      simp only [List.length_append, List.length_cons, List.length_nil]
      by_cases a : o ≤ j ∧ j < o + (q.length + (z.length + 1))
      · rw [if_pos a, if_pos (show o ≤ j ∧ j < o + (q.length + (0 + 1) + z.length) by omega)]
        obtain ⟨i, rfl⟩ : ∃ i, j = o + i := ⟨j - o, by omega⟩
        rw [show o + i - o = i by omega, getD_append, getD_append, getD_append]
        simp only [List.length_append, List.length_cons, List.length_nil]
        by_cases b : i < q.length
        · rw [if_pos b, if_pos (show i < q.length + (0 + 1) by omega), if_pos b]
        · rw [if_neg b, if_neg (show ¬ i < q.length + (0 + 1) by omega)]
          obtain ⟨k, rfl⟩ : ∃ k, i = q.length + 1 + k := ⟨i - (q.length + 1), by omega⟩
          rw [show q.length + 1 + k - q.length = k + 1 by omega, show q.length + 1 + k - (q.length + (0 + 1)) = k by omega]; rfl
      · rw [if_neg a, if_neg (show ¬ (o ≤ j ∧ j < o + (q.length + (0 + 1) + z.length)) by omega)]

/-- one round of the school method -/
theorem mul_round {p xs ys : List Nat} {i d : Nat} {r : List Nat × Nat} (hp : p.length = xs.length + i) (hi : i < ys.length) (hv : val p = val xs * val (ys.take i)) (hd : ys.getD i 0 = d)
    (hr : amVs (p.drop i) xs d 0 = r) : val (p.take i ++ r.1 ++ [r.2]) = val xs * val (ys.take (i + 1)) ∧ (p.take i ++ r.1 ++ [r.2]).length = xs.length + (i + 1) := by
  have hl : (p.drop i).length = xs.length := by simp; omega
  have e1 := amVs_val (p.drop i) xs d 0 hl
  have e2 := amVs_length (p.drop i) xs d 0 hl
  have e3 := val_append (p.take i) (p.drop i)
  rw [List.take_append_drop, List.length_take, Nat.min_eq_left (by omega)] at e3
  rw [hr, hl] at e1
  rw [hr, hl] at e2
  constructor
  · rw [val_take_succ hi, hd, val_append, val_append, List.length_append, List.length_take, Nat.min_eq_left (by omega), e2, wpow_add]
    simp only [val, Nat.mul_zero, Nat.add_zero]
    rw [e3] at hv
    generalize val (p.take i) = a at *
    generalize val (p.drop i) = b at *
    generalize val (ys.take i) = c at *
    generalize val r.1 = e at *
    generalize wpow xs.length = w1 at *
    generalize wpow i = w2 at *
    generalize val xs = x at *
    grind
  · simp [e2]; omega

set_option maxRecDepth 20000 in
set_option maxHeartbeats 1000000 in
theorem basicMul_any (gz oz cz nz gx ox cx m gy oy cy n : Nat) (Lz Lx Ly : List Nat) (w : World) (hm0 : 0 < m) (hn0 : 0 < n) (hm : m ≤ 100000) (hn : n ≤ 100000)
    (bz : Blk .u64 w gz Lz) (bx : Blk .u64 w gx Lx) (by_ : Blk .u64 w gy Ly) (hz : oz + cz ≤ Lz.length) (hcz : m + n ≤ cz) (hnz : m + n ≤ nz) (hx : ox + m ≤ Lx.length) (hy : oy + n ≤ Ly.length)
    (hbz : ∀ a ∈ Lz, a < 18446744073709551616) (hbx : ∀ a ∈ Lx, a < 18446744073709551616) (hby : ∀ a ∈ Ly, a < 18446744073709551616) (hax : gx ≠ gz) (hay : gy ≠ gz) :
    Calls Tryz.prog 208 #[.slice (some ⟨gz, oz, none⟩) nz cz, .slice (some ⟨gx, ox, none⟩) m cx, .slice (some ⟨gy, oy, none⟩) n cy] w
      fun e w' => e = .returned (.tuple #[]) ∧ ∃ p : List Nat, p.length = m + n ∧ (∀ a ∈ p, a < 18446744073709551616) ∧ val p = val (seg Lx ox m) * val (seg Ly oy n) ∧ Puts .u64 gz (spl Lz oz p) w w' := by
  have hs1 : IntKind.i64.wrap ((m : Int) + (n : Int)) = (m : Int) + (n : Int) := by rw [IntKind.wrap_i64]; omega
  have hs2 : ((m : Int) + (n : Int)).toNat = m + n := by omega
  have hs3 : (m : Int) + (n : Int) ≤ (cz : Int) := by omega
  have hs4 : (0 : Int) ≤ (m : Int) + (n : Int) := by omega
  have hzr : ∀ w, (zeroValue 164).run Tryz.prog w = .ok (.int .u64 0) w := fun w => by kernel_rfl
  have H_bz := Lib.hid bz; clear bz
  have H_bx := Lib.hid bx; clear bx
  have H_by_ := Lib.hid by_; clear by_
  have H_hz := Lib.hid hz; clear hz
  have H_hx := Lib.hid hx; clear hx
  have H_hy := Lib.hid hy; clear hy
  have H_hbz := Lib.hid hbz; clear hbz
  have H_hbx := Lib.hid hbx; clear hbx
  have H_hby := Lib.hid hby; clear hby
  have H_hzr := Lib.hid hzr; clear hzr
  go_enter Tryz.func208, Tryz.ntmps208
  go_wp2_with (refine wpList_clear_puts (k := .u64) (o := ⟨none, _, _, _, _, _⟩) rfl (.tmp 14) 134 rfl 164 Tryz.underlying134 H_hzr.out _ _ _ _ (by rfl) Lz H_bz.out ?_ ?_ ?_)
  · omega
  · have := H_hz.out; omega
  clear hs1 hs2 hs3 hs4
  intro w1 hp0
  have hlx := seg_length H_hx.out
  have hly := seg_length H_hy.out
  have hbxs : ∀ a ∈ seg Lx ox m, a < 18446744073709551616 := fun a ha => H_hbx.out a (seg_mem ha)
  have hgy : ∀ j, j < n → (seg Ly oy n).getD j 0 = Ly.getD (oy + j) 0 := fun j hj => seg_getD hj
  generalize hxs : seg Lx ox m = xs at *
  generalize hys : seg Ly oy n = ys at *
  have bx1 := hp0.other hax H_bx.out
  have by1 := hp0.other hay H_by_.out
  have H_hp0 := Lib.hid hp0; clear hp0
  have H_hlx := Lib.hid hlx; clear hlx
  have H_hly := Lib.hid hly; clear hly
  have H_hbxs := Lib.hid hbxs; clear hbxs
  have H_hxs := Lib.hid hxs; clear hxs
  have H_hys := Lib.hid hys; clear hys
  have H_bx1 := Lib.hid bx1; clear bx1
  have H_by1 := Lib.hid by1; clear by1
  have H_hgy := Lib.hid hgy; clear hgy
  go_wp2_with (fail)
  go_loopw [17] (fun i wr => ∃ k : Nat, k ≤ n ∧ i = .int .i64 k ∧ ∃ p : List Nat, Hid (p.length = m + k) ∧ Hid (∀ a ∈ p, a < 18446744073709551616) ∧ Hid (val p = val xs * val (ys.take k)) ∧ Hid (Puts .u64 gz (spl Lz oz (p ++ List.replicate (n - k) 0)) w wr)) (fun i _ => n - (intOf i).toNat)
  case atStart =>
    refine ⟨0, Nat.zero_le _, rfl, List.replicate m 0, ?_, ?_, ?_, ?_⟩
    · show _ = _; simp
    · show ∀ a ∈ _, _; exact rep_lt (by omega)
    · show _ = _; rw [val_rep]; simp [val]
    · show Puts _ _ _ _ _
      rw [List.replicate_append_replicate, show m + (n - 0) = m + n by omega]
      exact H_hp0.out
  case round =>
    obtain ⟨k, hk, rfl, p, hpl, hpb, hpv, hpp⟩ := hrel
    by_cases hlt : k < n
    · have lz := H_hz.out
      have hcy := (hpp.out.other hay H_by_.out).cell (o := oy + k) (by have := H_hy.out; omega)
      have hgk := H_hgy.out k hlt
      generalize hd : Ly.getD (oy + k) 0 = d at *
      have hdb : d < 18446744073709551616 := by rw [← hd]; exact getD_lt H_hby.out pos64 _
      have hrl : (p ++ List.replicate (n - k) 0).length = m + n := by have := hpl.out; simp; omega
      have htk : val (ys.take (k + 1)) = val (ys.take k) + wpow k * d := by rw [val_take_succ (by rw [H_hly.out]; exact hlt), hgk]
      have H_lz := Lib.hid lz; clear lz
      have H_hgk := Lib.hid hgk; clear hgk
      have H_hd := Lib.hid hd; clear hd
      have H_hrl := Lib.hid hrl; clear hrl
      have H_htk := Lib.hid htk; clear htk
      by_cases hd0 : d = 0
      · have t1 : ((d : Int) != 0) = false := by subst hd0; rfl
        have t2 : ((d : Int) == 0) = true := by subst hd0; rfl
        have H_hd0 := Lib.hid hd0; clear hd0
        go_wp2
        go_roundw
        case rel =>
          refine ⟨k + 1, by omega, by go_num, p ++ [0], ?_, ?_, ?_, ?_⟩
          · show _ = _; have := hpl.out; simp; omega
          · show ∀ a ∈ _, _
            intro a ha
            rw [List.mem_append, List.mem_singleton] at ha
            rcases ha with ha | rfl
            · exact hpb.out a ha
            · omega
          · show _ = _
            rw [H_htk.out, H_hd0.out, val_append, hpv.out]; simp [val]
          · show Puts _ _ _ _ _
            have := hpp.out
            rw [show n - k = (n - (k + 1)) + 1 by omega, List.replicate_succ] at this
            simpa using this
        case measure => simp [intOf]; omega
      · have t1 : ((d : Int) != 0) = true := by rw [bne_iff_ne]; omega
        have t2 : ((d : Int) == 0) = false := by rw [beq_eq_false_iff_ne]; omega
        have bxr := hpp.out.other hax H_bx.out
        have hw1 : IntKind.i64.wrap ((k : Int) + (m : Int)) = (k : Int) + (m : Int) := by rw [IntKind.wrap_i64]; omega
        have hw2 : IntKind.i64.wrap ((m : Int) + (k : Int)) = (m : Int) + (k : Int) := by rw [IntKind.wrap_i64]; omega
        have hw3 : ((k : Int) + (m : Int)).toNat = k + m := by omega
        have hw4 : ((m : Int) + (k : Int)).toNat = m + k := by omega
        have hw5 : (k : Int) ≤ (k : Int) + (m : Int) := by omega
        have hw6 : (k : Int) + (m : Int) ≤ (cz : Int) := by omega
        have hw7 : (0 : Int) ≤ (k : Int) := by omega
        have hw8 : (0 : Int) ≤ (m : Int) + (k : Int) := by omega
        have hw9 : (m : Int) + (k : Int) < (nz : Int) := by omega
        have H_hd0 := Lib.hid hd0; clear hd0
        have H_bxr := Lib.hid bxr; clear bxr
        go_wp2_with (fail)
        have hl0 : (p.drop k).length = xs.length := by have h1 := hpl.out; have h2 := H_hlx.out; simp; omega
        have hround := mul_round (p := p) (xs := xs) (ys := ys) (i := k) (d := d) (r := amVs (p.drop k) xs d 0) (by have := hpl.out; have := H_hlx.out; omega) (by rw [H_hly.out]; exact hlt) hpv.out H_hgk.out rfl
        have hsl := amVs_length (p.drop k) xs d 0 hl0
        have hsb := amVs_lt (p.drop k) xs d 0
        have hcb := amVs_carry (p.drop k) xs d 0 (fun a ha => hpb.out a (List.mem_of_mem_drop ha)) H_hbxs.out hdb (by omega)
        generalize hrr : amVs (p.drop k) xs d 0 = res at *
        obtain ⟨s, c⟩ := res
        simp only at hround hsl hsb hcb
        have hsl2 : s.length = m := by have h2 := H_hlx.out; rw [hsl, hl0]; exact h2
        have hcall : ∀ W, Puts .u64 gz (spl Lz oz (p ++ List.replicate (n - k) 0)) w W → Blk .u64 W gx Lx →
            Calls Tryz.prog 240 #[.slice (some ⟨gz, oz + k, none⟩) m (cz - k), .slice (some ⟨gz, oz + k, none⟩) m (cz - k), .slice (some ⟨gx, ox, none⟩) m cx, .int .u64 (d : Int), .int .u64 0] W
              fun e w' => e = .returned (.int .u64 (c : Int)) ∧ Hid (Puts .u64 gz (spl Lz oz (p.take k ++ s ++ List.replicate (n - k) 0)) w w') := by
          intro W hW hWx
          have h1 := hpl.out; have h3 := H_lz.out; have h4 := H_hrl.out
          have hcur : ∀ a ∈ spl Lz oz (p ++ List.replicate (n - k) 0), a < 18446744073709551616 := by
            intro a ha
            rcases spl_mem ha with h | h
            · exact H_hbz.out a h
            · rw [List.mem_append] at h
              rcases h with h | h
              · exact hpb.out a h
              · exact rep_lt (by omega) a h
          have := addMulVVWW gz (oz + k) (cz - k) gz (oz + k) (cz - k) gx ox cx m d 0 _ _ Lx W (by omega) hW.blk hW.blk hWx (by rw [spl_length (by omega)]; omega) (by rw [spl_length (by omega)]; omega) H_hx.out hcur H_hbx.out hdb (by omega) (by omega) (by omega)
          rw [seg_spl_in (by omega) (by omega), seg_app h1, H_hxs.out, hrr, spl_in (by omega) (by rw [hsl2]; omega), List.take_append_of_le_length (by omega), List.drop_append, show p.drop (k + s.length) = [] from List.drop_eq_nil_of_le (by omega), show k + s.length - p.length = 0 by omega, List.drop_zero, List.nil_append] at this
          refine this.mono ?_
          rintro e w' ⟨rfl, hp⟩
          exact ⟨rfl, hW.trans hp⟩
        have hck : ¬ cz = k := by omega
        have hpl2 : (spl Lz oz (p.take k ++ s ++ List.replicate (n - k) 0)).length = Lz.length := by
          have h1 := hpl.out; have h3 := H_lz.out
          rw [spl_length]
          simp [hsl2]; omega
        have H_hcall := Lib.hid hcall; clear hcall
        have H_hpl2 := Lib.hid hpl2; clear hpl2
        have H_hround := Lib.hid hround; clear hround
        have H_hsb := Lib.hid hsb; clear hsb
        have H_hcb := Lib.hid hcb; clear hcb
        have H_hrr := Lib.hid hrr; clear hrr
        have H_hsl := Lib.hid hsl; clear hsl
        have H_hl0 := Lib.hid hl0; clear hl0
        have H_hsl2 := Lib.hid hsl2; clear hsl2
        go_region_held3 (fun _ => True) (trivial) (first | (go_at_call 240; with_reducible refine (H_hcall.out _ ?c1 ?c2).mono ?_; (case c1 => exact hpp.out.drew); (case c2 => exact H_bxr.out.drew); rintro e w4 ⟨rfl, hp4⟩; have cc1 := hp4.out.blk.cell (o := oz + (m + k)) (by rw [H_hpl2.out]; have := H_lz.out; omega); have cc2 := hp4.out.blk.frozen (oz + (m + k)); generalize (spl Lz oz (p.take k ++ s ++ List.replicate (n - k) 0)).getD (oz + (m + k)) 0 = z9 at *))
        clear hw1 hw2 hw3 hw4 hw5 hw6 hw7 hw8 hw9 hck
        go_wp2
        go_roundw
        case rel =>
          have h1 := hpl.out; have h3 := H_lz.out; have h5 := H_hsl2.out
          refine ⟨k + 1, by omega, by go_num, p.take k ++ s ++ [c], ?_, ?_, ?_, ?_⟩
          · show _ = _; simp [h5]; omega
          · show ∀ a ∈ _, _
            intro a ha
            rw [List.mem_append, List.mem_append, List.mem_singleton] at ha
            rcases ha with (ha | ha) | rfl
            · exact hpb.out a (List.mem_of_mem_take ha)
            · exact H_hsb.out a ha
            · exact H_hcb.out
          · show _ = _; exact H_hround.out.1
          · show Puts _ _ _ _ _
            have := hp4.out.set (oz + (m + k)) c
            have e : (spl Lz oz (p.take k ++ s ++ List.replicate (n - k) 0)).set (oz + (m + k)) c = spl Lz oz (p.take k ++ s ++ [c] ++ List.replicate (n - (k + 1)) 0) := by
              rw [show n - k = (n - (k + 1)) + 1 by omega, List.replicate_succ]
              exact set_mid (by simp [h5]; omega) (by simp [h5]; omega)
            rw [e] at this
            exact this
        case measure => simp [intOf]; omega
    · have HE := Lib.hid (show k = n by omega)
      go_wp2
      go_end0
      refine ⟨rfl, p, ?_, hpb.out, ?_, ?_⟩
      · have := hpl.out; have := HE.out; omega
      · have := hpv.out
        rw [HE.out, List.take_of_length_le (by rw [H_hly.out]; exact Nat.le_refl _)] at this
        rw [H_hxs.out, H_hys.out]
        exact this
      · have := hpp.out
        rw [HE.out, Nat.sub_self] at this
        simpa using this

end Go.Proofs.YtmgidnjpkbgmgabGreatDoor

/- The contract of math/big's nat.mul, for numbers of fewer than 40 words. -/
namespace Go.Proofs.YtmgidnjpkbgmgabGreatDoor
open Go.RowKit

/-- blocks from here on hold none of math/big's package-level variables -/
def NG : Nat := max (max 8 6) (max 7 5) + 1

/-- the package-level variables of math/big hold what they are laid -/
structure Glob (w : World) : Prop where
  size : NG ≤ w.heap.size
  kar : w.cell? ⟨8, 0, none⟩ = some (.int .i64 40)
  bsq : w.cell? ⟨6, 0, none⟩ = some (.int .i64 12)
  ksq : w.cell? ⟨7, 0, none⟩ = some (.int .i64 80)
  drec : w.cell? ⟨5, 0, none⟩ = some (.int .i64 40)

theorem Glob.keep {S : Nat → Prop} {w w' : World} (h : Glob w) (hk : Keep S w w') (hs : ∀ k, k < NG → ¬ S k) : Glob w' := by
  have hn := h.size
  have e : ∀ g, g < NG → w'.cell? ⟨g, 0, none⟩ = w.cell? ⟨g, 0, none⟩ := fun g hg => hk.cell (p := ⟨g, 0, none⟩) (Nat.lt_of_lt_of_le hg hn) (hs g hg)
  exact ⟨Nat.le_trans hn hk.size, (e _ (by decide)).trans h.kar, (e _ (by decide)).trans h.bsq, (e _ (by decide)).trans h.ksq, (e _ (by decide)).trans h.drec⟩

theorem Glob.fresh {w w' : World} (h : Glob w) (hk : Fresh w w') : Glob w' := h.keep hk (fun _ _ h => h)

theorem Glob.drewN {w : World} (h : Glob w) (n : Nat) : Glob (w.drewN n) := h.fresh ((Keep.refl _ _).drewN n)

theorem NatOp.of_drewN {w : World} {n : Nat} {zv rv : Value} {l : List Nat} {w' : World} (h : NatOp (w.drewN n) zv rv l w') : NatOp w zv rv l w' := ⟨h.nat, h.keep.of_drewN, h.own⟩

set_option maxRecDepth 20000 in
set_option maxHeartbeats 1000000 in
theorem mul_big (zv xv yv : Value) (stk : Option Addr) (zl xl yl : List Nat) (w : World) (hG : Glob w) (hm : xl.length < 100000) (hn : 1 < yl.length) (hn40 : yl.length < 40) (hyx : yl.length ≤ xl.length)
    (h : NatAt w zv zl) (hx : NatAt w xv xl) (hy : NatAt w yv yl) (hsx : Sep zv xv) (hsy : Sep zv yv) :
    Calls Tryz.prog 186 #[zv, .pointer stk, xv, yv] w (NatRet w zv (val xl * val yl)) := by
  obtain ⟨gx, ox, cx, M, rfl, bx, hx1, hx2, hx3, hx4⟩ := hx.open_pos (by omega)
  obtain ⟨gy, oy, cy, K, rfl, by_, hy1, hy2, hy3, hy4⟩ := hy.open_pos (by omega)
  have hgx := bx.lt
  have hgy := by_.lt
  have hm0 : ((xl.length : Int) == 0) = false := by rw [beq_eq_false_iff_ne]; omega
  have hn0 : ((yl.length : Int) == 0) = false := by rw [beq_eq_false_iff_ne]; omega
  have hn1 : ((yl.length : Int) == 1) = false := by rw [beq_eq_false_iff_ne]; omega
  have hkar := hG.kar
  have cases : ∃ b1 b2 : Bool, ∃ z' : Value, Hid (∀ n, Calls Tryz.prog 188 #[zv, .slice (some ⟨gx, ox, none⟩) xl.length cx] (w.drewN n) (Quiet (w.drewN n) (.bool b1))) ∧
      (b1 = false → Hid (∀ n, Calls Tryz.prog 188 #[zv, .slice (some ⟨gy, oy, none⟩) yl.length cy] (w.drewN n) (Quiet (w.drewN n) (.bool b2)))) ∧
      z' = (if b1 || b2 then .slice none 0 0 else zv) ∧ Hid (∃ l, NatAt w z' l) ∧ (b1 = true → b2 = true) ∧
      Hid (∀ g off n, At (w.drewN n) z' g off → gx ≠ g ∧ gy ≠ g) := by
    have nilAt : ∀ g off n, At (w.drewN n) (.slice none 0 0) g off → gx ≠ g ∧ gy ≠ g := by
      intro g off n h
      rcases h with ⟨n0, c0, h⟩ | h
      · simp at h
      · have : (w.drewN n).heap.size = w.heap.size := rfl
        omega
    rcases hsx with hsx | hsx
    · refine ⟨true, true, _, ?_, fun h => by simp at h, by rfl, ⟨[], NatAt.nil w⟩, fun _ => rfl, nilAt⟩
      subst hsx
      exact fun n => alias_self gx ox xl.length cx xl (w.drewN n) (hx.drewN n) (by omega)
    · rcases hsy with hsy | hsy
      · refine ⟨false, true, _, fun n => alias_apart zv _ zl xl (w.drewN n) (h.drewN n) (hx.drewN n) hsx, fun _ => ?_, by rfl, ⟨[], NatAt.nil w⟩, fun h => by simp at h, nilAt⟩
        subst hsy
        exact fun n => alias_self gy oy yl.length cy yl (w.drewN n) (hy.drewN n) (by omega)
      · refine ⟨false, false, _, fun n => alias_apart zv _ zl xl (w.drewN n) (h.drewN n) (hx.drewN n) hsx, fun _ => fun n => alias_apart zv _ zl yl (w.drewN n) (h.drewN n) (hy.drewN n) hsy, by rfl, ⟨zl, h⟩, fun h => by simp at h, ?_⟩
        intro g off n hat
        rcases hat with ⟨n0, c0, hv⟩ | hg
        · have hv' : zv = .slice (some ⟨g, off, none⟩) n0 c0 := hv
          subst hv'
          exact ⟨fun e => hsx g rfl (by rw [← e]; rfl), fun e => hsy g rfl (by rw [← e]; rfl)⟩
        · have : (w.drewN n).heap.size = w.heap.size := rfl
          omega
  obtain ⟨b1, b2, z', ha1, ha2, hz', hzn, hb, hat⟩ := cases
  have fin : ∀ rv l w', NatOp w z' rv l w' → NatOp w zv rv l w' := by
    intro rv l w' ho
    rw [hz'] at ho
    by_cases e : (b1 || b2) = true
    · rw [if_pos e] at ho
      refine ⟨ho.nat, ho.keep.mono (fun k _ hk => by simp [Value.ownBlock] at hk), fun k hk => ?_⟩
      rcases ho.own k hk with h | h
      · simp [Value.ownBlock] at h
      · exact .inr h
    · rw [if_neg e] at ho; exact ho
  have hmk : ∀ n, Calls Tryz.prog 168 #[z', .int .i64 ((xl.length : Int) + (yl.length : Int))] (w.drewN n) (Made (w.drewN n) z' (xl.length + yl.length)) := by
    intro n
    obtain ⟨l, hl⟩ := hzn.out
    have := make_any z' l (xl.length + yl.length) (w.drewN n) (by omega) (by omega) (hl.drewN n)
    rwa [Int.natCast_add] at this
  have hx4' := hx4
  generalize hml : xl.length = m at *
  generalize hnl : yl.length = n at *
  have hlt : ¬ m < n := by omega
  have H_hG := Lib.hid hG; clear hG
  have H_h := Lib.hid h; clear h
  have H_hx := Lib.hid hx; clear hx
  have H_hy := Lib.hid hy; clear hy
  have H_hsx := Lib.hid hsx; clear hsx
  have H_hsy := Lib.hid hsy; clear hsy
  have H_bx := Lib.hid bx; clear bx
  have H_by_ := Lib.hid by_; clear by_
  have H_hx2 := Lib.hid hx2; clear hx2
  have H_hx3 := Lib.hid hx3; clear hx3
  have H_hx4 := Lib.hid hx4; clear hx4
  have H_hx4' := Lib.hid hx4'; clear hx4'
  have H_hy2 := Lib.hid hy2; clear hy2
  have H_hy3 := Lib.hid hy3; clear hy3
  have H_hy4 := Lib.hid hy4; clear hy4
  have H_hzn := Lib.hid hzn; clear hzn
  have H_fin := Lib.hid fin; clear fin
  have H_hmk := Lib.hid hmk; clear hmk
  have H_hml := Lib.hid hml; clear hml
  have H_hnl := Lib.hid hnl; clear hnl
  have H_hz' := Lib.hid hz'; clear hz'
  cases b1
  · have ha3 := ha2 rfl
    clear ha2
    cases b2
    · have e : z' = zv := H_hz'.out
      subst e
      clear hb
      go_enter Tryz.func186, Tryz.ntmps186
      go_wp2_with (fail)
      refine (ha1.out 0).mono ?_
      rintro e w1 ⟨rfl, n1, rfl⟩
      go_wp2_with (fail)
      refine (ha3.out _).mono ?_
      rintro e w1 ⟨rfl, n2, hw⟩
      rw [World.drewN_drewN] at hw
      subst hw
      go_wp2_with (fail)
      refine (H_hmk.out _).mono ?_
      intro e w1 hm
      obtain ⟨g, off, cap, L, rfl, hbk, h1, h2, h3, h4, h5, hcap⟩ := hm.split
      clear hm
      have hd := hat.out g off _ h5.out
      have hG1 := (H_hG.out.drewN _).fresh h4.out
      have kar1 := hG1.kar
      have hmul := basicMul_any g off cap (m + n) gx ox cx m gy oy cy n L M K w1 (by omega) (by omega) (by omega) (by omega) hbk.out ((H_bx.out.drewN _).keep h4.out (fun h => h)) ((H_by_.out.drewN _).keep h4.out (fun h => h))
        h2.out h1 (by omega) (by have := H_hx2.out; omega) (by have := H_hy2.out; omega) h3.out H_hx4.out H_hy4.out hd.1 hd.2
      have H_hG1 := Lib.hid hG1; clear hG1
      have H_hd := Lib.hid hd; clear hd
      have H_hmul := Lib.hid hmul; clear hmul
      go_wp2_with (fail)
      refine H_hmul.out.mono ?_
      rintro e w2 ⟨rfl, p, hpl, hpb, hpv, hpp⟩
      rw [show seg M ox m = xl from H_hx3.out.symm, show seg K oy n = yl from H_hy3.out.symm] at hpv
      have hna : NatAt w2 (.slice (some ⟨g, off, none⟩) (m + n) cap) p := by
        have := NatAt.spl hcap hpp.blk (cap := cap) (by omega) h2.out h3.out hpb
        rw [hpl] at this; exact this
      have hno := norm_any _ _ _ (by omega) hna
      have H_hpl := Lib.hid hpl; clear hpl
      have H_hpb := Lib.hid hpb; clear hpb
      have H_hpv := Lib.hid hpv; clear hpv
      have H_hpp := Lib.hid hpp; clear hpp
      have H_hna := Lib.hid hna; clear hna
      have H_hno := Lib.hid hno; clear hno
      go_wp2_with (fail)
      refine H_hno.out.mono ?_
      rintro e w7 ⟨rv, l, rfl, h6, hnorm, hval, hown, rfl⟩
      have H_h6 := Lib.hid h6; clear h6
      have H_hnorm := Lib.hid hnorm; clear hnorm
      have H_hval := Lib.hid hval; clear hval
      have H_hown := Lib.hid hown; clear hown
      go_wp2
      go_ret
      exact ⟨rv, l, rfl, H_fin.out _ _ _ (NatOp.of_drewN (NatOp.of h5.out h4.out H_hpp.out.keep H_h6.out (fun k hk => by have := H_hown.out k hk; simpa [Value.ownBlock] using this.symm))), H_hnorm.out, by rw [H_hval.out, H_hpv.out]⟩
    · have e : z' = .slice none 0 0 := H_hz'.out
      subst e
      clear hb
      go_enter Tryz.func186, Tryz.ntmps186
      go_wp2_with (fail)
      refine (ha1.out 0).mono ?_
      rintro e w1 ⟨rfl, n1, rfl⟩
      go_wp2_with (fail)
      refine (ha3.out _).mono ?_
      rintro e w1 ⟨rfl, n2, hw⟩
      rw [World.drewN_drewN] at hw
      subst hw
      go_wp2_with (fail)
      refine (H_hmk.out _).mono ?_
      intro e w1 hm
      obtain ⟨g, off, cap, L, rfl, hbk, h1, h2, h3, h4, h5, hcap⟩ := hm.split
      clear hm
      have hd := hat.out g off _ h5.out
      have hG1 := (H_hG.out.drewN _).fresh h4.out
      have kar1 := hG1.kar
      have hmul := basicMul_any g off cap (m + n) gx ox cx m gy oy cy n L M K w1 (by omega) (by omega) (by omega) (by omega) hbk.out ((H_bx.out.drewN _).keep h4.out (fun h => h)) ((H_by_.out.drewN _).keep h4.out (fun h => h))
        h2.out h1 (by omega) (by have := H_hx2.out; omega) (by have := H_hy2.out; omega) h3.out H_hx4.out H_hy4.out hd.1 hd.2
      have H_hG1 := Lib.hid hG1; clear hG1
      have H_hd := Lib.hid hd; clear hd
      have H_hmul := Lib.hid hmul; clear hmul
      go_wp2_with (fail)
      refine H_hmul.out.mono ?_
      rintro e w2 ⟨rfl, p, hpl, hpb, hpv, hpp⟩
      rw [show seg M ox m = xl from H_hx3.out.symm, show seg K oy n = yl from H_hy3.out.symm] at hpv
      have hna : NatAt w2 (.slice (some ⟨g, off, none⟩) (m + n) cap) p := by
        have := NatAt.spl hcap hpp.blk (cap := cap) (by omega) h2.out h3.out hpb
        rw [hpl] at this; exact this
      have hno := norm_any _ _ _ (by omega) hna
      have H_hpl := Lib.hid hpl; clear hpl
      have H_hpb := Lib.hid hpb; clear hpb
      have H_hpv := Lib.hid hpv; clear hpv
      have H_hpp := Lib.hid hpp; clear hpp
      have H_hna := Lib.hid hna; clear hna
      have H_hno := Lib.hid hno; clear hno
      go_wp2_with (fail)
      refine H_hno.out.mono ?_
      rintro e w7 ⟨rv, l, rfl, h6, hnorm, hval, hown, rfl⟩
      have H_h6 := Lib.hid h6; clear h6
      have H_hnorm := Lib.hid hnorm; clear hnorm
      have H_hval := Lib.hid hval; clear hval
      have H_hown := Lib.hid hown; clear hown
      go_wp2
      go_ret
      exact ⟨rv, l, rfl, H_fin.out _ _ _ (NatOp.of_drewN (NatOp.of h5.out h4.out H_hpp.out.keep H_h6.out (fun k hk => by have := H_hown.out k hk; simpa [Value.ownBlock] using this.symm))), H_hnorm.out, by rw [H_hval.out, H_hpv.out]⟩
  · have e : z' = .slice none 0 0 := by have := H_hz'.out; simpa using this
    subst e
    have e2 : b2 = true := hb rfl
    subst e2
    clear hb
    · go_enter Tryz.func186, Tryz.ntmps186
      go_wp2_with (fail)
      refine (ha1.out 0).mono ?_
      rintro e w1 ⟨rfl, n1, rfl⟩
      go_wp2_with (fail)
      refine (H_hmk.out _).mono ?_
      intro e w1 hm
      obtain ⟨g, off, cap, L, rfl, hbk, h1, h2, h3, h4, h5, hcap⟩ := hm.split
      clear hm
      have hd := hat.out g off _ h5.out
      have hG1 := (H_hG.out.drewN _).fresh h4.out
      have kar1 := hG1.kar
      have hmul := basicMul_any g off cap (m + n) gx ox cx m gy oy cy n L M K w1 (by omega) (by omega) (by omega) (by omega) hbk.out ((H_bx.out.drewN _).keep h4.out (fun h => h)) ((H_by_.out.drewN _).keep h4.out (fun h => h))
        h2.out h1 (by omega) (by have := H_hx2.out; omega) (by have := H_hy2.out; omega) h3.out H_hx4.out H_hy4.out hd.1 hd.2
      have H_hG1 := Lib.hid hG1; clear hG1
      have H_hd := Lib.hid hd; clear hd
      have H_hmul := Lib.hid hmul; clear hmul
      go_wp2_with (fail)
      refine H_hmul.out.mono ?_
      rintro e w2 ⟨rfl, p, hpl, hpb, hpv, hpp⟩
      rw [show seg M ox m = xl from H_hx3.out.symm, show seg K oy n = yl from H_hy3.out.symm] at hpv
      have hna : NatAt w2 (.slice (some ⟨g, off, none⟩) (m + n) cap) p := by
        have := NatAt.spl hcap hpp.blk (cap := cap) (by omega) h2.out h3.out hpb
        rw [hpl] at this; exact this
      have hno := norm_any _ _ _ (by omega) hna
      have H_hpl := Lib.hid hpl; clear hpl
      have H_hpb := Lib.hid hpb; clear hpb
      have H_hpv := Lib.hid hpv; clear hpv
      have H_hpp := Lib.hid hpp; clear hpp
      have H_hna := Lib.hid hna; clear hna
      have H_hno := Lib.hid hno; clear hno
      go_wp2_with (fail)
      refine H_hno.out.mono ?_
      rintro e w7 ⟨rv, l, rfl, h6, hnorm, hval, hown, rfl⟩
      have H_h6 := Lib.hid h6; clear h6
      have H_hnorm := Lib.hid hnorm; clear hnorm
      have H_hval := Lib.hid hval; clear hval
      have H_hown := Lib.hid hown; clear hown
      go_wp2
      go_ret
      exact ⟨rv, l, rfl, H_fin.out _ _ _ (NatOp.of_drewN (NatOp.of h5.out h4.out H_hpp.out.keep H_h6.out (fun k hk => by have := H_hown.out k hk; simpa [Value.ownBlock] using this.symm))), H_hnorm.out, by rw [H_hval.out, H_hpv.out]⟩

set_option maxRecDepth 20000 in
set_option maxHeartbeats 1000000 in
theorem mul_ge (zv xv yv : Value) (stk : Option Addr) (zl xl yl : List Nat) (w : World) (hG : Glob w) (hm : xl.length < 100000) (hn40 : yl.length < 40) (hyx : yl.length ≤ xl.length)
    (h : NatAt w zv zl) (hx : NatAt w xv xl) (hy : NatAt w yv yl) (hsx : Sep zv xv) (hsy : Sep zv yv) :
    Calls Tryz.prog 186 #[zv, .pointer stk, xv, yv] w (NatRet w zv (val xl * val yl)) := by
  by_cases hn0 : yl.length = 0
  · obtain ⟨a, c, hv⟩ := h.form
    obtain ⟨ax, cx, hxv⟩ := hx.form
    obtain ⟨ay, cy, hyv⟩ := hy.form
    have hyl : yl = [] := List.eq_nil_of_length_eq_zero hn0
    have hr := NatRet.empty h hv
    rw [hyl, show val xl * val [] = 0 from Nat.mul_zero _]
    rw [hn0] at hyv
    have hb : ((xl.length : Int) == 0) = true ∨ ((xl.length : Int) == 0) = false := by cases ((xl.length : Int) == 0) <;> simp
    generalize hml : xl.length = m at *
    generalize zl.length = z at *
    subst hxv hyv hv
    have H_hG := Lib.hid hG; clear hG
    have H_h := Lib.hid h; clear h
    have H_hx := Lib.hid hx; clear hx
    have H_hy := Lib.hid hy; clear hy
    have H_hsx := Lib.hid hsx; clear hsx
    have H_hsy := Lib.hid hsy; clear hsy
    have H_hr := Lib.hid hr; clear hr
    have H_hyl := Lib.hid hyl; clear hyl
    have H_hml := Lib.hid hml; clear hml
    clear hn0 hyx hn40
    rcases hb with hb | hb
    all_goals
      go_enter Tryz.func186, Tryz.ntmps186
      go_wp2
      go_ret
      exact H_hr.out
  · by_cases hn1 : yl.length = 1
    · obtain ⟨gy, oy, cy, K, rfl, by_, hy1, hy2, hy3, hy4⟩ := hy.open_pos (by omega)
      obtain ⟨ax, cx, hxv⟩ := hx.form
      have hc := by_.cell (o := oy) (by omega)
      have hd := getD_lt hy4 pos64 oy
      have hyv : val yl = K.getD oy 0 := by
        rw [hy3, hn1, seg_head (by omega), seg_zero]; simp [val]
      have hmw := mulAddWW_any zv xv zl xl (K.getD oy 0) 0 w (by omega) hd (by omega) h hx hsx
      rw [hyv]
      rw [Nat.add_zero] at hmw
      generalize K.getD oy 0 = d at *
      have hm0 : ((xl.length : Int) == 0) = false := by rw [beq_eq_false_iff_ne]; omega
      rw [hn1]
      generalize hml : xl.length = m at *
      have hm1 : 1 ≤ m := by omega
      have hlt1 : ¬ m < 1 := by omega
      subst hxv
      have H_hG := Lib.hid hG; clear hG
      have H_h := Lib.hid h; clear h
      have H_hx := Lib.hid hx; clear hx
      have H_hy := Lib.hid hy; clear hy
      have H_hsx := Lib.hid hsx; clear hsx
      have H_hsy := Lib.hid hsy; clear hsy
      have H_by_ := Lib.hid by_; clear by_
      have H_hy2 := Lib.hid hy2; clear hy2
      have H_hy3 := Lib.hid hy3; clear hy3
      have H_hy4 := Lib.hid hy4; clear hy4
      have H_hml := Lib.hid hml; clear hml
      have H_hn1 := Lib.hid hn1; clear hn1
      have H_hmw := Lib.hid hmw; clear hmw
      have H_hyv := Lib.hid hyv; clear hyv
      clear hn0 hyx hn40 hy1
      go_enter Tryz.func186, Tryz.ntmps186
      go_wp2_with (go_quiet (fail))
      refine H_hmw.out.mono ?_
      intro e w1 h1
      obtain ⟨rv, rfl, h1⟩ := h1.own
      have H_h1 := Lib.hid h1; clear h1
      go_wp2
      go_ret
      exact H_h1.out
    · exact mul_big zv xv yv stk zl xl yl w hG hm (by omega) hn40 hyx h hx hy hsx hsy

set_option maxRecDepth 20000 in
set_option maxHeartbeats 1000000 in
theorem nat_mul (zv xv yv : Value) (stk : Option Addr) (zl xl yl : List Nat) (w : World) (hG : Glob w) (hm : xl.length < 40) (hn : yl.length < 40)
    (h : NatAt w zv zl) (hx : NatAt w xv xl) (hy : NatAt w yv yl) (hsx : Sep zv xv) (hsy : Sep zv yv) :
    Calls Tryz.prog 186 #[zv, .pointer stk, xv, yv] w (NatRet w zv (val xl * val yl)) := by
  by_cases hlt : xl.length < yl.length
  · have hr := mul_ge zv yv xv stk zl yl xl w hG (by omega) hm (by omega) h hy hx hsy hsx
    rw [Nat.mul_comm] at hr
    obtain ⟨ax, cx, hxv⟩ := hx.form
    obtain ⟨ay, cy, hyv⟩ := hy.form
    generalize xl.length = m at *
    generalize yl.length = n at *
    subst hxv hyv
    have H_hG := Lib.hid hG; clear hG
    have H_h := Lib.hid h; clear h
    have H_hx := Lib.hid hx; clear hx
    have H_hy := Lib.hid hy; clear hy
    have H_hsx := Lib.hid hsx; clear hsx
    have H_hsy := Lib.hid hsy; clear hsy
    have H_hr := Lib.hid hr; clear hr
    go_enter Tryz.func186, Tryz.ntmps186
    go_wp2_with (fail)
    refine H_hr.out.mono ?_
    intro e w1 h1
    obtain ⟨rv, rfl, h1⟩ := h1.own
    have H_h1 := Lib.hid h1; clear h1
    go_wp2
    go_ret
    exact H_h1.out
  · exact mul_ge zv xv yv stk zl xl yl w hG (by omega) hn (by omega) h hx hy hsx hsy

end Go.Proofs.YtmgidnjpkbgmgabGreatDoor

/- The contracts of math/big's integers: what an Int is in memory; Add, Sub. -/
namespace Go.Proofs.YtmgidnjpkbgmgabGreatDoor
open Go.RowKit

theorem frozen?_setCell' (w : World) (p q : Addr) (v : Value) : (w.setCell p v).frozen? q = w.frozen? q := by
  unfold World.frozen?
  simp only [World.setCell, Array.getElem?_modify]
  by_cases hb : p.block = q.block
  · rw [if_pos hb]
    cases hq : w.heap[q.block]? with
    | none => simp
    | some o => cases o <;> simp
  · rw [if_neg hb]

theorem setCell_cells {w : World} {b : Nat} (h : ∃ c T, w.heap[b]? = some (.cells c T (0, 0))) (o : Nat) (v : Value) : ∃ c T, (w.setCell ⟨b, o, none⟩ v).heap[b]? = some (.cells c T (0, 0)) := by
  obtain ⟨c, T, h⟩ := h
  exact ⟨_, T, by simp only [World.setCell, Array.getElem?_modify, if_true, h]; rfl⟩

/-- a struct of math/big's Int lies at block b from offset o on -/
structure StrAt (w : World) (b o : Nat) (neg : Bool) (v : Value) : Prop where
  c0 : w.cell? ⟨b, o, none⟩ = some (.bool neg)
  c1 : w.cell? ⟨b, o + 1, none⟩ = some v
  f0 : w.frozen? ⟨b, o, none⟩ = false
  f1 : w.frozen? ⟨b, o + 1, none⟩ = false
  ng : NG ≤ b
  hp : ∃ c T, w.heap[b]? = some (.cells c T (0, 0))

theorem StrAt.lt {w : World} {b o : Nat} {neg : Bool} {v : Value} (h : StrAt w b o neg v) : b < w.heap.size := World.block_lt_of_cell? w _ h.c0

theorem StrAt.keep {S : Nat → Prop} {w w' : World} {b o : Nat} {neg : Bool} {v : Value} (h : StrAt w b o neg v) (hk : Keep S w w') (hs : ¬ S b) : StrAt w' b o neg v :=
  ⟨(hk.cell h.lt hs).trans h.c0, (hk.cell (p := ⟨b, o + 1, none⟩) h.lt hs).trans h.c1, (hk.frozen h.lt hs).trans h.f0, (hk.frozen (p := ⟨b, o + 1, none⟩) h.lt hs).trans h.f1, h.ng, by rw [hk.block b h.lt hs]; exact h.hp⟩

theorem StrAt.drewN {w : World} {b o : Nat} {neg : Bool} {v : Value} (h : StrAt w b o neg v) (n : Nat) : StrAt (w.drewN n) b o neg v := ⟨h.c0, h.c1, h.f0, h.f1, h.ng, h.hp⟩
theorem StrAt.drew {w : World} {b o : Nat} {neg : Bool} {v : Value} (h : StrAt w b o neg v) : StrAt w.drew b o neg v := ⟨h.c0, h.c1, h.f0, h.f1, h.ng, h.hp⟩

theorem StrAt.eql_ne {P : Program} {w : World} {b o b' o' : Nat} {n n' : Bool} {v v' : Value} (h : StrAt w b o n v) (h' : StrAt w b' o' n' v') (hne : b ≠ b') {tp te : TypeId} (hp : P.underlying tp = some (.pointer te))
    (hsz : (P.info? te).map (·.size) = some 2) :
    (binOp .eql tp (.pointer (some ⟨b, o, none⟩)) (.pointer (some ⟨b', o', none⟩))).run P w = .ok (.bool false) w := by
  obtain ⟨c, T, h⟩ := h.hp
  obtain ⟨c', T', h'⟩ := h'.hp
  cases hq : P.info? te with
  | none => simp [hq] at hsz
  | some i => exact run_eql_ptr_other w hp hq (by simp [hq] at hsz; omega) (fun e => hne (congrArg Addr.block e)) h h'

theorem StrAt.neq_ne {P : Program} {w : World} {b o b' o' : Nat} {n n' : Bool} {v v' : Value} (h : StrAt w b o n v) (h' : StrAt w b' o' n' v') (hne : b ≠ b') {tp te : TypeId} (hp : P.underlying tp = some (.pointer te))
    (hsz : (P.info? te).map (·.size) = some 2) :
    (binOp .neq tp (.pointer (some ⟨b, o, none⟩)) (.pointer (some ⟨b', o', none⟩))).run P w = .ok (.bool true) w := by
  obtain ⟨c, T, h⟩ := h.hp
  obtain ⟨c', T', h'⟩ := h'.hp
  cases hq : P.info? te with
  | none => simp [hq] at hsz
  | some i => exact run_neq_ptr_other w hp hq (by simp [hq] at hsz; omega) (fun e => hne (congrArg Addr.block e)) h h'

theorem StrAt.set0 {w : World} {b o : Nat} {neg : Bool} {v : Value} (h : StrAt w b o neg v) (n : Bool) : StrAt (w.setCell ⟨b, o, none⟩ (.bool n)) b o n v :=
  ⟨cell?_setCell_eq rfl (by rw [h.c0]; rfl), (cell?_setCell_ne (by right; simp)).trans h.c1, (frozen?_setCell' _ _ _ _).trans h.f0, (frozen?_setCell' _ _ _ _).trans h.f1, h.ng, setCell_cells h.hp _ _⟩

theorem StrAt.set1 {w : World} {b o : Nat} {neg : Bool} {v : Value} (h : StrAt w b o neg v) (u : Value) : StrAt (w.setCell ⟨b, o + 1, none⟩ u) b o neg u :=
  ⟨(cell?_setCell_ne (by right; simp)).trans h.c0, cell?_setCell_eq rfl (by rw [h.c1]; rfl), (frozen?_setCell' _ _ _ _).trans h.f0, (frozen?_setCell' _ _ _ _).trans h.f1, h.ng, setCell_cells h.hp _ _⟩

/-- an Int of math/big at block b from offset o on: its sign, its words -/
structure IntIs (w : World) (b o : Nat) (neg : Bool) (v : Value) (l : List Nat) : Prop where
  str : StrAt w b o neg v
  nat : NatAt w v l
  norm : Norm l
  zero : l = [] → neg = false

/-- the number -/
def ival (neg : Bool) (l : List Nat) : Int := if neg then -(val l : Int) else (val l : Int)

theorem IntIs.ne {w : World} {b o : Nat} {neg : Bool} {v u : Value} {m : List Nat} (h : StrAt w b o neg v) (hn : NatAt w u m) {g : Nat} (hg : u.ownBlock = some g) : b ≠ g := by
  rintro rfl
  rcases hn.2 with ⟨rfl, _⟩ | ⟨g, off, cap, L, rfl, bk, _⟩
  · simp [Value.ownBlock] at hg
  · simp only [Value.ownBlock, Option.some.injEq] at hg
    subst hg
    by_cases ho : o < L.length
    · have := bk.cell ho
      rw [h.c0] at this; simp at this
    · obtain ⟨T, hb⟩ := bk
      have := h.c0
      simp [World.cell?, hb, ho] at this

theorem IntIs.keep {S : Nat → Prop} {w w' : World} {b o : Nat} {neg : Bool} {v : Value} {l : List Nat} (h : IntIs w b o neg v l) (hk : Keep S w w') (hs : ¬ S b) (hv : ∀ g, v.ownBlock = some g → ¬ S g) : IntIs w' b o neg v l :=
  ⟨h.str.keep hk hs, h.nat.keep hk hv, h.norm, h.zero⟩

theorem IntIs.fresh {w w' : World} {b o : Nat} {neg : Bool} {v : Value} {l : List Nat} (h : IntIs w b o neg v l) (hk : Fresh w w') : IntIs w' b o neg v l :=
  h.keep hk (fun h => h) (fun _ _ h => h)

theorem IntIs.drewN {w : World} {b o : Nat} {neg : Bool} {v : Value} {l : List Nat} (h : IntIs w b o neg v l) (n : Nat) : IntIs (w.drewN n) b o neg v l := ⟨h.str.drewN n, h.nat, h.norm, h.zero⟩

theorem setCell_natAt {w : World} {v : Value} {l : List Nat} (h : NatAt w v l) {b o : Nat} (hb : ∀ g, v.ownBlock = some g → b ≠ g) (u : Value) : NatAt (w.setCell ⟨b, o, none⟩ u) v l :=
  h.keep (Keep.setCell (S := fun k => k = b) (Keep.refl _ w) (fun _ => rfl) u) (fun g hg e => hb g hg e.symm)

/-- what a call that sets an Int returns: the pointer; the Int is n; nothing else has turned but what the Int held -/
def IntRet (w : World) (b o : Nat) (vz : Value) (n : Int) (e : Ending) (w' : World) : Prop :=
  e = .returned (.pointer (some ⟨b, o, none⟩)) ∧ ∃ neg v l, IntIs w' b o neg v l ∧ ival neg l = n ∧ Keep (fun k => k = b ∨ vz.ownBlock = some k) w w' ∧ (∀ k, v.ownBlock = some k → vz.ownBlock = some k ∨ w.heap.size ≤ k)

/-- the same of a call that returns nothing -/
def IntSet (w : World) (b o : Nat) (vz : Value) (n : Int) (e : Ending) (w' : World) : Prop :=
  e = .returned (.tuple #[]) ∧ ∃ neg v l, IntIs w' b o neg v l ∧ ival neg l = n ∧ Keep (fun k => k = b ∨ vz.ownBlock = some k) w w' ∧ (∀ k, v.ownBlock = some k → vz.ownBlock = some k ∨ w.heap.size ≤ k)

/-- the struct behind a call that returned words: both cells are written anew -/
theorem IntIs.made {w w1 : World} {b o : Nat} {neg0 : Bool} {vz rv : Value} {lz l : List Nat} (hz : StrAt w b o neg0 vz) (hzn : NatAt w vz lz) (hop : NatOp w vz rv l w1) (hnorm : Norm l) (neg : Bool) (hneg : l = [] → neg = false) (n : Int) (hn : ival neg l = n)
    {w2 : World} (hw2 : w2 = (w1.setCell ⟨b, o + 1, none⟩ rv).setCell ⟨b, o, none⟩ (.bool neg)) :
    ∃ neg v l, IntIs w2 b o neg v l ∧ ival neg l = n ∧ Keep (fun k => k = b ∨ vz.ownBlock = some k) w w2 ∧ (∀ k, v.ownBlock = some k → vz.ownBlock = some k ∨ w.heap.size ≤ k) := by
  subst hw2
  have hbz : ∀ g, vz.ownBlock = some g → b ≠ g := fun g hg => IntIs.ne hz hzn hg
  have hs1 : StrAt w1 b o neg0 vz := hz.keep hop.keep (fun h => hbz b h rfl)
  have hbr : ∀ g, rv.ownBlock = some g → b ≠ g := fun g hg => by
    rcases hop.own g hg with h | h
    · exact hbz g h
    · have := hz.lt; omega
  refine ⟨neg, rv, l, ⟨(hs1.set1 rv).set0 neg, setCell_natAt (setCell_natAt hop.nat hbr _) hbr _, hnorm, hneg⟩, hn, ?_, hop.own⟩
  have k1 : Keep (fun k => k = b ∨ vz.ownBlock = some k) w w1 := hop.keep.mono (fun k _ h => Or.inr h)
  exact (k1.setCell (p := ⟨b, o + 1, none⟩) (fun _ => Or.inl rfl) _).setCell (p := ⟨b, o, none⟩) (fun _ => Or.inl rfl) _

theorem Norm.len_lt {l : List Nat} (h : Norm l) {k : Nat} (hv : val l < wpow k) : l.length ≤ k := h.len_le hv

end Go.Proofs.YtmgidnjpkbgmgabGreatDoor

/- The contracts of math/big's integers: Add, Sub. -/
namespace Go.Proofs.YtmgidnjpkbgmgabGreatDoor
open Go.RowKit

theorem IntRet.of_fresh {w wq : World} (hf : Fresh w wq) {b o : Nat} {vz : Value} {n : Int} {e : Ending} {w' : World} (h : IntRet wq b o vz n e w') : IntRet w b o vz n e w' := by
  obtain ⟨he, neg, v, l, h1, h2, h3, h4⟩ := h
  refine ⟨he, neg, v, l, h1, h2, hf.trans h3 (fun _ _ h => h.elim) (fun _ _ h => h), fun k hk => ?_⟩
  rcases h4 k hk with h | h
  · exact .inl h
  · exact .inr (Nat.le_trans hf.size h)

theorem NatOp.of_drew {w : World} {zv rv : Value} {l : List Nat} {w' : World} (h : NatOp w.drew zv rv l w') : NatOp w zv rv l w' := ⟨h.nat, h.keep.of_drew, h.own⟩

theorem fresh_drewN (w : World) (n : Nat) : Fresh w (w.drewN n) := (Keep.refl _ _).drewN n

set_option maxRecDepth 20000 in
set_option maxHeartbeats 2000000 in
theorem Int_Add (bz oz bx ox bY oy : Nat) (negz negx negy : Bool) (vz vx vy : Value) (lz lx ly : List Nat) (w : World) (hlx : lx.length < 1000000) (hly : ly.length < 1000000)
    (hz : IntIs w bz oz negz vz lz) (hx : IntIs w bx ox negx vx lx) (hy : IntIs w bY oy negy vy ly) (hsx : Sep vz vx) (hsy : Sep vz vy) :
    Calls Tryz.prog 130 #[.pointer (some ⟨bz, oz, none⟩), .pointer (some ⟨bx, ox, none⟩), .pointer (some ⟨bY, oy, none⟩)] w (IntRet w bz oz vz (ival negx lx + ival negy ly)) := by
  have cx0 := hx.str.c0; have cx1 := hx.str.c1; have cy0 := hy.str.c0; have cy1 := hy.str.c1; have cz0 := hz.str.c0; have cz1 := hz.str.c1; have fz0 := hz.str.f0; have fz1 := hz.str.f1
  have H_hz := Lib.hid hz; clear hz
  have H_hx := Lib.hid hx; clear hx
  have H_hy := Lib.hid hy; clear hy
  have H_hsx := Lib.hid hsx; clear hsx
  have H_hsy := Lib.hid hsy; clear hsy
  by_cases hs : negy = negx
  · have ts : (negx == negy) = true := by rw [hs]; cases negx <;> rfl
    have tn : (negx != negy) = false := by rw [hs]; cases negx <;> rfl
    have H_hs := Lib.hid hs; clear hs
    go_enter Tryz.func130, Tryz.ntmps130
    go_wp2_with (go_quiet (fail))
    have hz2 := H_hz.out.drewN nq; have hx2 := H_hx.out.drewN nq; have hy2 := H_hy.out.drewN nq; have kw := fresh_drewN w nq
    have hsx2 := H_hsx.out; have hsy2 := H_hsy.out
    clear H_hz H_hx H_hy H_hsx H_hsy cx0 cx1 cy0 cy1 cz0 cz1 fz0 fz1
    have H_kw := Lib.hid kw; clear kw
    generalize w.drewN nq = wq at *
    have cx0 := hx2.str.c0; have cx1 := hx2.str.c1; have cy0 := hy2.str.c0; have cy1 := hy2.str.c1; have cz0 := hz2.str.c0; have cz1 := hz2.str.c1; have fz0 := hz2.str.f0; have fz1 := hz2.str.f1
    have hz := hz2; have hx := hx2; have hy := hy2; have hsx := hsx2; have hsy := hsy2
    clear hz2 hx2 hy2 hsx2 hsy2
    have hadd : Calls Tryz.prog 155 #[vz, vx, vy] wq.drew (NatRet wq.drew vz (val lx + val ly)) := nat_add vz vx vy lz lx ly _ hlx hly hz.nat hx.nat hy.nat hx.norm hy.norm hsx hsy
    have hcmp : ∀ n, Calls Tryz.prog 156 #[vx, vy] (wq.drewN n) (Quiet (wq.drewN n) (.int .i64 (cmpN (val lx) (val ly)))) := fun n => nat_cmp vx vy lx ly _ (by omega) (by omega) hx.nat hy.nat hx.norm hy.norm
    have hsub : val ly ≤ val lx → ∀ n, Calls Tryz.prog 157 #[vz, vx, vy] (wq.drewN n).drew (NatRet (wq.drewN n).drew vz (val lx - val ly)) := fun hle n => nat_sub vz vx vy lz lx ly _ hlx hle hz.nat hx.nat hy.nat hx.norm hy.norm hsx hsy
    have hbus : val lx ≤ val ly → ∀ n, Calls Tryz.prog 157 #[vz, vy, vx] (wq.drewN n).drew (NatRet (wq.drewN n).drew vz (val ly - val lx)) := fun hle n => nat_sub vz vy vx lz ly lx _ hly hle hz.nat hy.nat hx.nat hy.norm hx.norm hsy hsx
    have nz : ∀ (_ : Unit), ¬ (vz.ownBlock = some bz) := fun _ e => IntIs.ne hz.str hz.nat e rfl
    have nx : ∀ (_ : Unit), ¬ (vz.ownBlock = some bx) := fun _ e => IntIs.ne hx.str hz.nat e rfl
    have ny : ∀ (_ : Unit), ¬ (vz.ownBlock = some bY) := fun _ e => IntIs.ne hy.str hz.nat e rfl
    have H_hz := Lib.hid hz; clear hz
    have H_hx := Lib.hid hx; clear hx
    have H_hy := Lib.hid hy; clear hy
    have H_hsx := Lib.hid hsx; clear hsx
    have H_hsy := Lib.hid hsy; clear hsy
    have H_hadd := Lib.hid hadd; clear hadd
    have H_hcmp := Lib.hid hcmp; clear hcmp
    have H_hsub := Lib.hid hsub; clear hsub
    have H_hbus := Lib.hid hbus; clear hbus
    have H_nz := Lib.hid nz; clear nz
    have H_nx := Lib.hid nx; clear nx
    have H_ny := Lib.hid ny; clear ny
    refine wp_region_E (S := (fun (w' : World) => w'.cell? ⟨bz, oz + 1, none⟩ = some vz ∧ w'.cell? ⟨bx, ox + 1, none⟩ = some vx ∧ w'.cell? ⟨bY, oy + 1, none⟩ = some vy)) 16 (by kernel_rfl) (by exact ⟨cz1, cx1, cy1⟩) (fun hHeld => ?_)
    refine wpAnyE_takeP (i := 0) (v := ?v0_1) rfl (by kernel_rfl) (fun _ _ _ h => h) ⟨by rfl, ?y0_1⟩ (by assumption) ?r0_1
    case y0_1 => (intro w; go_simp; try with_reducible rfl)
    try simp only [Act.put, yA, yB, yD, yE, yF]
    refine wpAnyE_takeP (i := 1) (v := ?v1_1) rfl (by kernel_rfl) (fun _ _ _ h => h) ⟨by rfl, ?y1_1⟩ (by assumption) ?r1_1
    case y1_1 => (intro w; go_simp; try with_reducible rfl)
    try simp only [Act.put, yA, yB, yC, yD, yE, yF]
    refine wpAnyE_takeP (i := 2) (v := ?v2_1) rfl (by kernel_rfl) (fun _ _ _ h => h) ⟨by rfl, ?y2_1⟩ (by assumption) ?r2_1
    case y2_1 => (intro w; go_simp; try with_reducible rfl)
    try simp only [Act.put, yA, yB, yC, yD, yE, yF]
    refine wpAnyE_takeP (i := 3) (v := ?v3_1) rfl (by kernel_rfl) (fun _ _ _ h => h) ⟨by rfl, ?y3_1⟩ (by assumption) ?r3_1
    case y3_1 => (intro w; go_simp; try with_reducible rfl)
    try simp only [Act.put, yA, yB, yC, yD, yE, yF]
    refine wpAnyE_takeL (i := 4) (c := 13) (v := ?v4_1) rfl (by kernel_rfl) (fun _ _ _ h => h) ⟨by rfl, ?y4_1⟩ (by assumption) ?r4_1
    case y4_1 => (intro w hSw; go_split_ands; go_simp; try with_reducible rfl)
    try simp only [Act.put, yA, yB, yC, yD, yE, yF]
    refine wpAnyE_takeP (i := 5) (v := ?v5_1) rfl (by kernel_rfl) (fun _ _ _ h => h) ⟨by rfl, ?y5_1⟩ (by assumption) ?r5_1
    case y5_1 => (intro w; go_simp; try with_reducible rfl)
    try simp only [Act.put, yA, yB, yC, yD, yE, yF]
    refine wpAnyE_takeP (i := 6) (v := ?v6_1) rfl (by kernel_rfl) (fun _ _ _ h => h) ⟨by rfl, ?y6_1⟩ (by assumption) ?r6_1
    case y6_1 => (intro w; go_simp; try with_reducible rfl)
    try simp only [Act.put, yA, yB, yC, yD, yE, yF]
    refine wpAnyE_takeP (i := 7) (v := ?v7_1) rfl (by kernel_rfl) (fun _ _ _ h => h) ⟨by rfl, ?y7_1⟩ (by assumption) ?r7_1
    case y7_1 => (intro w; go_simp; try with_reducible rfl)
    try simp only [Act.put, yA, yB, yC, yD, yE, yF]
    refine wpAnyE_takeL (i := 8) (c := 13) (v := ?v8_1) rfl (by kernel_rfl) (fun _ _ _ h => h) ⟨by rfl, ?y8_1⟩ (by assumption) ?r8_1
    case y8_1 => (intro w hSw; go_split_ands; go_simp; try with_reducible rfl)
    try simp only [Act.put, yA, yB, yC, yD, yE, yF]
    refine wpAnyE_takeP (i := 9) (v := ?v9_1) rfl (by kernel_rfl) (fun _ _ _ h => h) ⟨by rfl, ?y9_1⟩ (by assumption) ?r9_1
    case y9_1 => (intro w; go_simp; try with_reducible rfl)
    try simp only [Act.put, yA, yB, yC, yD, yE, yF]
    refine wpAnyE_takeP (i := 10) (v := ?v10_1) rfl (by kernel_rfl) (fun _ _ _ h => h) ⟨by rfl, ?y10_1⟩ (by assumption) ?r10_1
    case y10_1 => (intro w; go_simp; try with_reducible rfl)
    try simp only [Act.put, yA, yB, yC, yD, yE, yF]
    refine wpAnyE_takeP (i := 11) (v := ?v11_1) rfl (by kernel_rfl) (fun _ _ _ h => h) ⟨by rfl, ?y11_1⟩ (by assumption) ?r11_1
    case y11_1 => (intro w; go_simp; try with_reducible rfl)
    try simp only [Act.put, yA, yB, yC, yD, yE, yF]
    refine wpAnyE_takeL (i := 12) (c := 13) (v := ?v12_1) rfl (by kernel_rfl) (fun _ _ _ h => h) ⟨by rfl, ?y12_1⟩ (by assumption) ?r12_1
    case y12_1 => (intro w hSw; go_split_ands; go_simp; try with_reducible rfl)
    try simp only [Act.put, yA, yB, yC, yD, yE, yF]
    refine wpAnyE_one (i := 13) rfl (by kernel_rfl) (fun K hK => ?_)
    go_simp
    refine H_hadd.out.mono ?_; rintro e w1 hr; obtain ⟨rv, l, rfl, hop, hnorm, hval⟩ := hr; have hop := hop.of_drew; have kz := (H_hz.out.str.keep hop.keep (H_nz.out ())).c1; have kx := (H_hx.out.str.keep hop.keep (H_nx.out ())).c1; have ky := (H_hy.out.str.keep hop.keep (H_ny.out ())).c1; have kf := (H_hz.out.str.keep hop.keep (H_nz.out ())).f1; have kf0 := (H_hz.out.str.keep hop.keep (H_nz.out ())).f0; have kz0 := (H_hz.out.str.keep hop.keep (H_nz.out ())).c0; obtain ⟨ra, rc, hrv⟩ := hop.nat.form; generalize hll : l.length = nl at *; subst hrv; have H_hop := Lib.hid hop; have H_hnorm := Lib.hid hnorm; have H_hval := Lib.hid hval; have H_hll := Lib.hid hll; clear hop hnorm hval hll
    go_wp2_with (fail)
    have hHeldB : ((fun (w' : World) => w'.cell? ⟨bz, oz + 1, none⟩ = some vz ∧ w'.cell? ⟨bx, ox + 1, none⟩ = some vx ∧ w'.cell? ⟨bY, oy + 1, none⟩ = some vy)) _ := ⟨kz, kx, ky⟩
    refine hK.out _ _ (fun _ => hHeldB) ?_
    clear hK K
    try simp only [Act.put, yA, yB, yC, yD, yE, yF]
    refine wpAnyE_takeP (i := 14) (v := ?v14_1) rfl (by kernel_rfl) (fun _ _ _ h => h) ⟨by rfl, ?y14_1⟩ (by assumption) ?r14_1
    case y14_1 => (intro w; go_simp; try with_reducible rfl)
    try simp only [Act.put, yA, yB, yC, yD, yE, yF]
    refine wpAnyE_takeP (i := 15) (v := ?v15_1) rfl (by kernel_rfl) (fun _ _ _ h => h) ⟨by rfl, ?y15_1⟩ (by assumption) ?r15_1
    case y15_1 => (intro w; go_simp; try with_reducible rfl)
    try simp only [Act.put, yA, yB, yC, yD, yE, yF]
    refine wpAnyE_one (i := 16) rfl (by kernel_rfl) (fun K hK => ?_)
    go_simp
    refine hK.out _ _ (fun h => Bool.noConfusion (show true = false from h)) ?_
    clear hK K
    try simp only [Act.put, yA, yB, yC, yD, yE, yF]
    refine wpAnyE_done (by kernel_rfl) ?_ _
    clear hHeldB
    by_cases hl0 : nl = 0
    · have t1 : decide (0 < nl) = false := by simp [hl0]
      have hl00 := Lib.hid hl0
      clear hl0
      go_wp2
      go_ret
      have hle : l = [] := List.eq_nil_of_length_eq_zero (by rw [H_hll.out]; exact hl00.out)
      refine IntRet.of_fresh H_kw.out ⟨rfl, IntIs.made H_hz.out.str H_hz.out.nat H_hop.out H_hnorm.out false (fun _ => rfl) _ ?_ rfl⟩
      have hv := H_hval.out
      rw [hle] at hv ⊢; rw [H_hs.out]; cases negx <;> simp [ival, val] at hv ⊢ <;> omega
    · have t1 : decide (0 < nl) = true := by simp; omega
      have hl00 := Lib.hid hl0
      clear hl0
      go_wp2
      go_ret
      have hle : l ≠ [] := fun e => hl00.out (by rw [← H_hll.out, e]; rfl)
      refine IntRet.of_fresh H_kw.out ⟨rfl, IntIs.made H_hz.out.str H_hz.out.nat H_hop.out H_hnorm.out negx (fun e => absurd e hle) _ ?_ rfl⟩
      have hv := H_hval.out
      rw [H_hs.out]; cases negx <;> simp [ival] <;> omega
  · have hs' : negy = !negx := by revert hs; cases negx <;> cases negy <;> simp
    have ts : (negx == negy) = false := by rw [hs']; cases negx <;> rfl
    have tn : (negx != negy) = true := by rw [hs']; cases negx <;> rfl
    clear hs
    have H_hs' := Lib.hid hs'; clear hs'
    go_enter Tryz.func130, Tryz.ntmps130
    go_wp2_with (go_quiet (fail))
    have hz2 := H_hz.out.drewN nq; have hx2 := H_hx.out.drewN nq; have hy2 := H_hy.out.drewN nq; have kw := fresh_drewN w nq
    have hsx2 := H_hsx.out; have hsy2 := H_hsy.out
    clear H_hz H_hx H_hy H_hsx H_hsy cx0 cx1 cy0 cy1 cz0 cz1 fz0 fz1
    have H_kw := Lib.hid kw; clear kw
    generalize w.drewN nq = wq at *
    have cx0 := hx2.str.c0; have cx1 := hx2.str.c1; have cy0 := hy2.str.c0; have cy1 := hy2.str.c1; have cz0 := hz2.str.c0; have cz1 := hz2.str.c1; have fz0 := hz2.str.f0; have fz1 := hz2.str.f1
    have hz := hz2; have hx := hx2; have hy := hy2; have hsx := hsx2; have hsy := hsy2
    clear hz2 hx2 hy2 hsx2 hsy2
    have hadd : Calls Tryz.prog 155 #[vz, vx, vy] wq.drew (NatRet wq.drew vz (val lx + val ly)) := nat_add vz vx vy lz lx ly _ hlx hly hz.nat hx.nat hy.nat hx.norm hy.norm hsx hsy
    have hcmp : ∀ n, Calls Tryz.prog 156 #[vx, vy] (wq.drewN n) (Quiet (wq.drewN n) (.int .i64 (cmpN (val lx) (val ly)))) := fun n => nat_cmp vx vy lx ly _ (by omega) (by omega) hx.nat hy.nat hx.norm hy.norm
    have hsub : val ly ≤ val lx → ∀ n, Calls Tryz.prog 157 #[vz, vx, vy] (wq.drewN n).drew (NatRet (wq.drewN n).drew vz (val lx - val ly)) := fun hle n => nat_sub vz vx vy lz lx ly _ hlx hle hz.nat hx.nat hy.nat hx.norm hy.norm hsx hsy
    have hbus : val lx ≤ val ly → ∀ n, Calls Tryz.prog 157 #[vz, vy, vx] (wq.drewN n).drew (NatRet (wq.drewN n).drew vz (val ly - val lx)) := fun hle n => nat_sub vz vy vx lz ly lx _ hly hle hz.nat hy.nat hx.nat hy.norm hx.norm hsy hsx
    have nz : ∀ (_ : Unit), ¬ (vz.ownBlock = some bz) := fun _ e => IntIs.ne hz.str hz.nat e rfl
    have nx : ∀ (_ : Unit), ¬ (vz.ownBlock = some bx) := fun _ e => IntIs.ne hx.str hz.nat e rfl
    have ny : ∀ (_ : Unit), ¬ (vz.ownBlock = some bY) := fun _ e => IntIs.ne hy.str hz.nat e rfl
    have H_hz := Lib.hid hz; clear hz
    have H_hx := Lib.hid hx; clear hx
    have H_hy := Lib.hid hy; clear hy
    have H_hsx := Lib.hid hsx; clear hsx
    have H_hsy := Lib.hid hsy; clear hsy
    have H_hadd := Lib.hid hadd; clear hadd
    have H_hcmp := Lib.hid hcmp; clear hcmp
    have H_hsub := Lib.hid hsub; clear hsub
    have H_hbus := Lib.hid hbus; clear hbus
    have H_nz := Lib.hid nz; clear nz
    have H_nx := Lib.hid nx; clear nx
    have H_ny := Lib.hid ny; clear ny
    by_cases hle : val ly ≤ val lx
    · have hc : decide ((0 : Int) ≤ cmpN (val lx) (val ly)) = true := by
        unfold cmpN; rw [if_neg (by omega)]; split <;> simp
      have hsub := H_hsub.out hle
      have H_hle := Lib.hid hle; clear hle
      have H_hsub := Lib.hid hsub; clear hsub
      go_wp2_with (go_quiet ((go_at_call 156; exact quietOf (H_hcmp.out _))))
      have hz2 := H_hz.out.drewN nq; have hx2 := H_hx.out.drewN nq; have hy2 := H_hy.out.drewN nq; have kw2 := H_kw.out.trans (fresh_drewN wq nq) (fun _ _ h => h) (fun _ _ h => h)
      have hcall := H_hsub.out nq
      clear H_hz H_hx H_hy cx0 cx1 cy0 cy1 cz0 cz1 fz0 fz1 H_kw H_hadd H_hcmp H_hsub H_hbus
      generalize wq.drewN nq = wr at *
      have cx0 := hx2.str.c0; have cx1 := hx2.str.c1; have cy0 := hy2.str.c0; have cy1 := hy2.str.c1; have cz0 := hz2.str.c0; have cz1 := hz2.str.c1; have fz0 := hz2.str.f0; have fz1 := hz2.str.f1
      have hz := hz2; have hx := hx2; have hy := hy2; have kw := kw2
      clear hz2 hx2 hy2 kw2
      have H_hz := Lib.hid hz; clear hz
      have H_hx := Lib.hid hx; clear hx
      have H_hy := Lib.hid hy; clear hy
      have H_kw := Lib.hid kw; clear kw
      have H_hcall := Lib.hid hcall; clear hcall
      refine wp_region_E (S := (fun (w' : World) => w'.cell? ⟨bz, oz + 1, none⟩ = some vz ∧ w'.cell? ⟨bx, ox + 1, none⟩ = some vx ∧ w'.cell? ⟨bY, oy + 1, none⟩ = some vy)) 16 (by kernel_rfl) (by exact ⟨cz1, cx1, cy1⟩) (fun hHeld => ?_)
      refine wpAnyE_takeP (i := 0) (v := ?v0_2) rfl (by kernel_rfl) (fun _ _ _ h => h) ⟨by rfl, ?y0_2⟩ (by assumption) ?r0_2
      case y0_2 => (intro w; go_simp; try with_reducible rfl)
      try simp only [Act.put, yA, yB, yD, yE, yF]
      refine wpAnyE_takeP (i := 1) (v := ?v1_2) rfl (by kernel_rfl) (fun _ _ _ h => h) ⟨by rfl, ?y1_2⟩ (by assumption) ?r1_2
      case y1_2 => (intro w; go_simp; try with_reducible rfl)
      try simp only [Act.put, yA, yB, yC, yD, yE, yF]
      refine wpAnyE_takeP (i := 2) (v := ?v2_2) rfl (by kernel_rfl) (fun _ _ _ h => h) ⟨by rfl, ?y2_2⟩ (by assumption) ?r2_2
      case y2_2 => (intro w; go_simp; try with_reducible rfl)
      try simp only [Act.put, yA, yB, yC, yD, yE, yF]
      refine wpAnyE_takeP (i := 3) (v := ?v3_2) rfl (by kernel_rfl) (fun _ _ _ h => h) ⟨by rfl, ?y3_2⟩ (by assumption) ?r3_2
      case y3_2 => (intro w; go_simp; try with_reducible rfl)
      try simp only [Act.put, yA, yB, yC, yD, yE, yF]
      refine wpAnyE_takeL (i := 4) (c := 13) (v := ?v4_2) rfl (by kernel_rfl) (fun _ _ _ h => h) ⟨by rfl, ?y4_2⟩ (by assumption) ?r4_2
      case y4_2 => (intro w hSw; go_split_ands; go_simp; try with_reducible rfl)
      try simp only [Act.put, yA, yB, yC, yD, yE, yF]
      refine wpAnyE_takeP (i := 5) (v := ?v5_2) rfl (by kernel_rfl) (fun _ _ _ h => h) ⟨by rfl, ?y5_2⟩ (by assumption) ?r5_2
      case y5_2 => (intro w; go_simp; try with_reducible rfl)
      try simp only [Act.put, yA, yB, yC, yD, yE, yF]
      refine wpAnyE_takeP (i := 6) (v := ?v6_2) rfl (by kernel_rfl) (fun _ _ _ h => h) ⟨by rfl, ?y6_2⟩ (by assumption) ?r6_2
      case y6_2 => (intro w; go_simp; try with_reducible rfl)
      try simp only [Act.put, yA, yB, yC, yD, yE, yF]
      refine wpAnyE_takeP (i := 7) (v := ?v7_2) rfl (by kernel_rfl) (fun _ _ _ h => h) ⟨by rfl, ?y7_2⟩ (by assumption) ?r7_2
      case y7_2 => (intro w; go_simp; try with_reducible rfl)
      try simp only [Act.put, yA, yB, yC, yD, yE, yF]
      refine wpAnyE_takeL (i := 8) (c := 13) (v := ?v8_2) rfl (by kernel_rfl) (fun _ _ _ h => h) ⟨by rfl, ?y8_2⟩ (by assumption) ?r8_2
      case y8_2 => (intro w hSw; go_split_ands; go_simp; try with_reducible rfl)
      try simp only [Act.put, yA, yB, yC, yD, yE, yF]
      refine wpAnyE_takeP (i := 9) (v := ?v9_2) rfl (by kernel_rfl) (fun _ _ _ h => h) ⟨by rfl, ?y9_2⟩ (by assumption) ?r9_2
      case y9_2 => (intro w; go_simp; try with_reducible rfl)
      try simp only [Act.put, yA, yB, yC, yD, yE, yF]
      refine wpAnyE_takeP (i := 10) (v := ?v10_2) rfl (by kernel_rfl) (fun _ _ _ h => h) ⟨by rfl, ?y10_2⟩ (by assumption) ?r10_2
      case y10_2 => (intro w; go_simp; try with_reducible rfl)
      try simp only [Act.put, yA, yB, yC, yD, yE, yF]
      refine wpAnyE_takeP (i := 11) (v := ?v11_2) rfl (by kernel_rfl) (fun _ _ _ h => h) ⟨by rfl, ?y11_2⟩ (by assumption) ?r11_2
      case y11_2 => (intro w; go_simp; try with_reducible rfl)
      try simp only [Act.put, yA, yB, yC, yD, yE, yF]
      refine wpAnyE_takeL (i := 12) (c := 13) (v := ?v12_2) rfl (by kernel_rfl) (fun _ _ _ h => h) ⟨by rfl, ?y12_2⟩ (by assumption) ?r12_2
      case y12_2 => (intro w hSw; go_split_ands; go_simp; try with_reducible rfl)
      try simp only [Act.put, yA, yB, yC, yD, yE, yF]
      refine wpAnyE_one (i := 13) rfl (by kernel_rfl) (fun K hK => ?_)
      go_simp
      refine H_hcall.out.mono ?_; rintro e w1 hr; obtain ⟨rv, l, rfl, hop, hnorm, hval⟩ := hr; have hop := hop.of_drew; have kz := (H_hz.out.str.keep hop.keep (H_nz.out ())).c1; have kx := (H_hx.out.str.keep hop.keep (H_nx.out ())).c1; have ky := (H_hy.out.str.keep hop.keep (H_ny.out ())).c1; have kf := (H_hz.out.str.keep hop.keep (H_nz.out ())).f1; have kf0 := (H_hz.out.str.keep hop.keep (H_nz.out ())).f0; have kz0 := (H_hz.out.str.keep hop.keep (H_nz.out ())).c0; obtain ⟨ra, rc, hrv⟩ := hop.nat.form; generalize hll : l.length = nl at *; subst hrv; have H_hop := Lib.hid hop; have H_hnorm := Lib.hid hnorm; have H_hval := Lib.hid hval; have H_hll := Lib.hid hll; clear hop hnorm hval hll
      go_wp2_with (fail)
      have hHeldB : ((fun (w' : World) => w'.cell? ⟨bz, oz + 1, none⟩ = some vz ∧ w'.cell? ⟨bx, ox + 1, none⟩ = some vx ∧ w'.cell? ⟨bY, oy + 1, none⟩ = some vy)) _ := ⟨kz, kx, ky⟩
      refine hK.out _ _ (fun _ => hHeldB) ?_
      clear hK K
      try simp only [Act.put, yA, yB, yC, yD, yE, yF]
      refine wpAnyE_takeP (i := 14) (v := ?v14_2) rfl (by kernel_rfl) (fun _ _ _ h => h) ⟨by rfl, ?y14_2⟩ (by assumption) ?r14_2
      case y14_2 => (intro w; go_simp; try with_reducible rfl)
      try simp only [Act.put, yA, yB, yC, yD, yE, yF]
      refine wpAnyE_takeP (i := 15) (v := ?v15_2) rfl (by kernel_rfl) (fun _ _ _ h => h) ⟨by rfl, ?y15_2⟩ (by assumption) ?r15_2
      case y15_2 => (intro w; go_simp; try with_reducible rfl)
      try simp only [Act.put, yA, yB, yC, yD, yE, yF]
      refine wpAnyE_one (i := 16) rfl (by kernel_rfl) (fun K hK => ?_)
      go_simp
      refine hK.out _ _ (fun h => Bool.noConfusion (show true = false from h)) ?_
      clear hK K
      try simp only [Act.put, yA, yB, yC, yD, yE, yF]
      refine wpAnyE_done (by kernel_rfl) ?_ _
      clear hHeldB
      by_cases hl0 : nl = 0
      · have t1 : decide (0 < nl) = false := by simp [hl0]
        have hl00 := Lib.hid hl0
        clear hl0
        go_wp2
        go_ret
        have hle : l = [] := List.eq_nil_of_length_eq_zero (by rw [H_hll.out]; exact hl00.out)
        refine IntRet.of_fresh H_kw.out ⟨rfl, IntIs.made H_hz.out.str H_hz.out.nat H_hop.out H_hnorm.out false (fun _ => rfl) _ ?_ rfl⟩
        have hv := H_hval.out
        rw [hle] at hv ⊢; rw [H_hs'.out]; have := H_hle.out; cases negx <;> simp [ival, val] at hv ⊢ <;> omega
      · have t1 : decide (0 < nl) = true := by simp; omega
        have hl00 := Lib.hid hl0
        clear hl0
        go_wp2
        go_ret
        have hle : l ≠ [] := fun e => hl00.out (by rw [← H_hll.out, e]; rfl)
        refine IntRet.of_fresh H_kw.out ⟨rfl, IntIs.made H_hz.out.str H_hz.out.nat H_hop.out H_hnorm.out negx (fun e => absurd e hle) _ ?_ rfl⟩
        have hv := H_hval.out
        rw [H_hs'.out]; have := H_hle.out; cases negx <;> simp [ival] <;> omega
    · have hle' : val lx ≤ val ly := by omega
      have hc : decide ((0 : Int) ≤ cmpN (val lx) (val ly)) = false := by
        unfold cmpN; rw [if_pos (by omega)]; rfl
      have hbus := H_hbus.out hle'
      have H_hle := Lib.hid hle; clear hle
      have H_hle' := Lib.hid hle'; clear hle'
      have H_hbus := Lib.hid hbus; clear hbus
      go_wp2_with (go_quiet ((go_at_call 156; exact quietOf (H_hcmp.out _))))
      have hz2 := H_hz.out.drewN nq; have hx2 := H_hx.out.drewN nq; have hy2 := H_hy.out.drewN nq; have kw2 := H_kw.out.trans (fresh_drewN wq nq) (fun _ _ h => h) (fun _ _ h => h)
      have hcall := H_hbus.out nq
      clear H_hz H_hx H_hy cx0 cx1 cy0 cy1 cz0 cz1 fz0 fz1 H_kw H_hadd H_hcmp H_hsub H_hbus
      generalize wq.drewN nq = wr at *
      have cx0 := hx2.str.c0; have cx1 := hx2.str.c1; have cy0 := hy2.str.c0; have cy1 := hy2.str.c1; have cz0 := hz2.str.c0; have cz1 := hz2.str.c1; have fz0 := hz2.str.f0; have fz1 := hz2.str.f1
      have hz := hz2; have hx := hx2; have hy := hy2; have kw := kw2
      clear hz2 hx2 hy2 kw2
      have H_hz := Lib.hid hz; clear hz
      have H_hx := Lib.hid hx; clear hx
      have H_hy := Lib.hid hy; clear hy
      have H_kw := Lib.hid kw; clear kw
      have H_hcall := Lib.hid hcall; clear hcall
      refine wp_region_E (S := (fun (w' : World) => w'.cell? ⟨bz, oz + 1, none⟩ = some vz ∧ w'.cell? ⟨bx, ox + 1, none⟩ = some vx ∧ w'.cell? ⟨bY, oy + 1, none⟩ = some vy)) 16 (by kernel_rfl) (by exact ⟨cz1, cx1, cy1⟩) (fun hHeld => ?_)
      refine wpAnyE_takeP (i := 0) (v := ?v0_3) rfl (by kernel_rfl) (fun _ _ _ h => h) ⟨by rfl, ?y0_3⟩ (by assumption) ?r0_3
      case y0_3 => (intro w; go_simp; try with_reducible rfl)
      try simp only [Act.put, yA, yB, yD, yE, yF]
      refine wpAnyE_takeP (i := 1) (v := ?v1_3) rfl (by kernel_rfl) (fun _ _ _ h => h) ⟨by rfl, ?y1_3⟩ (by assumption) ?r1_3
      case y1_3 => (intro w; go_simp; try with_reducible rfl)
      try simp only [Act.put, yA, yB, yC, yD, yE, yF]
      refine wpAnyE_takeP (i := 2) (v := ?v2_3) rfl (by kernel_rfl) (fun _ _ _ h => h) ⟨by rfl, ?y2_3⟩ (by assumption) ?r2_3
      case y2_3 => (intro w; go_simp; try with_reducible rfl)
      try simp only [Act.put, yA, yB, yC, yD, yE, yF]
      refine wpAnyE_takeP (i := 3) (v := ?v3_3) rfl (by kernel_rfl) (fun _ _ _ h => h) ⟨by rfl, ?y3_3⟩ (by assumption) ?r3_3
      case y3_3 => (intro w; go_simp; try with_reducible rfl)
      try simp only [Act.put, yA, yB, yC, yD, yE, yF]
      refine wpAnyE_takeL (i := 4) (c := 13) (v := ?v4_3) rfl (by kernel_rfl) (fun _ _ _ h => h) ⟨by rfl, ?y4_3⟩ (by assumption) ?r4_3
      case y4_3 => (intro w hSw; go_split_ands; go_simp; try with_reducible rfl)
      try simp only [Act.put, yA, yB, yC, yD, yE, yF]
      refine wpAnyE_takeP (i := 5) (v := ?v5_3) rfl (by kernel_rfl) (fun _ _ _ h => h) ⟨by rfl, ?y5_3⟩ (by assumption) ?r5_3
      case y5_3 => (intro w; go_simp; try with_reducible rfl)
      try simp only [Act.put, yA, yB, yC, yD, yE, yF]
      refine wpAnyE_takeP (i := 6) (v := ?v6_3) rfl (by kernel_rfl) (fun _ _ _ h => h) ⟨by rfl, ?y6_3⟩ (by assumption) ?r6_3
      case y6_3 => (intro w; go_simp; try with_reducible rfl)
      try simp only [Act.put, yA, yB, yC, yD, yE, yF]
      refine wpAnyE_takeP (i := 7) (v := ?v7_3) rfl (by kernel_rfl) (fun _ _ _ h => h) ⟨by rfl, ?y7_3⟩ (by assumption) ?r7_3
      case y7_3 => (intro w; go_simp; try with_reducible rfl)
      try simp only [Act.put, yA, yB, yC, yD, yE, yF]
      refine wpAnyE_takeL (i := 8) (c := 13) (v := ?v8_3) rfl (by kernel_rfl) (fun _ _ _ h => h) ⟨by rfl, ?y8_3⟩ (by assumption) ?r8_3
      case y8_3 => (intro w hSw; go_split_ands; go_simp; try with_reducible rfl)
      try simp only [Act.put, yA, yB, yC, yD, yE, yF]
      refine wpAnyE_takeP (i := 9) (v := ?v9_3) rfl (by kernel_rfl) (fun _ _ _ h => h) ⟨by rfl, ?y9_3⟩ (by assumption) ?r9_3
      case y9_3 => (intro w; go_simp; try with_reducible rfl)
      try simp only [Act.put, yA, yB, yC, yD, yE, yF]
      refine wpAnyE_takeP (i := 10) (v := ?v10_3) rfl (by kernel_rfl) (fun _ _ _ h => h) ⟨by rfl, ?y10_3⟩ (by assumption) ?r10_3
      case y10_3 => (intro w; go_simp; try with_reducible rfl)
      try simp only [Act.put, yA, yB, yC, yD, yE, yF]
      refine wpAnyE_takeP (i := 11) (v := ?v11_3) rfl (by kernel_rfl) (fun _ _ _ h => h) ⟨by rfl, ?y11_3⟩ (by assumption) ?r11_3
      case y11_3 => (intro w; go_simp; try with_reducible rfl)
      try simp only [Act.put, yA, yB, yC, yD, yE, yF]
      refine wpAnyE_takeL (i := 12) (c := 13) (v := ?v12_3) rfl (by kernel_rfl) (fun _ _ _ h => h) ⟨by rfl, ?y12_3⟩ (by assumption) ?r12_3
      case y12_3 => (intro w hSw; go_split_ands; go_simp; try with_reducible rfl)
      try simp only [Act.put, yA, yB, yC, yD, yE, yF]
      refine wpAnyE_one (i := 13) rfl (by kernel_rfl) (fun K hK => ?_)
      go_simp
      refine H_hcall.out.mono ?_; rintro e w1 hr; obtain ⟨rv, l, rfl, hop, hnorm, hval⟩ := hr; have hop := hop.of_drew; have kz := (H_hz.out.str.keep hop.keep (H_nz.out ())).c1; have kx := (H_hx.out.str.keep hop.keep (H_nx.out ())).c1; have ky := (H_hy.out.str.keep hop.keep (H_ny.out ())).c1; have kf := (H_hz.out.str.keep hop.keep (H_nz.out ())).f1; have kf0 := (H_hz.out.str.keep hop.keep (H_nz.out ())).f0; have kz0 := (H_hz.out.str.keep hop.keep (H_nz.out ())).c0; obtain ⟨ra, rc, hrv⟩ := hop.nat.form; generalize hll : l.length = nl at *; subst hrv; have H_hop := Lib.hid hop; have H_hnorm := Lib.hid hnorm; have H_hval := Lib.hid hval; have H_hll := Lib.hid hll; clear hop hnorm hval hll
      go_wp2_with (fail)
      have hHeldB : ((fun (w' : World) => w'.cell? ⟨bz, oz + 1, none⟩ = some vz ∧ w'.cell? ⟨bx, ox + 1, none⟩ = some vx ∧ w'.cell? ⟨bY, oy + 1, none⟩ = some vy)) _ := ⟨kz, kx, ky⟩
      refine hK.out _ _ (fun _ => hHeldB) ?_
      clear hK K
      try simp only [Act.put, yA, yB, yC, yD, yE, yF]
      refine wpAnyE_takeP (i := 14) (v := ?v14_3) rfl (by kernel_rfl) (fun _ _ _ h => h) ⟨by rfl, ?y14_3⟩ (by assumption) ?r14_3
      case y14_3 => (intro w; go_simp; try with_reducible rfl)
      try simp only [Act.put, yA, yB, yC, yD, yE, yF]
      refine wpAnyE_takeP (i := 15) (v := ?v15_3) rfl (by kernel_rfl) (fun _ _ _ h => h) ⟨by rfl, ?y15_3⟩ (by assumption) ?r15_3
      case y15_3 => (intro w; go_simp; try with_reducible rfl)
      try simp only [Act.put, yA, yB, yC, yD, yE, yF]
      refine wpAnyE_one (i := 16) rfl (by kernel_rfl) (fun K hK => ?_)
      go_simp
      refine hK.out _ _ (fun h => Bool.noConfusion (show true = false from h)) ?_
      clear hK K
      try simp only [Act.put, yA, yB, yC, yD, yE, yF]
      refine wpAnyE_done (by kernel_rfl) ?_ _
      clear hHeldB
      by_cases hl0 : nl = 0
      · have t1 : decide (0 < nl) = false := by simp [hl0]
        have hl00 := Lib.hid hl0
        clear hl0
        go_wp2
        go_ret
        have hle : l = [] := List.eq_nil_of_length_eq_zero (by rw [H_hll.out]; exact hl00.out)
        refine IntRet.of_fresh H_kw.out ⟨rfl, IntIs.made H_hz.out.str H_hz.out.nat H_hop.out H_hnorm.out false (fun _ => rfl) _ ?_ rfl⟩
        have hv := H_hval.out
        rw [hle] at hv ⊢; rw [H_hs'.out]; have := H_hle.out; cases negx <;> simp [ival, val] at hv ⊢ <;> omega
      · have t1 : decide (0 < nl) = true := by simp; omega
        have hl00 := Lib.hid hl0
        clear hl0
        go_wp2
        go_ret
        have hle : l ≠ [] := fun e => hl00.out (by rw [← H_hll.out, e]; rfl)
        refine IntRet.of_fresh H_kw.out ⟨rfl, IntIs.made H_hz.out.str H_hz.out.nat H_hop.out H_hnorm.out (!negx) (fun e => absurd e hle) _ ?_ rfl⟩
        have hv := H_hval.out
        rw [H_hs'.out]; have := H_hle.out; cases negx <;> simp [ival] <;> omega

end Go.Proofs.YtmgidnjpkbgmgabGreatDoor

/- The contracts of math/big's integers: Mul. -/
namespace Go.Proofs.YtmgidnjpkbgmgabGreatDoor
open Go.RowKit

theorem ival_mul_zero {n m : Bool} {l k : List Nat} (h : val l * val k = 0) : ival n l * ival m k = ival false [] := by
  have h' : (val l : Int) * (val k : Int) = 0 := by rw [← Int.natCast_mul, h]; rfl
  have e : ival false [] = 0 := rfl
  rw [e]
  cases n <;> cases m <;> simp only [ival, if_true, if_false, Bool.false_eq_true, Int.neg_mul, Int.mul_neg, h'] <;> rfl

theorem ival_mul {n m : Bool} {l k j : List Nat} (h : val j = val l * val k) : ival (n != m) j = ival n l * ival m k := by
  cases n <;> cases m <;> simp [ival, h, Int.neg_mul, Int.mul_neg]

set_option maxRecDepth 20000 in
set_option maxHeartbeats 2000000 in
theorem Int_mul (bz oz bx ox bY oy : Nat) (negz negx negy : Bool) (vz vx vy : Value) (lz lx ly : List Nat) (stk : Option Addr) (w : World) (hG : Glob w) (hlx : lx.length < 40) (hly : ly.length < 40) (hne : bx ≠ bY)
    (hz : IntIs w bz oz negz vz lz) (hx : IntIs w bx ox negx vx lx) (hy : IntIs w bY oy negy vy ly) (hsx : Sep vz vx) (hsy : Sep vz vy) :
    Calls Tryz.prog 161 #[.pointer (some ⟨bz, oz, none⟩), .pointer stk, .pointer (some ⟨bx, ox, none⟩), .pointer (some ⟨bY, oy, none⟩)] w (IntSet w bz oz vz (ival negx lx * ival negy ly)) := by
  have hmul : Calls Tryz.prog 186 #[vz, .pointer stk, vx, vy] w.drew (NatRet w.drew vz (val lx * val ly)) := nat_mul vz vx vy stk lz lx ly _ (hG.fresh (Keep.refl _ _).drew) hlx hly hz.nat hx.nat hy.nat hsx hsy
  have heq : (binOp .eql 132 (.pointer (some ⟨bx, ox, none⟩)) (.pointer (some ⟨bY, oy, none⟩))).run Tryz.prog w = .ok (.bool false) w := StrAt.eql_ne hx.str hy.str hne Tryz.underlying132 (by kernel_rfl)
  have nz : ¬ (vz.ownBlock = some bz) := fun e => IntIs.ne hz.str hz.nat e rfl
  have nx : ¬ (vz.ownBlock = some bx) := fun e => IntIs.ne hx.str hz.nat e rfl
  have ny : ¬ (vz.ownBlock = some bY) := fun e => IntIs.ne hy.str hz.nat e rfl
  have cx0 := hx.str.c0; have cx1 := hx.str.c1; have cy0 := hy.str.c0; have cy1 := hy.str.c1; have cz0 := hz.str.c0; have cz1 := hz.str.c1; have fz0 := hz.str.f0; have fz1 := hz.str.f1
  have H_hG := Lib.hid hG; clear hG
  have H_hz := Lib.hid hz; clear hz
  have H_hx := Lib.hid hx; clear hx
  have H_hy := Lib.hid hy; clear hy
  have H_hsx := Lib.hid hsx; clear hsx
  have H_hsy := Lib.hid hsy; clear hsy
  have H_hmul := Lib.hid hmul; clear hmul
  have H_nz := Lib.hid nz; clear nz
  have H_nx := Lib.hid nx; clear nx
  have H_ny := Lib.hid ny; clear ny
  go_enter Tryz.func161, Tryz.ntmps161
  go_wp2_with (fail)
  clear heq
  refine wp_region_E (S := (fun (w' : World) => w'.cell? ⟨bz, oz + 1, none⟩ = some vz ∧ w'.cell? ⟨bx, ox + 1, none⟩ = some vx ∧ w'.cell? ⟨bY, oy + 1, none⟩ = some vy)) 17 (by kernel_rfl) (by exact ⟨cz1, cx1, cy1⟩) (fun hHeld => ?_)
  refine wpAnyE_takeP (i := 0) (v := ?v0_3) rfl (by kernel_rfl) (fun _ _ _ h => h) ⟨by rfl, ?y0_3⟩ (by assumption) ?r0_3
  case y0_3 => (intro w; go_simp; try with_reducible rfl)
  try simp only [Act.put, yA, yB, yD, yE, yF]
  refine wpAnyE_takeP (i := 1) (v := ?v1_3) rfl (by kernel_rfl) (fun _ _ _ h => h) ⟨by rfl, ?y1_3⟩ (by assumption) ?r1_3
  case y1_3 => (intro w; go_simp; try with_reducible rfl)
  try simp only [Act.put, yA, yB, yC, yD, yE, yF]
  refine wpAnyE_takeP (i := 2) (v := ?v2_3) rfl (by kernel_rfl) (fun _ _ _ h => h) ⟨by rfl, ?y2_3⟩ (by assumption) ?r2_3
  case y2_3 => (intro w; go_simp; try with_reducible rfl)
  try simp only [Act.put, yA, yB, yC, yD, yE, yF]
  refine wpAnyE_takeP (i := 3) (v := ?v3_3) rfl (by kernel_rfl) (fun _ _ _ h => h) ⟨by rfl, ?y3_3⟩ (by assumption) ?r3_3
  case y3_3 => (intro w; go_simp; try with_reducible rfl)
  try simp only [Act.put, yA, yB, yC, yD, yE, yF]
  refine wpAnyE_takeL (i := 4) (c := 14) (v := ?v4_3) rfl (by kernel_rfl) (fun _ _ _ h => h) ⟨by rfl, ?y4_3⟩ (by assumption) ?r4_3
  case y4_3 => (intro w hSw; go_split_ands; go_simp; try with_reducible rfl)
  try simp only [Act.put, yA, yB, yC, yD, yE, yF]
  refine wpAnyE_takeP (i := 5) (v := ?v5_3) rfl (by kernel_rfl) (fun _ _ _ h => h) ⟨by rfl, ?y5_3⟩ (by assumption) ?r5_3
  case y5_3 => (intro w; go_simp; try with_reducible rfl)
  try simp only [Act.put, yA, yB, yC, yD, yE, yF]
  refine wpAnyE_takeP (i := 6) (v := ?v6_3) rfl (by kernel_rfl) (fun _ _ _ h => h) ⟨by rfl, ?y6_3⟩ (by assumption) ?r6_3
  case y6_3 => (intro w; go_simp; try with_reducible rfl)
  try simp only [Act.put, yA, yB, yC, yD, yE, yF]
  refine wpAnyE_takeP (i := 7) (v := ?v7_3) rfl (by kernel_rfl) (fun _ _ _ h => h) ⟨by rfl, ?y7_3⟩ (by assumption) ?r7_3
  case y7_3 => (intro w; go_simp; try with_reducible rfl)
  try simp only [Act.put, yA, yB, yC, yD, yE, yF]
  refine wpAnyE_takeP (i := 8) (v := ?v8_3) rfl (by kernel_rfl) (fun _ _ _ h => h) ⟨by rfl, ?y8_3⟩ (by assumption) ?r8_3
  case y8_3 => (intro w; go_simp; try with_reducible rfl)
  try simp only [Act.put, yA, yB, yC, yD, yE, yF]
  refine wpAnyE_takeL (i := 9) (c := 14) (v := ?v9_3) rfl (by kernel_rfl) (fun _ _ _ h => h) ⟨by rfl, ?y9_3⟩ (by assumption) ?r9_3
  case y9_3 => (intro w hSw; go_split_ands; go_simp; try with_reducible rfl)
  try simp only [Act.put, yA, yB, yC, yD, yE, yF]
  refine wpAnyE_takeP (i := 10) (v := ?v10_3) rfl (by kernel_rfl) (fun _ _ _ h => h) ⟨by rfl, ?y10_3⟩ (by assumption) ?r10_3
  case y10_3 => (intro w; go_simp; try with_reducible rfl)
  try simp only [Act.put, yA, yB, yC, yD, yE, yF]
  refine wpAnyE_takeP (i := 11) (v := ?v11_3) rfl (by kernel_rfl) (fun _ _ _ h => h) ⟨by rfl, ?y11_3⟩ (by assumption) ?r11_3
  case y11_3 => (intro w; go_simp; try with_reducible rfl)
  try simp only [Act.put, yA, yB, yC, yD, yE, yF]
  refine wpAnyE_takeP (i := 12) (v := ?v12_3) rfl (by kernel_rfl) (fun _ _ _ h => h) ⟨by rfl, ?y12_3⟩ (by assumption) ?r12_3
  case y12_3 => (intro w; go_simp; try with_reducible rfl)
  try simp only [Act.put, yA, yB, yC, yD, yE, yF]
  refine wpAnyE_takeL (i := 13) (c := 14) (v := ?v13_3) rfl (by kernel_rfl) (fun _ _ _ h => h) ⟨by rfl, ?y13_3⟩ (by assumption) ?r13_3
  case y13_3 => (intro w hSw; go_split_ands; go_simp; try with_reducible rfl)
  try simp only [Act.put, yA, yB, yC, yD, yE, yF]
  refine wpAnyE_one (i := 14) rfl (by kernel_rfl) (fun K hK => ?_)
  go_simp
  refine H_hmul.out.mono ?_; rintro e w1 hr; obtain ⟨rv, l, rfl, hop, hnorm, hval⟩ := hr; have hop := hop.of_drew; have kz := (H_hz.out.str.keep hop.keep H_nz.out).c1; have kx := (H_hx.out.str.keep hop.keep H_nx.out).c1; have ky := (H_hy.out.str.keep hop.keep H_ny.out).c1; have kf := (H_hz.out.str.keep hop.keep H_nz.out).f1; have kf0 := (H_hz.out.str.keep hop.keep H_nz.out).f0; have kz0 := (H_hz.out.str.keep hop.keep H_nz.out).c0; have kx0 := (H_hx.out.str.keep hop.keep H_nx.out).c0; have ky0 := (H_hy.out.str.keep hop.keep H_ny.out).c0; obtain ⟨ra, rc, hrv⟩ := hop.nat.form; generalize hll : l.length = nl at *; subst hrv; have H_hop := Lib.hid hop; have H_hnorm := Lib.hid hnorm; have H_hval := Lib.hid hval; have H_hll := Lib.hid hll; clear hop hnorm hval hll
  go_wp2_with (fail)
  have hHeldB : ((fun (w' : World) => w'.cell? ⟨bz, oz + 1, none⟩ = some vz ∧ w'.cell? ⟨bx, ox + 1, none⟩ = some vx ∧ w'.cell? ⟨bY, oy + 1, none⟩ = some vy)) _ := ⟨kz, kx, ky⟩
  refine hK.out _ _ (fun _ => hHeldB) ?_
  clear hK K
  try simp only [Act.put, yA, yB, yC, yD, yE, yF]
  refine wpAnyE_takeP (i := 15) (v := ?v15_3) rfl (by kernel_rfl) (fun _ _ _ h => h) ⟨by rfl, ?y15_3⟩ (by assumption) ?r15_3
  case y15_3 => (intro w; go_simp; try with_reducible rfl)
  try simp only [Act.put, yA, yB, yC, yD, yE, yF]
  refine wpAnyE_takeP (i := 16) (v := ?v16_3) rfl (by kernel_rfl) (fun _ _ _ h => h) ⟨by rfl, ?y16_3⟩ (by assumption) ?r16_3
  case y16_3 => (intro w; go_simp; try with_reducible rfl)
  try simp only [Act.put, yA, yB, yC, yD, yE, yF]
  refine wpAnyE_one (i := 17) rfl (by kernel_rfl) (fun K hK => ?_)
  go_simp
  refine hK.out _ _ (fun h => Bool.noConfusion (show true = false from h)) ?_
  clear hK K
  try simp only [Act.put, yA, yB, yC, yD, yE, yF]
  refine wpAnyE_done (by kernel_rfl) ?_ _
  clear hHeldB
  have hsV : StrAt (w1.setCell ⟨bz, oz + 1, none⟩ (Value.slice ra nl rc)) bz oz negz (Value.slice ra nl rc) := (H_hz.out.str.keep H_hop.out.keep H_nz.out).set1 _
  have dv : ∀ n : Bool, vz ≠ .bool n := fun n e => by obtain ⟨a, c, h⟩ := H_hz.out.nat.form; rw [h] at e; simp at e
  have dx : bx ≠ bz ∨ ox ≠ oz + 1 := by
    by_cases e : bx = bz
    · right; rintro rfl; rw [e, kz] at kx0; exact dv _ (Option.some.inj kx0)
    · exact .inl e
  have dy : bY ≠ bz ∨ oy ≠ oz + 1 := by
    by_cases e : bY = bz
    · right; rintro rfl; rw [e, kz] at ky0; exact dv _ (Option.some.inj ky0)
    · exact .inl e
  have kxV : (w1.setCell ⟨bz, oz + 1, none⟩ (Value.slice ra nl rc)).cell? ⟨bx, ox, none⟩ = some (.bool negx) := (cell?_setCell_ne dx).trans kx0
  have kyV : (w1.setCell ⟨bz, oz + 1, none⟩ (Value.slice ra nl rc)).cell? ⟨bY, oy, none⟩ = some (.bool negy) := (cell?_setCell_ne dy).trans ky0
  clear dv dx dy kz kx ky kf kf0 kz0 kx0 ky0
  generalize hV : w1.setCell ⟨bz, oz + 1, none⟩ (Value.slice ra nl rc) = V at *
  have kz1V := hsV.c1; have kz0V := hsV.c0; have kf0V := hsV.f0
  clear cx0 cx1 cy0 cy1 cz0 cz1 fz0 fz1
  have H_hV := Lib.hid hV; clear hV
  have H_hsV := Lib.hid hsV; clear hsV
  by_cases hl0 : nl = 0
  · have t1 : decide (0 < nl) = false := by simp [hl0]
    have hl00 := Lib.hid hl0
    clear hl0
    go_wp2_with (fail)
    refine wp_region_E (S := (fun (w' : World) => w'.cell? ⟨bz, oz + 1, none⟩ = some (Value.slice ra nl rc) ∧ w'.cell? ⟨bx, ox, none⟩ = some (.bool negx) ∧ w'.cell? ⟨bY, oy, none⟩ = some (.bool negy))) 20 (by kernel_rfl) (by exact ⟨kz1V, kxV, kyV⟩) (fun hHeld => ?_)
    refine wpAnyE_takeP (i := 0) (v := ?v0_1) rfl (by kernel_rfl) (fun _ _ _ h => h) ⟨by rfl, ?y0_1⟩ (by assumption) ?r0_1
    case y0_1 => (intro w; go_simp; try with_reducible rfl)
    try simp only [Act.put, yA, yB, yD, yE, yF]
    refine wpAnyE_takeP (i := 1) (v := ?v1_1) rfl (by kernel_rfl) (fun _ _ _ h => h) ⟨by rfl, ?y1_1⟩ (by assumption) ?r1_1
    case y1_1 => (intro w; go_simp; try with_reducible rfl)
    try simp only [Act.put, yA, yB, yC, yD, yE, yF]
    refine wpAnyE_takeP (i := 2) (v := ?v2_1) rfl (by kernel_rfl) (fun _ _ _ h => h) ⟨by rfl, ?y2_1⟩ (by assumption) ?r2_1
    case y2_1 => (intro w; go_simp; try with_reducible rfl)
    try simp only [Act.put, yA, yB, yC, yD, yE, yF]
    refine wpAnyE_takeP (i := 3) (v := ?v3_1) rfl (by kernel_rfl) (fun _ _ _ h => h) ⟨by rfl, ?y3_1⟩ (by assumption) ?r3_1
    case y3_1 => (intro w; go_simp; try with_reducible rfl)
    try simp only [Act.put, yA, yB, yC, yD, yE, yF]
    refine wpAnyE_takeL (i := 4) (c := 19) (v := ?v4_1) rfl (by kernel_rfl) (fun _ _ _ h => h) ⟨by rfl, ?y4_1⟩ (by assumption) ?r4_1
    case y4_1 => (intro w hSw; go_split_ands; go_simp; try with_reducible rfl)
    try simp only [Act.put, yA, yB, yC, yD, yE, yF]
    refine wpAnyE_takeP (i := 5) (v := ?v5_1) rfl (by kernel_rfl) (fun _ _ _ h => h) ⟨by rfl, ?y5_1⟩ (by assumption) ?r5_1
    case y5_1 => (intro w; go_simp; try with_reducible rfl)
    try simp only [Act.put, yA, yB, yC, yD, yE, yF]
    refine wpAnyE_takeP (i := 6) (v := .bool false) rfl (by kernel_rfl) (fun _ _ _ h => h) ⟨by rfl, ?y6_1⟩ (by assumption) ?r6_1
    case y6_1 => (intro w; go_simp)
    try simp only [Act.put, yA, yB, yC, yD, yE, yF]
    refine wpAnyE_takeP (i := 7) (v := ?v7_1) rfl (by kernel_rfl) (fun _ _ _ h => h) ⟨by rfl, ?y7_1⟩ (by assumption) ?r7_1
    case y7_1 => (intro w; go_simp; try with_reducible rfl)
    try simp only [Act.put, yA, yB, yC, yD, yE, yF]
    refine wpAnyE_takeU (i := 8) rfl (by kernel_rfl) (fun _ _ _ h => h) (by rfl) (by assumption) ?_
    try simp only [Act.put, yA, yB, yC, yD, yE, yF]
    refine wpAnyE_takeU (i := 9) rfl (by kernel_rfl) (fun _ _ _ h => h) (by rfl) (by assumption) ?_
    try simp only [Act.put, yA, yB, yC, yD, yE, yF]
    refine wpAnyE_takeU (i := 10) rfl (by kernel_rfl) (fun _ _ _ h => h) (by rfl) (by assumption) ?_
    try simp only [Act.put, yA, yB, yC, yD, yE, yF]
    refine wpAnyE_takeU (i := 11) rfl (by kernel_rfl) (fun _ _ _ h => h) (by rfl) (by assumption) ?_
    try simp only [Act.put, yA, yB, yC, yD, yE, yF]
    refine wpAnyE_takeU (i := 12) rfl (by kernel_rfl) (fun _ _ _ h => h) (by rfl) (by assumption) ?_
    try simp only [Act.put, yA, yB, yC, yD, yE, yF]
    refine wpAnyE_takeU (i := 13) rfl (by kernel_rfl) (fun _ _ _ h => h) (by rfl) (by assumption) ?_
    try simp only [Act.put, yA, yB, yC, yD, yE, yF]
    refine wpAnyE_takeU (i := 14) rfl (by kernel_rfl) (fun _ _ _ h => h) (by rfl) (by assumption) ?_
    try simp only [Act.put, yA, yB, yC, yD, yE, yF]
    refine wpAnyE_takeU (i := 15) rfl (by kernel_rfl) (fun _ _ _ h => h) (by rfl) (by assumption) ?_
    try simp only [Act.put, yA, yB, yC, yD, yE, yF]
    refine wpAnyE_takeU (i := 16) rfl (by kernel_rfl) (fun _ _ _ h => h) (by rfl) (by assumption) ?_
    try simp only [Act.put, yA, yB, yC, yD, yE, yF]
    refine wpAnyE_takeP (i := 17) (v := ?v17_1) rfl (by kernel_rfl) (fun _ _ _ h => h) ⟨by rfl, ?y17_1⟩ (by assumption) ?r17_1
    case y17_1 => (intro w; go_simp; try with_reducible rfl)
    try simp only [Act.put, yA, yB, yC, yD, yE, yF]
    refine wpAnyE_takeP (i := 18) (v := ?v18_1) rfl (by kernel_rfl) (fun _ _ _ h => h) ⟨by rfl, ?y18_1⟩ (by assumption) ?r18_1
    case y18_1 => (intro w; go_simp; try with_reducible rfl)
    try simp only [Act.put, yA, yB, yC, yD, yE, yF]
    refine wpAnyE_takeP (i := 19) (v := ?v19_1) rfl (by kernel_rfl) (fun _ _ _ h => h) ⟨by rfl, ?y19_1⟩ (by assumption) ?r19_1
    case y19_1 => (intro w; go_simp; try with_reducible rfl)
    try simp only [Act.put, yA, yB, yC, yD, yE, yF]
    refine wpAnyE_one (i := 20) rfl (by kernel_rfl) (fun K hK => ?_)
    go_simp
    refine hK.out _ _ (fun h => Bool.noConfusion (show true = false from h)) ?_
    clear hK K
    try simp only [Act.put, yA, yB, yC, yD, yE, yF]
    refine wpAnyE_done (by kernel_rfl) ?_ _
    clear hHeld
    go_wp2
    go_end0
    have hle : l = [] := List.eq_nil_of_length_eq_zero (by rw [H_hll.out]; exact hl00.out)
    have hv := H_hval.out
    rw [hle] at hv
    obtain ⟨neg, v, l', h1, h2, h3, h4⟩ := IntIs.made H_hz.out.str H_hz.out.nat H_hop.out H_hnorm.out false (fun _ => rfl) (ival negx lx * ival negy ly) (by
      rw [hle]
      have h0 : val lx * val ly = 0 := hv.symm
      exact (ival_mul_zero h0).symm) (congrArg (fun W => World.setCell W ⟨bz, oz, none⟩ (.bool false)) H_hV.out.symm)
    exact ⟨rfl, neg, v, l', IntIs.drewN h1 1, h2, h3.drewN 1, h4⟩
  · have t1 : decide (0 < nl) = true := by simp; omega
    have hl00 := Lib.hid hl0
    clear hl0
    go_wp2_with (fail)
    refine wp_region_E (S := (fun (w' : World) => w'.cell? ⟨bz, oz + 1, none⟩ = some (Value.slice ra nl rc) ∧ w'.cell? ⟨bx, ox, none⟩ = some (.bool negx) ∧ w'.cell? ⟨bY, oy, none⟩ = some (.bool negy))) 20 (by kernel_rfl) (by exact ⟨kz1V, kxV, kyV⟩) (fun hHeld => ?_)
    refine wpAnyE_takeP (i := 0) (v := ?v0_2) rfl (by kernel_rfl) (fun _ _ _ h => h) ⟨by rfl, ?y0_2⟩ (by assumption) ?r0_2
    case y0_2 => (intro w; go_simp; try with_reducible rfl)
    try simp only [Act.put, yA, yB, yD, yE, yF]
    refine wpAnyE_takeP (i := 1) (v := ?v1_2) rfl (by kernel_rfl) (fun _ _ _ h => h) ⟨by rfl, ?y1_2⟩ (by assumption) ?r1_2
    case y1_2 => (intro w; go_simp; try with_reducible rfl)
    try simp only [Act.put, yA, yB, yC, yD, yE, yF]
    refine wpAnyE_takeP (i := 2) (v := ?v2_2) rfl (by kernel_rfl) (fun _ _ _ h => h) ⟨by rfl, ?y2_2⟩ (by assumption) ?r2_2
    case y2_2 => (intro w; go_simp; try with_reducible rfl)
    try simp only [Act.put, yA, yB, yC, yD, yE, yF]
    refine wpAnyE_takeP (i := 3) (v := ?v3_2) rfl (by kernel_rfl) (fun _ _ _ h => h) ⟨by rfl, ?y3_2⟩ (by assumption) ?r3_2
    case y3_2 => (intro w; go_simp; try with_reducible rfl)
    try simp only [Act.put, yA, yB, yC, yD, yE, yF]
    refine wpAnyE_takeL (i := 4) (c := 19) (v := ?v4_2) rfl (by kernel_rfl) (fun _ _ _ h => h) ⟨by rfl, ?y4_2⟩ (by assumption) ?r4_2
    case y4_2 => (intro w hSw; go_split_ands; go_simp; try with_reducible rfl)
    try simp only [Act.put, yA, yB, yC, yD, yE, yF]
    refine wpAnyE_takeP (i := 5) (v := ?v5_2) rfl (by kernel_rfl) (fun _ _ _ h => h) ⟨by rfl, ?y5_2⟩ (by assumption) ?r5_2
    case y5_2 => (intro w; go_simp; try with_reducible rfl)
    try simp only [Act.put, yA, yB, yC, yD, yE, yF]
    refine wpAnyE_takeP (i := 6) (v := .bool true) rfl (by kernel_rfl) (fun _ _ _ h => h) ⟨by rfl, ?y6_2⟩ (by assumption) ?r6_2
    case y6_2 => (intro w; go_simp)
    try simp only [Act.put, yA, yB, yC, yD, yE, yF]
    refine wpAnyE_takeP (i := 7) (v := ?v7_2) rfl (by kernel_rfl) (fun _ _ _ h => h) ⟨by rfl, ?y7_2⟩ (by assumption) ?r7_2
    case y7_2 => (intro w; go_simp; try with_reducible rfl)
    try simp only [Act.put, yA, yB, yC, yD, yE, yF]
    refine wpAnyE_takeP (i := 8) (v := ?v8_2) rfl (by kernel_rfl) (fun _ _ _ h => h) ⟨by rfl, ?y8_2⟩ (by assumption) ?r8_2
    case y8_2 => (intro w; go_simp; try with_reducible rfl)
    try simp only [Act.put, yA, yB, yC, yD, yE, yF]
    refine wpAnyE_takeP (i := 9) (v := ?v9_2) rfl (by kernel_rfl) (fun _ _ _ h => h) ⟨by rfl, ?y9_2⟩ (by assumption) ?r9_2
    case y9_2 => (intro w; go_simp; try with_reducible rfl)
    try simp only [Act.put, yA, yB, yC, yD, yE, yF]
    refine wpAnyE_takeP (i := 10) (v := ?v10_2) rfl (by kernel_rfl) (fun _ _ _ h => h) ⟨by rfl, ?y10_2⟩ (by assumption) ?r10_2
    case y10_2 => (intro w; go_simp; try with_reducible rfl)
    try simp only [Act.put, yA, yB, yC, yD, yE, yF]
    refine wpAnyE_takeL (i := 11) (c := 19) (v := ?v11_2) rfl (by kernel_rfl) (fun _ _ _ h => h) ⟨by rfl, ?y11_2⟩ (by assumption) ?r11_2
    case y11_2 => (intro w hSw; go_split_ands; go_simp; try with_reducible rfl)
    try simp only [Act.put, yA, yB, yC, yD, yE, yF]
    refine wpAnyE_takeP (i := 12) (v := ?v12_2) rfl (by kernel_rfl) (fun _ _ _ h => h) ⟨by rfl, ?y12_2⟩ (by assumption) ?r12_2
    case y12_2 => (intro w; go_simp; try with_reducible rfl)
    try simp only [Act.put, yA, yB, yC, yD, yE, yF]
    refine wpAnyE_takeP (i := 13) (v := ?v13_2) rfl (by kernel_rfl) (fun _ _ _ h => h) ⟨by rfl, ?y13_2⟩ (by assumption) ?r13_2
    case y13_2 => (intro w; go_simp; try with_reducible rfl)
    try simp only [Act.put, yA, yB, yC, yD, yE, yF]
    refine wpAnyE_takeP (i := 14) (v := ?v14_2) rfl (by kernel_rfl) (fun _ _ _ h => h) ⟨by rfl, ?y14_2⟩ (by assumption) ?r14_2
    case y14_2 => (intro w; go_simp; try with_reducible rfl)
    try simp only [Act.put, yA, yB, yC, yD, yE, yF]
    refine wpAnyE_takeL (i := 15) (c := 19) (v := ?v15_2) rfl (by kernel_rfl) (fun _ _ _ h => h) ⟨by rfl, ?y15_2⟩ (by assumption) ?r15_2
    case y15_2 => (intro w hSw; go_split_ands; go_simp; try with_reducible rfl)
    try simp only [Act.put, yA, yB, yC, yD, yE, yF]
    refine wpAnyE_takeP (i := 16) (v := ?v16_2) rfl (by kernel_rfl) (fun _ _ _ h => h) ⟨by rfl, ?y16_2⟩ (by assumption) ?r16_2
    case y16_2 => (intro w; go_simp; try with_reducible rfl)
    try simp only [Act.put, yA, yB, yC, yD, yE, yF]
    refine wpAnyE_takeP (i := 17) (v := ?v17_2) rfl (by kernel_rfl) (fun _ _ _ h => h) ⟨by rfl, ?y17_2⟩ (by assumption) ?r17_2
    case y17_2 => (intro w; go_simp; try with_reducible rfl)
    try simp only [Act.put, yA, yB, yC, yD, yE, yF]
    refine wpAnyE_takeP (i := 18) (v := ?v18_2) rfl (by kernel_rfl) (fun _ _ _ h => h) ⟨by rfl, ?y18_2⟩ (by assumption) ?r18_2
    case y18_2 => (intro w; go_simp; try with_reducible rfl)
    try simp only [Act.put, yA, yB, yC, yD, yE, yF]
    refine wpAnyE_takeP (i := 19) (v := ?v19_2) rfl (by kernel_rfl) (fun _ _ _ h => h) ⟨by rfl, ?y19_2⟩ (by assumption) ?r19_2
    case y19_2 => (intro w; go_simp; try with_reducible rfl)
    try simp only [Act.put, yA, yB, yC, yD, yE, yF]
    refine wpAnyE_one (i := 20) rfl (by kernel_rfl) (fun K hK => ?_)
    go_simp
    refine hK.out _ _ (fun h => Bool.noConfusion (show true = false from h)) ?_
    clear hK K
    try simp only [Act.put, yA, yB, yC, yD, yE, yF]
    refine wpAnyE_done (by kernel_rfl) ?_ _
    clear hHeld
    go_wp2
    go_end0
    have hle : l ≠ [] := fun e => hl00.out (by rw [← H_hll.out, e]; rfl)
    have hv := H_hval.out
    obtain ⟨neg, v, l', h1, h2, h3, h4⟩ := IntIs.made H_hz.out.str H_hz.out.nat H_hop.out H_hnorm.out (negx != negy) (fun e => absurd e hle) (ival negx lx * ival negy ly) (ival_mul hv) (congrArg (fun W => World.setCell W ⟨bz, oz, none⟩ (.bool (negx != negy))) H_hV.out.symm)
    exact ⟨rfl, neg, v, l', IntIs.drewN h1 1, h2, h3.drewN 1, h4⟩

end Go.Proofs.YtmgidnjpkbgmgabGreatDoor
