/- The contracts of math/big's natural numbers: norm, make, setWord, set, cmp. -/
import Derived.Test.YtjjolcjeiogdmabGreatDoorK15
import Derived.Test.YtjjolcjeiogdmabGreatDoorK17
namespace Go.Proofs.YtjjolcjeiogdmabGreatDoor
open Go.RowKit

/-- a slice's capacity is a number of Go's -/
def CapOK : Value → Prop
  | .slice _ _ c => c ≤ 9223372036854775807
  | _ => True

/-- the value v is a slice of words that reads as l -/
def NatAt (w : World) (v : Value) (l : List Nat) : Prop :=
  ((∀ x ∈ l, x < 18446744073709551616) ∧ CapOK v) ∧ ((v = .slice none 0 0 ∧ l = []) ∨
    ∃ g off cap L, v = .slice (some ⟨g, off, none⟩) l.length cap ∧ Blk .u64 w g L ∧ l.length ≤ cap ∧ off + cap ≤ L.length ∧ l = seg L off l.length ∧ (∀ x ∈ L, x < 18446744073709551616))

theorem NatAt.bnd {w : World} {v : Value} {l : List Nat} (h : NatAt w v l) : ∀ x ∈ l, x < 18446744073709551616 := h.1.1

theorem NatAt.cap {w : World} {a : Option Addr} {n c : Nat} {l : List Nat} (h : NatAt w (.slice a n c) l) : c ≤ 9223372036854775807 := h.1.2

theorem NatAt.nil (w : World) : NatAt w (.slice none 0 0) [] := ⟨⟨by simp, by simp [CapOK]⟩, .inl ⟨rfl, rfl⟩⟩

theorem NatAt.mk {w : World} {g off n cap : Nat} {L : List Nat} (hc : cap ≤ 9223372036854775807) (h : Blk .u64 w g L) (h1 : n ≤ cap) (h2 : off + cap ≤ L.length) (hL : ∀ x ∈ L, x < 18446744073709551616) :
    NatAt w (.slice (some ⟨g, off, none⟩) n cap) (seg L off n) :=
  ⟨⟨fun x hx => hL x (seg_mem hx), hc⟩, .inr ⟨g, off, cap, L, by rw [seg_length (by omega)], h, by rw [seg_length (by omega)]; exact h1, h2, by rw [seg_length (by omega)], hL⟩⟩

theorem NatAt.keep {S : Nat → Prop} {w w' : World} {v : Value} {l : List Nat} (h : NatAt w v l) (hk : Keep S w w') (hs : ∀ g, v.ownBlock = some g → ¬ S g) : NatAt w' v l := by
  obtain ⟨hb, h⟩ := h
  refine ⟨hb, ?_⟩
  rcases h with h | ⟨g, off, cap, L, rfl, bk, h1, h2, h3, h4⟩
  · exact .inl h
  · exact .inr ⟨g, off, cap, L, rfl, bk.keep hk (hs g rfl), h1, h2, h3, h4⟩

theorem NatAt.drewN {w : World} {v : Value} {l : List Nat} (h : NatAt w v l) (n : Nat) : NatAt (w.drewN n) v l := h
theorem NatAt.drew {w : World} {v : Value} {l : List Nat} (h : NatAt w v l) : NatAt w.drew v l := h

theorem NatAt.lt {w : World} {v : Value} {l : List Nat} (h : NatAt w v l) {g : Nat} (hg : v.ownBlock = some g) : g < w.heap.size := by
  rcases h.2 with ⟨rfl, _⟩ | ⟨g', off, cap, L, rfl, bk, _⟩
  · exact absurd hg (by simp [Value.ownBlock])
  · simp only [Value.ownBlock, Option.some.injEq] at hg; subst hg; exact bk.lt

theorem NatAt.form {w : World} {v : Value} {l : List Nat} (h : NatAt w v l) : ∃ a cap, v = .slice a l.length cap := by
  rcases h.2 with ⟨rfl, rfl⟩ | ⟨g', off, cap, L, rfl, _⟩
  · exact ⟨none, 0, rfl⟩
  · exact ⟨_, _, rfl⟩

/-- a nat that is not empty, laid open -/
theorem NatAt.open_pos {w : World} {v : Value} {l : List Nat} (h : NatAt w v l) (hn : 0 < l.length) :
    ∃ g off cap L, v = .slice (some ⟨g, off, none⟩) l.length cap ∧ Blk .u64 w g L ∧ l.length ≤ cap ∧ off + cap ≤ L.length ∧ l = seg L off l.length ∧ (∀ x ∈ L, x < 18446744073709551616) := by
  rcases h.2 with ⟨_, rfl⟩ | h
  · simp at hn
  · exact h

/-- what may be written does not lie in what is read, but where both begin alike -/
def SafeZ (zv xv : Value) : Prop := ∀ gz oz nz cz gx ox nx cx, zv = .slice (some ⟨gz, oz, none⟩) nz cz → xv = .slice (some ⟨gx, ox, none⟩) nx cx → gx ≠ gz ∨ oz = ox

theorem SafeZ.nil (v : Value) (n c : Nat) : SafeZ (.slice none n c) v := by
  intro gz oz nz cz gx ox nx cx h1 _; simp at h1

theorem SafeZ.ne {zv xv : Value} (h : ∀ g, zv.ownBlock = some g → xv.ownBlock ≠ some g) : SafeZ zv xv := by
  intro gz oz nz cz gx ox nx cx h1 h2
  subst h1 h2
  have := h gz rfl
  simp [Value.ownBlock] at this
  exact .inl this

/-- what a call that returns a number of words does: it may write what z may hold, and make anew -/
structure NatOp (w : World) (zv rv : Value) (l : List Nat) (w' : World) : Prop where
  nat : NatAt w' rv l
  keep : Keep (fun k => zv.ownBlock = some k) w w'
  own : ∀ k, rv.ownBlock = some k → zv.ownBlock = some k ∨ w.heap.size ≤ k

/-- the call returns the number n, without words of 0 at its end -/
def NatRet (w : World) (zv : Value) (n : Nat) (e : Ending) (w' : World) : Prop := ∃ rv l, e = .returned rv ∧ NatOp w zv rv l w' ∧ Norm l ∧ val l = n

theorem normK_val (l : List Nat) : ∀ n, n ≤ l.length → val (l.take (normL.normK l n)) = val (l.take n)
  | 0, _ => rfl
  | n + 1, h => by
    simp only [normL.normK]; split
    · rename_i h0
      rw [normK_val l n (by omega), val_take_succ (by omega), h0]; simp
    · rfl

set_option maxHeartbeats 400000 in
theorem norm_pos (g off cap n : Nat) (L : List Nat) (w : World) (hn : n ≤ 1000000) (bz : Blk .u64 w g L) (h1 : n ≤ cap) (h2 : off + cap ≤ L.length) :
    Calls Tryz.prog 122 #[.slice (some ⟨g, off, none⟩) n cap] w fun e w' => e = .returned (.slice (some ⟨g, off, none⟩) (normL.normK (seg L off n) n) cap) ∧ w = w' := by
  have H_bz := Lib.hid bz; clear bz
  have H_h2 := Lib.hid h2; clear h2
  go_enter Tryz.func122, Tryz.ntmps122
  go_wp2
  go_loop [3] (fun i => ∃ k : Nat, k ≤ n ∧ i = .int .i64 k ∧ Hid (normL.normK (seg L off n) n = normL.normK (seg L off n) k)) (fun i => (intOf i).toNat)
  case atStart => exact ⟨n, Nat.le_refl _, rfl, rfl⟩
  case round =>
    obtain ⟨k, hk, rfl, he⟩ := hrel
    cases k with
    | zero =>
      go_wp2
      go_ret
      refine ⟨?_, rfl⟩
      rw [he.out]; rfl
    | succ k =>
      have hc := H_bz.out.cell (o := off + k) (by have := H_h2.out; omega)
      have hs := seg_getD (L := L) (off := off) (n := n) (j := k) (by omega)
      generalize hx : L.getD (off + k) 0 = x at *
      have H_hs := Lib.hid hs; clear hs
      have H_hx := Lib.hid hx; clear hx
      have e1 : ((k : Int) + 1 - 1) = (k : Int) := by omega
      have e2 : ((k : Int) + 1 - 1).toNat = k := by omega
      by_cases hx0 : x = 0
      · have ht : ((x : Int) == 0) = true := by subst hx0; rfl
        have H_hx0 := Lib.hid hx0; clear hx0
        go_wp2
        go_round
        case rel => 
          refine ⟨k, by omega, by simp, ?_⟩
          have := he.out
          simp only [normL.normK] at this
          rw [if_pos (by rw [H_hs.out]; exact H_hx0.out)] at this
          exact this
        case measure => simp [intOf]
      · have ht : ((x : Int) == 0) = false := by rw [beq_eq_false_iff_ne]; omega
        have H_hx0 := Lib.hid hx0; clear hx0
        go_wp2
        go_ret
        refine ⟨?_, rfl⟩
        rw [he.out]; simp only [normL.normK]; rw [if_neg (by rw [H_hs.out]; exact H_hx0.out)]
        rfl

/-- the same, of a nat: what comes back is the number without words of 0 at its end; it lies where the argument lies -/
def NormRet (w : World) (v : Value) (n : Nat) (e : Ending) (w' : World) : Prop := ∃ rv l, e = .returned rv ∧ NatAt w rv l ∧ Norm l ∧ val l = n ∧ (∀ k, rv.ownBlock = some k → v.ownBlock = some k) ∧ w = w'

set_option maxHeartbeats 400000 in
theorem norm_any (v : Value) (l : List Nat) (w : World) (hn : l.length ≤ 1000000) (h : NatAt w v l) : Calls Tryz.prog 122 #[v] w (NormRet w v (val l)) := by
  rcases h.2 with ⟨rfl, rfl⟩ | ⟨g, off, cap, L, rfl, bk, h1, h2, h3, h4⟩
  · clear h hn
    go_enter Tryz.func122, Tryz.ntmps122
    go_wp2
    refine wp_loop_rounds 1 ?_
    rw [rounds_succ]
    go_wp2
    go_ret
    exact ⟨_, [], rfl, NatAt.nil w, Norm.nil, rfl, fun _ h => h, rfl⟩
  · refine (norm_pos g off cap l.length L w hn bk h1 h2).mono ?_
    rintro e w' ⟨rfl, rfl⟩
    have hk := normK_le (seg L off l.length) l.length
    have e1 : (seg L off l.length).take (normL.normK (seg L off l.length) l.length) = seg L off (normL.normK (seg L off l.length) l.length) := seg_take hk
    refine ⟨_, seg L off (normL.normK (seg L off l.length) l.length), rfl, NatAt.mk h.cap bk (by omega) h2 h4, ?_, ?_, fun _ h => h, rfl⟩
    · rw [← e1]; exact normK_norm _ _ (by rw [seg_length (by omega)]; exact Nat.le_refl _)
    · rw [← e1, normK_val _ _ (by rw [seg_length (by omega)]; exact Nat.le_refl _), List.take_of_length_le (by rw [seg_length (by omega)]; exact Nat.le_refl _), ← h3]

/-- what make hands back: room for n words: z's own, or new room -/
def Made (w : World) (zv : Value) (n : Nat) (e : Ending) (w' : World) : Prop :=
  ∃ g off cap L, e = .returned (.slice (some ⟨g, off, none⟩) n cap) ∧ Blk .u64 w' g L ∧ n ≤ cap ∧ off + cap ≤ L.length ∧ (∀ x ∈ L, x < 18446744073709551616) ∧ Fresh w w' ∧ cap ≤ 9223372036854775807 ∧
    ((w' = w ∧ ∃ n0 c0, zv = .slice (some ⟨g, off, none⟩) n0 c0) ∨ g = w.heap.size)

theorem Blk.made {w : World} {n : Nat} {T : TypeId} : Blk .u64 (w.alloc (.cells (madeCells #[Value.int .u64 0] n) T)) w.heap.size (List.replicate n 0) := by
  refine ⟨T, ?_⟩
  rw [heap_alloc_new]
  congr 2
  apply Array.ext'
  rw [toList_madeCells_one]
  simp

theorem rep_lt {n B : Nat} (hB : 0 < B) : ∀ x ∈ List.replicate n 0, x < B := by
  intro x hx
  rw [List.eq_of_mem_replicate hx]; exact hB

set_option maxRecDepth 20000 in
set_option maxHeartbeats 400000 in
theorem make_any (zv : Value) (zl : List Nat) (n : Nat) (w : World) (hn : 0 < n) (hn2 : n ≤ 1000000) (h : NatAt w zv zl) :
    Calls Tryz.prog 93 #[zv, .int .i64 n] w (Made w zv n) := by
  have hn0 : ((n : Int) == 0) = false := by rw [beq_eq_false_iff_ne]; omega
  obtain ⟨i0, hi, hz0, hz1, hz2⟩ := info_parts (show (Tryz.prog.info? 122).map (fun i => (i.zero, i.size, i.bytes)) = some (some (.int .u64 0), 1, 8) from by kernel_rfl)
  obtain ⟨o1, ho1, mk1⟩ : ∃ o, Hid (Blk .u64 (w.alloc o) w.heap.size (List.replicate 1 0)) ∧ (Instr.makeSlice 105 (.int .i64 1) (.int .i64 1)).run Tryz.prog w = .ok (.slice (some ⟨w.heap.size, 0, none⟩) 1 1) (w.alloc o) := by
    have := run_make (P := Tryz.prog) w 105 122 i0 _ Tryz.underlying105 hi hz0 .i64 .i64 1 1 (by omega) (by omega) (by rw [hz2]; omega) (by omega)
    exact ⟨_, Blk.made (T := 122), by simpa [hz1, Value.cells] using this⟩
  obtain ⟨o2, ho2, mk2⟩ : ∃ o, Hid (Blk .u64 (w.alloc o) w.heap.size (List.replicate (n + 4) 0)) ∧ (Instr.makeSlice 105 (.int .i64 (n : Int)) (.int .i64 ((n : Int) + 4))).run Tryz.prog w = .ok (.slice (some ⟨w.heap.size, 0, none⟩) n (n + 4)) (w.alloc o) := by
    have := run_make (P := Tryz.prog) w 105 122 i0 _ Tryz.underlying105 hi hz0 .i64 .i64 (n : Int) ((n : Int) + 4) (by omega) (by omega) (by rw [hz2]; omega) (by omega)
    rw [show ((n : Int) + 4).toNat = n + 4 from by omega] at this
    exact ⟨_, Blk.made (T := 122), by simpa [hz1, Value.cells] using this⟩
  rcases h.2 with ⟨rfl, rfl⟩ | ⟨g, off, cap, L, rfl, bk, h1, h2, h3, h4⟩
  · clear h hi hz0 hz1 hz2
    by_cases h1 : n = 1
    · subst h1
      clear mk2
      go_enter Tryz.func93, Tryz.ntmps93
      go_wp2
      go_ret
      exact ⟨_, _, _, _, rfl, ho1.out, by omega, by simp, rep_lt (by omega), (Keep.refl _ _).alloc _, by omega, .inr rfl⟩
    · have h1b : ((n : Int) == 1) = false := by rw [beq_eq_false_iff_ne]; omega
      clear mk1
      go_enter Tryz.func93, Tryz.ntmps93
      go_wp2
      go_ret
      exact ⟨_, _, _, _, rfl, ho2.out, by omega, by simp, rep_lt (by omega), (Keep.refl _ _).alloc _, by omega, .inr rfl⟩
  · have hcap := h.cap
    clear h hi hz0 hz1 hz2
    have H_bk := Lib.hid bk; clear bk
    have H_h2 := Lib.hid h2; clear h2
    have H_h3 := Lib.hid h3; clear h3
    have H_h4 := Lib.hid h4; clear h4
    by_cases hc : n ≤ cap
    · clear mk1 mk2
      go_enter Tryz.func93, Tryz.ntmps93
      go_wp2
      go_ret
      exact ⟨_, _, _, _, rfl, H_bk.out, hc, H_h2.out, H_h4.out, Keep.refl _ _, hcap, .inl ⟨rfl, _, _, rfl⟩⟩
    · by_cases h1 : n = 1
      · subst h1
        clear mk2
        go_enter Tryz.func93, Tryz.ntmps93
        go_wp2
        go_ret
        exact ⟨_, _, _, _, rfl, ho1.out, by omega, by simp, rep_lt (by omega), (Keep.refl _ _).alloc _, by omega, .inr rfl⟩
      · have h1b : ((n : Int) == 1) = false := by rw [beq_eq_false_iff_ne]; omega
        clear mk1
        go_enter Tryz.func93, Tryz.ntmps93
        go_wp2
        go_ret
        exact ⟨_, _, _, _, rfl, ho2.out, by omega, by simp, rep_lt (by omega), (Keep.refl _ _).alloc _, by omega, .inr rfl⟩

end Go.Proofs.YtjjolcjeiogdmabGreatDoor

/- big: divWVW: words divided by one word. -/
namespace Go.Proofs.YtjjolcjeiogdmabGreatDoor
open Go.RowKit

/-- the quotient's words lie in block g from o on; r is left -/
def DivAt (w : World) (g : Nat) (Lz : List Nat) (o : Nat) (xs : List Nat) (y : Nat) (e : Ending) (w' : World) : Prop :=
  ∃ (Q : List Nat) (r : Nat), e = .returned (.int .u64 r) ∧ Q.length = xs.length ∧ (∀ a ∈ Q, a < 18446744073709551616) ∧ val xs = val Q * y + r ∧ r < y ∧ Blk .u64 w' g (spl Lz o Q) ∧ Keep (fun k => k = g) w w'

theorem div_next {x S V y r q r2 : Nat} (hS : S = V * y + r) (h : r * 18446744073709551616 + x = q * y + r2) : x + 18446744073709551616 * S = (q + 18446744073709551616 * V) * y + r2 := by
  rw [hS, Nat.add_mul, Nat.mul_add, Nat.mul_assoc]
  omega

set_option maxRecDepth 20000 in
set_option maxHeartbeats 2000000 in
theorem divWVW_one (gz oz cz gx ox cx y : Nat) (Lz Lx : List Nat) (w : World)
    (bz : Blk .u64 w gz Lz) (bx : Blk .u64 w gx Lx) (hz : oz + 1 ≤ Lz.length) (hx : ox + 1 ≤ Lx.length)
    (hbx : ∀ a ∈ Lx, a < 18446744073709551616) (hy : y < 18446744073709551616) (h0 : 0 < y) :
    Calls Tryz.prog 135 #[.slice (some ⟨gz, oz, none⟩) 1 cz, .int .u64 0, .slice (some ⟨gx, ox, none⟩) 1 cx, .int .u64 y] w (DivAt w gz Lz oz (seg Lx ox 1) y) := by
  have hcx := bx.cell (o := ox) (by omega)
  have hs : seg Lx ox 1 = [Lx.getD ox 0] := by rw [seg_head (by omega), seg_zero]
  rw [hs]
  have hxl := getD_lt hbx pos64 ox
  generalize Lx.getD ox 0 = x at *
  have hdiv := fun W => bitsDiv_any 0 x y W h0 hxl hy (.inl rfl)
  clear hs hbx
  have H_bz := Lib.hid bz; clear bz
  have H_bx := Lib.hid bx; clear bx
  have H_hz := Lib.hid hz; clear hz
  have H_hx := Lib.hid hx; clear hx
  have H_hdiv := Lib.hid hdiv; clear hdiv
  go_enter Tryz.func135, Tryz.ntmps135
  go_wp2_with (fail)
  refine (H_hdiv.out _).mono ?_
  rintro e w2 ⟨q, r, rfl, h1, h2, h3, h4⟩
  have bz2 := H_bz.out.keep h4 (fun h => h)
  have hcz := bz2.cell (o := oz) (by have := H_hz.out; omega)
  have hfz := bz2.frozen oz
  have H_h1 := Lib.hid h1; clear h1
  have H_h2 := Lib.hid h2; clear h2
  have H_h3 := Lib.hid h3; clear h3
  have H_h4 := Lib.hid h4; clear h4
  have H_bz2 := Lib.hid bz2; clear bz2
  go_wp2_with (fail)
  go_ret
  refine ⟨[q], r, rfl, rfl, fun a ha => by simp at ha; subst ha; exact H_h3.out, ?_, H_h2.out, ?_, ?_⟩
  · have := H_h1.out
    simp [val]
    omega
  · have := H_bz2.out.set oz q
    have e : Lz.set oz q = spl Lz oz [q] := by
      have := spl_set (L := Lz) (off := oz) (l := []) (o := oz) (n := q) (by simp) (by have := H_hz.out; omega)
      rwa [spl_nil] at this
    rw [← e]
    exact this
  · exact (H_h4.out.mono (T := fun k => k = gz) (fun _ _ h => h.elim)).setCell (fun _ => rfl) _

set_option maxRecDepth 20000 in
set_option maxHeartbeats 4000000 in
theorem divWVW_more (gz oz cz gx ox cx n y : Nat) (Lz Lx : List Nat) (w : World) (hn : 1 < n) (hlen : n ≤ 1000000)
    (bz : Blk .u64 w gz Lz) (bx : Blk .u64 w gx Lx) (hz : oz + n ≤ Lz.length) (hx : ox + n ≤ Lx.length)
    (hbx : ∀ a ∈ Lx, a < 18446744073709551616) (hy : y < 18446744073709551616) (h0 : 0 < y) (hax : gx ≠ gz ∨ ox = oz) :
    Calls Tryz.prog 135 #[.slice (some ⟨gz, oz, none⟩) n cz, .int .u64 0, .slice (some ⟨gx, ox, none⟩) n cx, .int .u64 y] w (DivAt w gz Lz oz (seg Lx ox n) y) := by
  have t0 : ((n : Int) == 1) = false := by rw [beq_eq_false_iff_ne]; omega
  have hnN : ¬ n = 1 := by omega
  have hrec := fun W => reciprocalWord_any y W hy h0
  have bx1 := bx
  have H_bz := Lib.hid bz; clear bz
  have H_bx := Lib.hid bx; clear bx
  have H_bx1 := Lib.hid bx1; clear bx1
  have H_hz := Lib.hid hz; clear hz
  have H_hx := Lib.hid hx; clear hx
  have H_hrec := Lib.hid hrec; clear hrec
  have H_hbx := Lib.hid hbx; clear hbx
  have H_hax := Lib.hid hax; clear hax
  go_enter Tryz.func135, Tryz.ntmps135
  go_wp2_with (fail)
  refine (H_hrec.out _).mono ?_
  rintro e w2 ⟨m, rfl, hm, f2⟩
  have H_hm := Lib.hid hm; clear hm
  have H_f2 := Lib.hid f2; clear f2
  go_wp2_with (fail)
  go_loopw [8, 12] (fun rv i wr => ∃ (z : Int) (k r : Nat) (Q : List Nat), i = .int .i64 z ∧ z = (k : Int) - 1 ∧ k ≤ n ∧ rv = .int .u64 r ∧ r < y ∧ Hid (Q.length + k = n) ∧ Hid (∀ a ∈ Q, a < 18446744073709551616) ∧ Hid (val (seg Lx (ox + k) (n - k)) = val Q * y + r) ∧ Hid (Blk .u64 wr gz (spl Lz (oz + k) Q)) ∧ Hid (Keep (fun k => k = gz) w wr)) (fun _ i _ => (intOf i + 1).toNat)
  case atStart =>
    refine ⟨(n : Int) - 1, n, 0, [], by simp, by omega, Nat.le_refl _, rfl, h0, Lib.hid (by simp), Lib.hid (by simp), Lib.hid (by rw [Nat.sub_self, seg_zero]; simp [val]), Lib.hid ?_, Lib.hid (H_f2.out.mono (fun _ _ h => h.elim))⟩
    rw [spl_nil]
    exact H_bz.out.keep H_f2.out (fun h => h)
  case round =>
    obtain ⟨z, k, r, Q, rfl, hzk, hk, rfl, hr, hQl, hQb, hval, hblk, hkeep⟩ := hrel
    rcases Nat.eq_zero_or_pos k with hk0 | hk0
    · subst hk0
      have t1 : decide (0 ≤ z) = false := by simp; omega
      have t1n : ¬ 0 ≤ z := by omega
      go_wp2_with (fail)
      go_ret
      refine ⟨Q, r, rfl, ?_, hQb.out, ?_, hr, ?_, hkeep.out⟩
      · rw [seg_length H_hx.out]; have := hQl.out; omega
      · have := hval.out
        rw [Nat.sub_zero, Nat.add_zero] at this
        exact this
      · have := hblk.out
        rw [Nat.add_zero] at this
        exact this
    · obtain ⟨j, rfl⟩ : ∃ j, k = j + 1 := ⟨k - 1, by omega⟩
      obtain rfl : z = (j : Int) := by omega
      clear hzk
      have t1 : decide (0 ≤ (j : Int)) = true := by simp
      have hjn : (j : Int) < (n : Int) := by omega
      have hjn' : j < n := by omega
      have hcx : wr.cell? ⟨gx, ox + j, none⟩ = some (wd .u64 (Lx.getD (ox + j) 0)) := by
        have hx' := H_hx.out
        have hz' := H_hz.out
        have hl' := hQl.out
        by_cases e : gx = gz
        · obtain rfl : Lx = Lz := Blk.uniq (by rw [e] at H_bx; exact H_bx.out) H_bz.out
          rw [e, hblk.out.cell (by rw [spl_length (by omega)]; omega), spl_getD (by omega), if_neg (by have := H_hax.out; omega)]
        · exact (H_bx.out.keep hkeep.out e).cell (by omega)
      have hxl := getD_lt H_hbx.out pos64 (ox + j)
      have hseg : seg Lx (ox + j) (n - j) = Lx.getD (ox + j) 0 :: seg Lx (ox + (j + 1)) (n - (j + 1)) := by
        have := seg_head (L := Lx) (off := ox + j) (n := n - (j + 1)) (by have := H_hx.out; omega)
        rw [show n - (j + 1) + 1 = n - j by omega] at this
        exact this
      generalize Lx.getD (ox + j) 0 = x at *
      have hdiv := fun W => divWW_any r x y m W hr hxl hy H_hm.out
      have H_hdiv := Lib.hid hdiv; clear hdiv
      have H_hseg := Lib.hid hseg; clear hseg
      go_wp2_with (fail)
      refine (H_hdiv.out _).mono ?_
      rintro e w4 ⟨q, r2, rfl, h1, h2, h3, h4⟩
      have bz2 := hblk.out.keep h4 (fun h => h)
      have hcz := bz2.cell (o := oz + j) (by have := H_hz.out; have := hQl.out; rw [spl_length (by omega)]; omega)
      have hfz := bz2.frozen (oz + j)
      generalize (spl Lz (oz + (j + 1)) Q).getD (oz + j) 0 = z0 at *
      clear hcx
      have H_h1 := Lib.hid h1; clear h1
      have H_h2 := Lib.hid h2; clear h2
      have H_h3 := Lib.hid h3; clear h3
      have H_h4 := Lib.hid h4; clear h4
      have H_bz2 := Lib.hid bz2; clear bz2
      go_wp2_with (fail)
      go_roundw
      case rel =>
        refine ⟨(j : Int) - 1, j, r2, q :: Q, by simp, by omega, by omega, rfl, H_h2.out, Lib.hid (by have := hQl.out; simp; omega), Lib.hid ?_, Lib.hid ?_, Lib.hid ?_, Lib.hid ?_⟩
        · intro a ha
          rcases List.mem_cons.1 ha with h | h
          · rw [h]; exact H_h3.out
          · exact hQb.out a h
        · rw [H_hseg.out]
          simp only [val]
          exact div_next hval.out H_h1.out
        · have := H_bz2.out.set (oz + j) q
          rw [show oz + (j + 1) = oz + j + 1 by omega, spl_cons _ (by have := H_hz.out; have := hQl.out; omega)] at this
          exact this
        · exact (hkeep.out.trans H_h4.out (fun _ _ h => h) (fun _ _ h => h.elim)).setCell (fun _ => rfl) _
      case measure => show ((j : Int) - 1 + 1).toNat < ((j : Int) + 1).toNat; omega

theorem divWVW_any (gz oz cz gx ox cx n y : Nat) (Lz Lx : List Nat) (w : World) (hn : 0 < n) (hlen : n ≤ 1000000)
    (bz : Blk .u64 w gz Lz) (bx : Blk .u64 w gx Lx) (hz : oz + n ≤ Lz.length) (hx : ox + n ≤ Lx.length)
    (hbx : ∀ a ∈ Lx, a < 18446744073709551616) (hy : y < 18446744073709551616) (h0 : 0 < y) (hax : gx ≠ gz ∨ ox = oz) :
    Calls Tryz.prog 135 #[.slice (some ⟨gz, oz, none⟩) n cz, .int .u64 0, .slice (some ⟨gx, ox, none⟩) n cx, .int .u64 y] w (DivAt w gz Lz oz (seg Lx ox n) y) := by
  rcases Nat.eq_or_lt_of_le hn with h | h
  · obtain rfl : n = 1 := by omega
    exact divWVW_one gz oz cz gx ox cx y Lz Lx w bz bx hz hx hbx hy h0
  · exact divWVW_more gz oz cz gx ox cx n y Lz Lx w h hlen bz bx hz hx hbx hy h0 hax

end Go.Proofs.YtjjolcjeiogdmabGreatDoor

/- The contracts of math/big's natural numbers: setWord, set, add, sub. -/
namespace Go.Proofs.YtjjolcjeiogdmabGreatDoor
open Go.RowKit

/-- z is x, or they share no memory -/
def Sep (zv xv : Value) : Prop := zv = xv ∨ ∀ g, zv.ownBlock = some g → xv.ownBlock ≠ some g

theorem Sep.nil (xv : Value) : Sep (.slice none 0 0) xv := .inr (fun g h => by simp [Value.ownBlock] at h)

/-- where make's room lies -/
def At (w : World) (zv : Value) (g off : Nat) : Prop := (∃ n0 c0, zv = .slice (some ⟨g, off, none⟩) n0 c0) ∨ g = w.heap.size

theorem Made.split {w w' : World} {zv : Value} {n : Nat} {e : Ending} (h : Made w zv n e w') :
    ∃ g off cap L, e = .returned (.slice (some ⟨g, off, none⟩) n cap) ∧ Hid (Blk .u64 w' g L) ∧ n ≤ cap ∧ Hid (off + cap ≤ L.length) ∧ Hid (∀ x ∈ L, x < 18446744073709551616) ∧ Hid (Fresh w w') ∧ Hid (At w zv g off) ∧ cap ≤ 9223372036854775807 := by
  obtain ⟨g, off, cap, L, he, hb, h1, h2, h3, h4, h6, h5⟩ := h
  refine ⟨g, off, cap, L, he, hb, h1, h2, h3, h4, ?_, h6⟩
  rcases h5 with ⟨_, h⟩ | h
  · exact .inl h
  · exact .inr h

theorem NatOp.of {w w1 w2 : World} {zv rv : Value} {l : List Nat} {g off : Nat} (ha : At w zv g off) (hf : Fresh w w1) (hk : Keep (· = g) w1 w2) (hn : NatAt w2 rv l) (hr : ∀ k, rv.ownBlock = some k → k = g) : NatOp w zv rv l w2 := by
  have hz : ∀ k, k < w.heap.size → k = g → zv.ownBlock = some k := by
    rintro k hk rfl
    rcases ha with ⟨n0, c0, rfl⟩ | h
    · rfl
    · omega
  refine ⟨hn, hf.trans hk (fun _ _ h => h.elim) hz, fun k hk => ?_⟩
  obtain rfl := hr k hk
  by_cases h : k < w.heap.size
  · exact .inl (hz k h rfl)
  · exact .inr (by omega)

/-- x lies apart from make's room, or begins with it -/
theorem At.apart {w : World} {zv : Value} {g off : Nat} (ha : At w zv g off) {gx ox nx cx : Nat} (hs : Sep zv (.slice (some ⟨gx, ox, none⟩) nx cx)) (hx : gx < w.heap.size) : gx ≠ g ∨ ox = off := by
  rcases ha with ⟨n0, c0, rfl⟩ | h
  · rcases hs with h | h
    · simp only [Value.slice.injEq, Option.some.injEq, Addr.mk.injEq] at h
      exact .inr h.1.2.1.symm
    · exact .inl (fun e => by subst e; exact h gx rfl rfl)
  · exact .inl (by omega)

theorem NatAt.slice0 {w : World} {v : Value} {l : List Nat} {a : Option Addr} {n c : Nat} (h : NatAt w v l) (hv : v = .slice a n c) : NatAt w (.slice a 0 c) [] := by
  refine ⟨⟨by simp, by subst hv; exact h.cap⟩, ?_⟩
  rcases h.2 with ⟨rfl, rfl⟩ | ⟨g, off, cap, L, rfl, bk, h1, h2, h3, h4⟩
  · simp only [Value.slice.injEq] at hv
    obtain ⟨rfl, rfl, rfl⟩ := hv
    exact .inl ⟨rfl, rfl⟩
  · simp only [Value.slice.injEq] at hv
    obtain ⟨rfl, rfl, rfl⟩ := hv
    exact .inr ⟨g, off, cap, L, rfl, bk, by simp, h2, by simp [seg_zero], h4⟩

theorem NatRet.empty {w : World} {zv : Value} {zl : List Nat} {a : Option Addr} {n c : Nat} (h : NatAt w zv zl) (hv : zv = .slice a n c) : NatRet w zv 0 (.returned (.slice a 0 c)) w :=
  ⟨_, [], rfl, ⟨h.slice0 hv, Keep.refl _ _, fun k hk => .inl (by rw [hv]; cases a <;> exact hk)⟩, Norm.nil, rfl⟩

set_option maxHeartbeats 400000 in
theorem setWord_any (zv : Value) (zl : List Nat) (x : Nat) (w : World) (hx : x < 18446744073709551616) (h : NatAt w zv zl) :
    Calls Tryz.prog 92 #[zv, .int .u64 x] w (NatRet w zv x) := by
  by_cases hx0 : x = 0
  · have ht : ((x : Int) == 0) = true := by subst hx0; rfl
    obtain ⟨a, c, hv⟩ := h.form
    have hr : NatRet w zv x (.returned (.slice a 0 c)) w := by rw [hx0]; exact NatRet.empty h hv
    generalize zl.length = n at *
    subst hv
    have H_hx0 := Lib.hid hx0; clear hx0
    have H_h := Lib.hid h; clear h
    have H_hr := Lib.hid hr; clear hr
    go_enter Tryz.func92, Tryz.ntmps92
    go_wp2
    go_ret
    exact H_hr.out
  · have ht : ((x : Int) == 0) = false := by rw [beq_eq_false_iff_ne]; omega
    have hm := make_any zv zl 1 w (by omega) (by omega) h
    have H_hx0 := Lib.hid hx0; clear hx0
    have H_h := Lib.hid h; clear h
    have H_hm := Lib.hid hm; clear hm
    go_enter Tryz.func92, Tryz.ntmps92
    go_wp2_with (fail)
    refine H_hm.out.mono ?_
    intro e w1 hm
    obtain ⟨g, off, cap, L, rfl, hb, h1, h2, h3, h4, h5, hcap⟩ := hm.split
    clear hm
    have c1 := hb.out.cell (o := off) (by have := h2.out; omega)
    have c2 := hb.out.frozen off
    go_wp2
    go_ret
    have p := (Puts.refl hb.out).set off x
    have hn : ∀ y ∈ L.set off x, y < 18446744073709551616 := fun y hy => by
      rcases List.mem_or_eq_of_mem_set hy with h | h
      · exact h3.out y h
      · omega
    have hna := NatAt.mk (n := 1) hcap p.blk h1 (by rw [List.length_set]; exact h2.out) hn
    have e1 : seg (L.set off x) off 1 = [x] := by
      have := h2.out
      rw [seg_head (by rw [List.length_set]; omega), seg_zero, getD_set _ _ _ _ (by omega), if_pos rfl]
    rw [e1] at hna
    refine ⟨_, [x], rfl, NatOp.of h5.out h4.out p.keep hna (fun k hk => by simpa [Value.ownBlock] using hk.symm), ?_, by simp [val]⟩
    intro k hk
    simp at hk; subst hk
    exact H_hx0.out

theorem make_zero (a : Option Addr) (n c : Nat) (w : World) :
    Calls Tryz.prog 93 #[.slice a n c, .int .i64 0] w fun e w' => e = .returned (.slice a 0 c) ∧ w = w' := by
  go_enter Tryz.func93, Tryz.ntmps93
  go_wp2
  go_ret
  exact ⟨rfl, rfl⟩

set_option maxRecDepth 20000 in
set_option maxHeartbeats 400000 in
theorem set_any (zv xv : Value) (zl xl : List Nat) (w : World) (hn : xl.length ≤ 1000000) (h : NatAt w zv zl) (hx : NatAt w xv xl) (hs : Sep zv xv) :
    Calls Tryz.prog 109 #[zv, xv] w fun e w' => ∃ rv, e = .returned rv ∧ NatOp w zv rv xl w' := by
  by_cases h0 : xl.length = 0
  · obtain ⟨a, c, hv⟩ := h.form
    obtain ⟨ax, cx, hxv⟩ := hx.form
    obtain rfl : xl = [] := List.eq_nil_of_length_eq_zero h0
    generalize zl.length = n at *
    subst hv hxv
    have hr := h.slice0 rfl
    have H_h := Lib.hid h; clear h
    have H_hx := Lib.hid hx; clear hx
    have H_hs := Lib.hid hs; clear hs
    have H_hr := Lib.hid hr; clear hr
    go_enter Tryz.func109, Tryz.ntmps109
    go_wp2_with (first
      | (go_at_call 93; refine (make_zero _ _ _ _).mono ?_; rintro e w' ⟨rfl, rfl⟩)
      | (refine wpList_copy_nothing (o := ⟨some 11, _, _, _, _, _⟩) rfl (.tmp 9) (.tmp 10) 105 105 rfl 122 Tryz.underlying105 (by kernel_rfl) _ _ _ _ _ _ (by rfl) (by rfl) (by simp) ?_))
    go_ret
    exact ⟨_, rfl, H_hr.out, Keep.refl _ _, fun k hk => .inl (by cases a <;> exact hk)⟩
  · obtain ⟨gx, ox, cx, M, rfl, bx, hx1, hx2, hx3, hx4⟩ := hx.open_pos (by omega)
    have hm := make_any zv zl xl.length w (by omega) (by omega) h
    have hgx := bx.lt
    have H_h0 := Lib.hid h0; clear h0
    have H_h := Lib.hid h; clear h
    have H_hm := Lib.hid hm; clear hm
    have H_hx := Lib.hid hx; clear hx
    have H_hs := Lib.hid hs; clear hs
    have H_bx := Lib.hid bx; clear bx
    have H_hx3 := Lib.hid hx3; clear hx3
    have H_hx4 := Lib.hid hx4; clear hx4
    have H_hx2 := Lib.hid hx2; clear hx2
    go_enter Tryz.func109, Tryz.ntmps109
    go_wp2_with (fail)
    refine H_hm.out.mono ?_
    intro e w1 hm
    obtain ⟨g, off, cap, L, rfl, hb, h1, h2, h3, h4, h5, hcap⟩ := hm.split
    clear hm
    have bx1 := H_bx.out.keep h4.out (fun h => h)
    have l1 := h2.out
    have l2 := H_hx2.out
    have H_bx1 := Lib.hid bx1; clear bx1
    go_wp2_with (refine wpList_copy_puts (o := ⟨some 11, _, _, _, _, _⟩) rfl (.tmp 9) (.tmp 10) 105 105 rfl 122 Tryz.underlying105 (by kernel_rfl) _ _ _ _ _ _ (by rfl) (by rfl) g off L hb.out gx ox M H_bx1.out xl.length (by simp) (fun _ => ⟨rfl, rfl⟩) (by omega) (by omega) ?_; intro w2 hp)
    go_ret
    have hk : ∀ y ∈ spl L off (seg M ox xl.length), y < 18446744073709551616 := fun y hy => by
      rcases spl_mem hy with h | h
      · exact h3.out y h
      · exact H_hx4.out y (seg_mem h)
    have hl : (seg M ox xl.length).length = xl.length := seg_length (by omega)
    have hna := NatAt.mk (n := xl.length) hcap hp.blk h1 (by rw [spl_length (by omega)]; exact l1) hk
    have e1 : seg (spl L off (seg M ox xl.length)) off xl.length = xl := by
      have := seg_spl (L := L) (off := off) (l := seg M ox xl.length) (by omega)
      rw [hl] at this
      rw [this, ← H_hx3.out]
    rw [e1] at hna
    exact ⟨_, rfl, NatOp.of h5.out h4.out hp.keep hna (fun k hk => by simpa [Value.ownBlock] using hk.symm)⟩

end Go.Proofs.YtjjolcjeiogdmabGreatDoor
