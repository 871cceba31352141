/- big: divWVW: words divided by one word. -/
import Derived.Defers
import Derived.Test.YtllencgncinphaaGreatDoorKE4
import Derived.Test.YtllencgncinphaaGreatDoorKE6
import Derived.Test.YtllencgncinphaaGreatDoorKE22
namespace Go.Proofs.YtllencgncinphaaGreatDoor
open Go.RowKit
open Go.Lib (hid)
set_option maxRecDepth 20000
set_option maxHeartbeats 4000000

def DivAt (w : World) (g : Nat) (Lz : List Nat) (o : Nat) (xs : List Nat) (y : Nat) (e : Ending) (w' : World) : Prop :=
 ∃ (Q : List Nat) (r : Nat), e = .returned (.int .u64 r) ∧ Q.length = xs.length ∧ (∀ a ∈ Q, a < 18446744073709551616) ∧ val xs = val Q * y + r ∧ r < y ∧ Blk .u64 w' g (spl Lz o Q) ∧ Keep (fun k => k = g) w w'

theorem div_next {x S V y r q r2 : Nat} (hS : S = V * y + r) (h : r * 18446744073709551616 + x = q * y + r2) : x + 18446744073709551616 * S = (q + 18446744073709551616 * V) * y + r2 := by
 rw [hS, Nat.add_mul, Nat.mul_add, Nat.mul_assoc]
 omega

theorem divWVW_one (gz oz cz gx ox cx y : Nat) (Lz Lx : List Nat) (w : World)
 (bz : Blk .u64 w gz Lz) (bx : Blk .u64 w gx Lx) (hz : oz + 1 ≤ Lz.length) (hx : ox + 1 ≤ Lx.length)
 (hbx : ∀ a ∈ Lx, a < 18446744073709551616) (hy : y < 18446744073709551616) (h0 : 0 < y) :
 Calls Tryz.prog 180 #[.slice (some ⟨gz, oz, none⟩) 1 cz, .int .u64 0, .slice (some ⟨gx, ox, none⟩) 1 cx, .int .u64 y] w (DivAt w gz Lz oz (seg Lx ox 1) y) := by
 have hcx := bx.cell (o := ox) (by omega)
 have hs : seg Lx ox 1 = [Lx.getD ox 0] := by rw [seg_head (by omega), seg_zero]
 rw [hs]
 have hxl := getD_lt hbx pos64 ox
 generalize Lx.getD ox 0 = x at *
 have hdiv := fun W => bitsDiv_any 0 x y W h0 hxl hy (.inl rfl)
 clear hs hbx
 have H_bz := hid bz; have H_bx := hid bx; have H_hz := hid hz; have H_hx := hid hx; have H_hdiv := hid hdiv; clear bz bx hz hx hdiv
 go_enter Tryz.func180, Tryz.ntmps180
 go_wp2_with (fail)
 refine (H_hdiv.out _).mono ?_
 rintro e w2 ⟨q, r, rfl, h1, h2, h3, h4⟩
 have bz2 := H_bz.out.keep h4 (fun h => h)
 have hcz := bz2.cell (o := oz) (by have := H_hz.out; omega)
 have hfz := bz2.frozen oz
 have H_h1 := hid h1; have H_h2 := hid h2; have H_h3 := hid h3; have H_h4 := hid h4; have H_bz2 := hid bz2; clear h1 h2 h3 h4 bz2
 go_wp2_with (fail)
 go_ret
 refine ⟨[q], r, rfl, rfl, fun a ha => by simp at ha; subst ha; exact H_h3.out, ?_, H_h2.out, ?_, ?_⟩
 · have := H_h1.out
   simp [val]
   omega
 · have := H_bz2.out.set oz q
   have e : Lz.set oz q = spl Lz oz [q] := by
    have := spl_set (L := Lz) (off := oz) (l := []) (o := oz) (n := q) (by simp) (by have := H_hz.out; omega)
    rwa [spl_nil] at this
   rw [← e]
   exact this
 · exact (H_h4.out.mono (T := fun k => k = gz) (fun _ _ h => h.elim)).setCell (fun _ => rfl) _

theorem divWVW_more (gz oz cz gx ox cx n y : Nat) (Lz Lx : List Nat) (w : World) (hn : 1 < n) (hlen : n ≤ 1000000)
 (bz : Blk .u64 w gz Lz) (bx : Blk .u64 w gx Lx) (hz : oz + n ≤ Lz.length) (hx : ox + n ≤ Lx.length)
 (hbx : ∀ a ∈ Lx, a < 18446744073709551616) (hy : y < 18446744073709551616) (h0 : 0 < y) (hax : gx ≠ gz ∨ ox = oz) :
 Calls Tryz.prog 180 #[.slice (some ⟨gz, oz, none⟩) n cz, .int .u64 0, .slice (some ⟨gx, ox, none⟩) n cx, .int .u64 y] w (DivAt w gz Lz oz (seg Lx ox n) y) := by
 have t0 : ((n : Int) == 1) = false := by rw [beq_eq_false_iff_ne]; omega
 have hnN : ¬ n = 1 := by omega
 have hrec := fun W => reciprocalWord_any y W hy h0
 have bx1 := bx
 have H_bz := hid bz; have H_bx := hid bx; have H_bx1 := hid bx1; have H_hz := hid hz; have H_hx := hid hx; have H_hrec := hid hrec; have H_hbx := hid hbx; have H_hax := hid hax; clear bz bx bx1 hz hx hrec hbx hax
 go_enter Tryz.func180, Tryz.ntmps180
 go_wp2_with (fail)
 refine (H_hrec.out _).mono ?_
 rintro e w2 ⟨m, rfl, hm, f2⟩
 have H_hm := hid hm; have H_f2 := hid f2; clear hm f2
 go_wp2_with (fail)
 go_loopw [8, 12] (fun rv i wr => ∃ (z : Int) (k r : Nat) (Q : List Nat), i = .int .i64 z ∧ z = (k : Int) - 1 ∧ k ≤ n ∧ rv = .int .u64 r ∧ r < y ∧ Hid (Q.length + k = n) ∧ Hid (∀ a ∈ Q, a < 18446744073709551616) ∧ Hid (val (seg Lx (ox + k) (n - k)) = val Q * y + r) ∧ Hid (Blk .u64 wr gz (spl Lz (oz + k) Q)) ∧ Hid (Keep (fun k => k = gz) w wr)) (fun _ i _ => (intOf i + 1).toNat)
 case atStart =>
  refine ⟨(n : Int) - 1, n, 0, [], by simp, by omega, Nat.le_refl _, rfl, h0, hid (by simp), hid (by simp), hid (by rw [Nat.sub_self, seg_zero]; simp [val]), hid ?_, hid (H_f2.out.mono (fun _ _ h => h.elim))⟩
  rw [spl_nil]
  exact H_bz.out.keep H_f2.out (fun h => h)
 case round =>
  obtain ⟨z, k, r, Q, rfl, hzk, hk, rfl, hr, hQl, hQb, hval, hblk, hkeep⟩ := hrel
  rcases Nat.eq_zero_or_pos k with hk0 | hk0
  · subst hk0
    have t1 : decide (0 ≤ z) = false := by simp; omega
    have t1n : ¬ 0 ≤ z := by omega
    go_wp2_with (fail)
    go_ret
    refine ⟨Q, r, rfl, ?_, hQb.out, ?_, hr, ?_, hkeep.out⟩
    · rw [sgL H_hx.out]; have := hQl.out; omega
    · have := hval.out
      rw [Nat.sub_zero, Nat.add_zero] at this
      exact this
    · have := hblk.out
      rw [Nat.add_zero] at this
      exact this
  · obtain ⟨j, rfl⟩ : ∃ j, k = j + 1 := ⟨k - 1, by omega⟩
    obtain rfl : z = (j : Int) := by omega
    clear hzk
    have t1 : decide (0 ≤ (j : Int)) = true := by simp
    have hjn : (j : Int) < (n : Int) := by omega
    have hjn' : j < n := by omega
    have hcx : wr.cell? ⟨gx, ox + j, none⟩ = some (wd .u64 (Lx.getD (ox + j) 0)) := by
     have hx' := H_hx.out
     have hz' := H_hz.out
     have hl' := hQl.out
     by_cases e : gx = gz
     · obtain rfl : Lx = Lz := Blk.uniq (by rw [e] at H_bx; exact H_bx.out) H_bz.out
       rw [e, hblk.out.cell (by rw [sgl (by omega)]; omega), sgD (by omega), if_neg (by have := H_hax.out; omega)]
     · exact (H_bx.out.keep hkeep.out e).cell (by omega)
    have hxl := getD_lt H_hbx.out pos64 (ox + j)
    have hseg : seg Lx (ox + j) (n - j) = Lx.getD (ox + j) 0 :: seg Lx (ox + (j + 1)) (n - (j + 1)) := by
     have := seg_head (L := Lx) (off := ox + j) (n := n - (j + 1)) (by have := H_hx.out; omega)
     rw [show n - (j + 1) + 1 = n - j by omega] at this
     exact this
    generalize Lx.getD (ox + j) 0 = x at *
    have hdiv := fun W => divWW_any r x y m W hr hxl hy H_hm.out
    have H_hdiv := hid hdiv; have H_hseg := hid hseg; clear hdiv hseg
    go_wp2_with (fail)
    refine (H_hdiv.out _).mono ?_
    rintro e w4 ⟨q, r2, rfl, h1, h2, h3, h4⟩
    have bz2 := hblk.out.keep h4 (fun h => h)
    have hcz := bz2.cell (o := oz + j) (by have := H_hz.out; have := hQl.out; rw [sgl (by omega)]; omega)
    have hfz := bz2.frozen (oz + j)
    generalize (spl Lz (oz + (j + 1)) Q).getD (oz + j) 0 = z0 at *
    clear hcx
    have H_h1 := hid h1; have H_h2 := hid h2; have H_h3 := hid h3; have H_h4 := hid h4; have H_bz2 := hid bz2; clear h1 h2 h3 h4 bz2
    go_wp2_with (fail)
    go_roundw
    case rel =>
     refine ⟨(j : Int) - 1, j, r2, q :: Q, by simp, by omega, by omega, rfl, H_h2.out, hid (by have := hQl.out; simp; omega), hid ?_, hid ?_, hid ?_, hid ?_⟩
     · intro a ha
       rcases List.mem_cons.1 ha with h | h
       · rw [h]; exact H_h3.out
       · exact hQb.out a h
     · rw [H_hseg.out]
       simp only [val]
       exact div_next hval.out H_h1.out
     · have := H_bz2.out.set (oz + j) q
       rw [show oz + (j + 1) = oz + j + 1 by omega, spl_cons _ (by have := H_hz.out; have := hQl.out; omega)] at this
       exact this
     · exact (hkeep.out.trans H_h4.out (fun _ _ h => h) (fun _ _ h => h.elim)).setCell (fun _ => rfl) _
    case measure => show ((j : Int) - 1 + 1).toNat < ((j : Int) + 1).toNat; omega

theorem divWVW_any (gz oz cz gx ox cx n y : Nat) (Lz Lx : List Nat) (w : World) (hn : 0 < n) (hlen : n ≤ 1000000)
 (bz : Blk .u64 w gz Lz) (bx : Blk .u64 w gx Lx) (hz : oz + n ≤ Lz.length) (hx : ox + n ≤ Lx.length)
 (hbx : ∀ a ∈ Lx, a < 18446744073709551616) (hy : y < 18446744073709551616) (h0 : 0 < y) (hax : gx ≠ gz ∨ ox = oz) :
 Calls Tryz.prog 180 #[.slice (some ⟨gz, oz, none⟩) n cz, .int .u64 0, .slice (some ⟨gx, ox, none⟩) n cx, .int .u64 y] w (DivAt w gz Lz oz (seg Lx ox n) y) := by
 rcases Nat.eq_or_lt_of_le hn with h | h
 · obtain rfl : n = 1 := by omega
   exact divWVW_one gz oz cz gx ox cx y Lz Lx w bz bx hz hx hbx hy h0
 · exact divWVW_more gz oz cz gx ox cx n y Lz Lx w h hlen bz bx hz hx hbx hy h0 hax

theorem mulWW_any (x y : Nat) (hx : x < 18446744073709551616) (hy : y < 18446744073709551616) (w : World) :
 Calls Tryz.prog 189 #[.int .u64 x, .int .u64 y] w fun e w' => e = .returned (.tuple #[.int .u64 (mulH x y : Nat), .int .u64 (mulL x y : Nat)]) ∧ w = w' := by
 have h := bits_Mul x y hx hy
 generalize mulH x y = a at *
 generalize mulL x y = b at *
 have H_h := hid h; clear h
 go_enter Tryz.func189, Tryz.ntmps189
 go_wp2_with (go_at_call 220; refine (H_h.out _).mono ?_; rintro e w' ⟨rfl, rfl⟩)
 go_ret2
 exact ⟨rfl, rfl⟩

theorem greaterThan_any (x1 x2 y1 y2 : Nat) (hx : x2 < 18446744073709551616) (hy : y2 < 18446744073709551616) (w : World) :
 Calls Tryz.prog 216 #[.int .u64 x1, .int .u64 x2, .int .u64 y1, .int .u64 y2] w fun e w' => e = .returned (.bool (decide (18446744073709551616 * y1 + y2 < 18446744073709551616 * x1 + x2))) ∧ w = w' := by
 obtain ⟨b, hb⟩ : ∃ b, b = decide (18446744073709551616 * y1 + y2 < 18446744073709551616 * x1 + x2) := ⟨_, rfl⟩
 rw [← hb]
 rcases Nat.lt_trichotomy y1 x1 with h | h | h
 · obtain rfl : b = true := by rw [hb]; exact decide_eq_true (by omega)
   have t1 : decide ((y1 : Int) < (x1 : Int)) = true := decide_eq_true (by omega)
   clear hb hx hy
   go_enter Tryz.func216, Tryz.ntmps216
   go_wp2
   go_ret
   exact ⟨by simp, rfl⟩
 · subst h
   have t1 : decide ((y1 : Int) < (y1 : Int)) = false := decide_eq_false (by omega)
   have t2 : ((y1 : Int) == (y1 : Int)) = true := by simp
   have t3 : decide ((y2 : Int) < (x2 : Int)) = b := by rw [hb]; exact decide_eq_decide.2 (by omega)
   clear hb hx hy
   go_enter Tryz.func216, Tryz.ntmps216
   go_wp2
   go_ret
   exact ⟨by simp_all, rfl⟩
 · obtain rfl : b = false := by rw [hb]; exact decide_eq_false (by omega)
   have t1 : decide ((y1 : Int) < (x1 : Int)) = false := decide_eq_false (by omega)
   have t1n : ¬ y1 < x1 := by omega
   have t2 : ((x1 : Int) == (y1 : Int)) = false := by rw [beq_eq_false_iff_ne]; omega
   have t2n : ¬ x1 = y1 := by omega
   clear hb hx hy h
   go_enter Tryz.func216, Tryz.ntmps216
   go_wp2
   go_ret
   exact ⟨rfl, rfl⟩

theorem cell_fresh' {w w' : World} {p : Addr} {v : Value} (h : w.cell? p = some v) (hk : Fresh w w') : w'.cell? p = some v := (hk.cell (World.block_lt_of_cell? _ _ h) (fun h => h)).trans h

def VAt (w : World) (g o : Nat) (l : List Nat) : Prop := ∃ L, Blk .u64 w g L ∧ o + l.length ≤ L.length ∧ seg L o l.length = l ∧ (∀ a ∈ L, a < 18446744073709551616)

theorem VAt.keep {S : Nat → Prop} {w w' : World} {g o : Nat} {l : List Nat} (h : VAt w g o l) (hk : Keep S w w') (hs : ¬ S g) : VAt w' g o l := by
 obtain ⟨L, h1, h2⟩ := h
 exact ⟨L, h1.keep hk hs, h2⟩

theorem VAt.cell {w : World} {g o : Nat} {l : List Nat} (h : VAt w g o l) {i : Nat} (hi : i < l.length) : w.cell? ⟨g, o + i, none⟩ = some (wd .u64 (l.getD i 0)) := by
 obtain ⟨L, h1, h2, h3, _⟩ := h
 rw [h1.cell (by omega)]
 congr 2
 have := seg_getD (L := L) (off := o) hi
 rw [h3] at this
 rw [this]

theorem VAt.lt {w : World} {g o : Nat} {l : List Nat} (h : VAt w g o l) : g < w.heap.size := by
 obtain ⟨L, h1, _⟩ := h
 exact h1.lt

structure StkGot (T : Nat → Prop) (w w1 : World) (gh oh n1 : Nat) (Lh : List Nat) : Prop where
 b : Blk .u64 w1 gh Lh
 l : oh + n1 ≤ Lh.length
 k : Keep T w w1
 o : gh < w.heap.size → T gh

def condAt (n : Nat) : Code → Option Code
 | .cond (.tmp k) a b => if k = n then some (.cond (.tmp k) a b) else (condAt n a).orElse fun _ => condAt n b
 | .seq a b => (condAt n a).orElse fun _ => condAt n b
 | .loop c => condAt n c
 | .block _ c => condAt n c
 | .scope c => condAt n c
 | _ => none

noncomputable def kb51 : Code := (Tryz.f186.body.bind (condAt 51)).getD .skip
noncomputable def kb148 : Code := (Tryz.f186.body.bind (condAt 148)).getD .skip

theorem kb_guess (gu ou cu gv ov cv n N j jn a1 a2 b2 u1 u2 v1 v2 t rec D : Nat) (wr : World) (ds : List Deferred) (s0 s1 s4 s5 s6 s7 s9 s10 s16 s17 s18 s19 s20 s21 s22 s23 s24 s25 s26 s27 s28 s29 s30 s31 s32 s33 s34 s35 s36 s37 s38 s39 s40 s41 s42 s43 s44 s45 s46 s47 s48 s49 s50 s52 s53 s54 s55 s56 s57 s58 s59 s60 s61 s62 s63 s64 s65 s66 s67 s68 s69 s70 s71 s72 s73 s74 s75 s76 s77 s78 s79 s80 s81 s82 s83 s84 s85 s86 s87 s88 s89 s90 s91 s92 s93 s94 s95 s96 s97 s98 s99 s100 s101 s102 s103 s104 s105 s106 s107 s108 s109 s110 s111 s112 s113 s114 s115 s116 s117 s118 s119 s120 s121 s122 s123 s124 s125 s126 s127 s128 s129 s130 s131 s132 s133 s134 s135 s136 s137 s138 s139 s140 s141 s142 s143 s144 s145 s146 s147 s148 s149 s150 s151 s152 s153 s154 s155 s156 s157 s158 s159 s160 s161 s162 s163 s164 s165 s166 s167 s168 s169 s170 s171 s172 s173 s174 s175 s176 s177 s178 s179 s180 s181 s182 s183 s184 s185 s186 s187 s188 s189 s190 s191 s192 s193 s194 s195 s196 s197 s198 s199 s200 : Value) (J : Act → World → Prop) (Q' : Exit → Act → World → Prop)
 (h : ∀ (qn : Nat) (wx : World), qn < 18446744073709551616 ∧ Hid (D ≤ qn ∧ qn ≤ D + 1) ∧ Hid (Fresh wr wx) → ∀ (x16 x17 x18 x19 x20 x45 x46 x47 x48 x49 x50 x51 x52 x53 x54 x55 x56 x57 x58 x59 x60 x61 x62 x63 x64 x65 x66 x67 x68 x69 x70 x71 x72 x73 x74 x75 x76 x77 x78 x79 x80 x81 x82 x83 x84 x85 x86 x87 x88 x89 x90 x91 x92 x93 x94 x95 x96 x97 x98 x99 x100 x101 x102 x103 x104 x105 x106 x107 x108 x109 x110 x111 x112 x113 x114 x115 x116 x117 x118 x119 x120 x121 x122 x123 x124 x125 x126 x127 x128 x129 x130 x131 x132 x133 x134 x135 x136 x137 x138 x139 x140 x141 x142 x143 x144 x145 x146 x147 x148 x149 x150 x151 x152 x153 x154 x155 x156 x157 x158 x159 x160 x161 x162 x163 x164 x165 x166 x167 x168 x169 x170 x171 x172 x173 x174 x175 x176 x177 x178 x179 x180 x181 x182 x183 x184 x185 x186 x187 x188 x189 x190 x191 x192 x193 x194 x195 x196 x197 x198 x199 x200 : Value), J ⟨#[s0, s1, .slice (some ⟨gu, ou, none⟩) N cu, .slice (some ⟨gv, ov, none⟩) n cv, s4, s5, s6, s7, .int .i64 (n : Int), s9, s10, wd .u64 v1, .int .u64 (rec : Int), .int .u64 (t : Int), .int .i64 (j : Int), .int .u64 (qn : Int), x16, x17, x18, x19, x20, s21, s22, s23, s24, s25, s26, s27, s28, s29, s30, s31, s32, s33, s34, s35, s36, s37, s38, s39, s40, s41, s42, s43, s44, x45, x46, x47, x48, x49, x50, x51, x52, x53, x54, x55, x56, x57, x58, x59, x60, x61, x62, x63, x64, x65, x66, x67, x68, x69, x70, x71, x72, x73, x74, x75, x76, x77, x78, x79, x80, x81, x82, x83, x84, x85, x86, x87, x88, x89, x90, x91, x92, x93, x94, x95, x96, x97, x98, x99, x100, x101, x102, x103, x104, x105, x106, x107, x108, x109, x110, x111, x112, x113, x114, x115, x116, x117, x118, x119, x120, x121, x122, x123, x124, x125, x126, x127, x128, x129, x130, x131, x132, x133, x134, x135, x136, x137, x138, x139, x140, x141, x142, x143, x144, x145, x146, x147, x148, x149, x150, x151, x152, x153, x154, x155, x156, x157, x158, x159, x160, x161, x162, x163, x164, x165, x166, x167, x168, x169, x170, x171, x172, x173, x174, x175, x176, x177, x178, x179, x180, x181, x182, x183, x184, x185, x186, x187, x188, x189, x190, x191, x192, x193, x194, x195, x196, x197, x198, x199, x200], ds⟩ wx)
 (hjn : jn = j + n) (ha1 : a1 + 1 = jn) (ha2 : a2 + 2 = jn) (hb2 : b2 + 2 = n) (hjN : jn ≤ N) (hN : N ≤ 100000) (hu1b : u1 < 18446744073709551616) (hu2b : u2 < 18446744073709551616) (hv1b : v1 < 18446744073709551616) (hv2b : v2 < 18446744073709551616)
 (hg1 : t ≤ v1) (H_hg2 : Hid (t = v1 → D ≤ 18446744073709551615 ∧ 18446744073709551615 ≤ D + 1))
 (H_hg3 : Hid (∀ q, ((t * 18446744073709551616 + u1) * 18446744073709551616 + u2) / (v1 * 18446744073709551616 + v2) ≤ q → q * (v1 * 18446744073709551616 + v2) ≤ (t * 18446744073709551616 + u1) * 18446744073709551616 + u2 → q < 18446744073709551616 → D ≤ q ∧ q ≤ D + 1))
 (H_hrm : Hid (Recip v1 rec)) (hcu1 : wr.cell? ⟨gu, ou + a1, none⟩ = some (wd .u64 u1)) (hcu2 : wr.cell? ⟨gu, ou + a2, none⟩ = some (wd .u64 u2)) (hcv2 : wr.cell? ⟨gv, ov + b2, none⟩ = some (wd .u64 v2)) :
 Code.wp Tryz.prog kb51 (Exit.then J Q') ⟨#[s0, s1, .slice (some ⟨gu, ou, none⟩) N cu, .slice (some ⟨gv, ov, none⟩) n cv, s4, s5, s6, s7, .int .i64 (n : Int), s9, s10, wd .u64 v1, .int .u64 (rec : Int), .int .u64 (t : Int), .int .i64 (j : Int), .int .u64 18446744073709551615, s16, s17, s18, s19, s20, s21, s22, s23, s24, s25, s26, s27, s28, s29, s30, s31, s32, s33, s34, s35, s36, s37, s38, s39, s40, s41, s42, s43, s44, s45, s46, s47, s48, s49, s50, .bool ((t : Int) != (v1 : Int)), s52, s53, s54, s55, s56, s57, s58, s59, s60, s61, s62, s63, s64, s65, s66, s67, s68, s69, s70, s71, s72, s73, s74, s75, s76, s77, s78, s79, s80, s81, s82, s83, s84, s85, s86, s87, s88, s89, s90, s91, s92, s93, s94, s95, s96, s97, s98, s99, s100, s101, s102, s103, s104, s105, s106, s107, s108, s109, s110, s111, s112, s113, s114, s115, s116, s117, s118, s119, s120, s121, s122, s123, s124, s125, s126, s127, s128, s129, s130, s131, s132, s133, s134, s135, s136, s137, s138, s139, s140, s141, s142, s143, s144, s145, s146, s147, s148, s149, s150, s151, s152, s153, s154, s155, s156, s157, s158, s159, s160, s161, s162, s163, s164, s165, s166, s167, s168, s169, s170, s171, s172, s173, s174, s175, s176, s177, s178, s179, s180, s181, s182, s183, s184, s185, s186, s187, s188, s189, s190, s191, s192, s193, s194, s195, s196, s197, s198, s199, s200], ds⟩ wr := by
 conv => arg 2; whnf
 have H_h := hid h
 clear h
 have ijn : (j : Int) + (n : Int) = (jn : Int) := by omega
 have wjn : IntKind.i64.wrap (jn : Int) = (jn : Int) := by rw [IntKind.wrap_i64]; omega
 have ia1 : (jn : Int) - 1 = (a1 : Int) := by omega
 have wa1 : IntKind.i64.wrap (a1 : Int) = (a1 : Int) := by rw [IntKind.wrap_i64]; omega
 have la1 : (a1 : Int) < (N : Int) := by omega
 have ia2 : (jn : Int) - 2 = (a2 : Int) := by omega
 have wa2 : IntKind.i64.wrap (a2 : Int) = (a2 : Int) := by rw [IntKind.wrap_i64]; omega
 have la2 : (a2 : Int) < (N : Int) := by omega
 have ib2 : (n : Int) - 2 = (b2 : Int) := by omega
 have wb2 : IntKind.i64.wrap (b2 : Int) = (b2 : Int) := by rw [IntKind.wrap_i64]; omega
 have lb2 : (b2 : Int) < (n : Int) := by omega
 clear hjn ha1 ha2 hb2 hjN hN
 by_cases htv : t = v1
 · have hA := H_hg2.out htv
   subst htv
   have u3 : ((t : Int) != (t : Int)) = false := by simp
   have H_hA := hid hA; clear hA
   go_wp2_with (fail)
   try simp only [Exit.then]
   exact H_h.out 18446744073709551615 _ ⟨by omega, H_hA, hid (Keep.refl _ _)⟩ _ _ _ _ _ _ _ _ _ _ _ _ _ _ _ _ _ _ _ _ _ _ _ _ _ _ _ _ _ _ _ _ _ _ _ _ _ _ _ _ _ _ _ _ _ _ _ _ _ _ _ _ _ _ _ _ _ _ _ _ _ _ _ _ _ _ _ _ _ _ _ _ _ _ _ _ _ _ _ _ _ _ _ _ _ _ _ _ _ _ _ _ _ _ _ _ _ _ _ _ _ _ _ _ _ _ _ _ _ _ _ _ _ _ _ _ _ _ _ _ _ _ _ _ _ _ _ _ _ _ _ _ _ _ _ _ _ _ _ _ _ _ _ _ _ _ _ _ _ _ _ _ _ _ _ _ _ _ _ _ _ 
 · have u3 : ((t : Int) != (v1 : Int)) = true := by simp; omega
   have hdiv := fun W => divWW_any t u1 v1 rec W (by omega) hu1b hv1b H_hrm.out
   have htlt : t < v1 := by omega
   have H_hdiv := hid hdiv; have H_htv := hid htv; have H_htlt := hid htlt; clear hdiv htv htlt
   go_wp2_with (fail)
   refine (H_hdiv.out _).mono ?_
   rintro e w4 ⟨q0, r0, rfl, e1, e2, e3, f4⟩
   have hgi := GInv.start (v2 := v2) e1 e2 hu2b e3
   have hcu2' := cell_fresh' hcu2 f4
   have hcv2' := cell_fresh' hcv2 f4
   clear hcu1 hcu2 hcv2
   have hm1 : mulH q0 v2 < 18446744073709551616 := by
    have := mul_lt_sq e3 hv2b
    unfold mulH; generalize q0 * v2 = p at *; omega
   have hm2 : mulL q0 v2 < 18446744073709551616 := by unfold mulL; omega
   have hmw := mulWW_any q0 v2 e3 hv2b
   generalize mulH q0 v2 = x1 at *
   generalize mulL q0 v2 = x2 at *
   have H_e1 := hid e1; have H_f4 := hid f4; have H_hgi := hid hgi; have H_hmw := hid hmw; clear e1 f4 hgi hmw
   go_wp2_with (fail)
   refine (H_hmw.out _).mono ?_
   rintro e w5 ⟨rfl, rfl⟩
   go_wp2_with (fail)
   clear hcu2' hcv2'
   go_loopw [15, 16, 18, 19] (fun qv rv xv yv wx => ∃ q r y1 y2 : Nat, qv = .int .u64 q ∧ rv = .int .u64 r ∧ xv = .int .u64 y1 ∧ yv = .int .u64 y2 ∧ q < 18446744073709551616 ∧ r < 18446744073709551616 ∧ y1 < 18446744073709551616 ∧ y2 < 18446744073709551616 ∧
    Hid (GInv (t * 18446744073709551616 + u1) u2 v1 v2 q r y1 y2) ∧ w4 = wx) (fun qv _ _ _ _ => (intOf qv).toNat)
   case atStart => exact ⟨q0, r0, x1, x2, rfl, rfl, rfl, rfl, e3, by omega, hm1, hm2, H_hgi, rfl⟩
   case round =>
    obtain ⟨q, r, y1, y2, rfl, rfl, rfl, rfl, hq, hr, hy1, hy2, hi, rfl⟩ := hrel
    have hgt := fun W => greaterThan_any y1 y2 r u2 hy2 hu2b W
    by_cases hs : 18446744073709551616 * r + u2 < 18446744073709551616 * y1 + y2
    · rw [decide_eq_true hs] at hgt
      have hqp := hi.out.pos hs
      have hge := hi.out.ge hs
      obtain ⟨q', hq'⟩ : ∃ q', q' = q - 1 := ⟨_, rfl⟩
      have iq : (q : Int) - 1 = (q' : Int) := by omega
      have wq : IntKind.u64.wrap (q' : Int) = (q' : Int) := wum _ (by omega)
      by_cases hov : r + v1 < 18446744073709551616
      · obtain ⟨r', hr'⟩ : ∃ r', r' = r + v1 := ⟨_, rfl⟩
        have ir : (r : Int) + (v1 : Int) = (r' : Int) := by omega
        have wr' : IntKind.u64.wrap (r' : Int) = (r' : Int) := wum _ (by omega)
        have tr : decide ((r' : Int) < (v1 : Int)) = false := decide_eq_false (by omega)
        have trn : ¬ r' < v1 := by omega
        by_cases hb : y2 < v2
        · have tb : decide ((y2 : Int) < (v2 : Int)) = true := decide_eq_true (by omega)
          obtain ⟨z1, hz1⟩ : ∃ z, z = y1 - 1 := ⟨_, rfl⟩
          obtain ⟨z2, hz2⟩ : ∃ z, z = y2 + 18446744073709551616 - v2 := ⟨_, rfl⟩
          have iz1 : (y1 : Int) - 1 = (z1 : Int) := by omega
          have wz1 : IntKind.u64.wrap (z1 : Int) = (z1 : Int) := wum _ (by omega)
          have wz2 : IntKind.u64.wrap ((y2 : Int) - (v2 : Int)) = (z2 : Int) := by rw [wrap_u64_int]; omega
          have hn' := hi.out.next hs (y1 := z1) (y2 := z2) (by omega)
          have bz1 : z1 < 18446744073709551616 := by omega
          have bz2 : z2 < 18446744073709551616 := by omega
          have bq' : q' < q := by omega
          rw [← hq', ← hr'] at hn'
          have hrb : r' < 18446744073709551616 := by omega
          clear hz1 hz2 hq' hr' hs hge hov hqp
          have H_hgt := hid hgt; have H_hn' := hid hn'; clear hgt hn'
          go_wp2_with (fail)
          refine (H_hgt.out _).mono ?_
          rintro e w6 ⟨rfl, rfl⟩
          go_wp2_with (fail)
          go_roundw
          case rel => exact ⟨q', r', z1, z2, rfl, rfl, rfl, rfl, by omega, hrb, bz1, bz2, H_hn', by trivial⟩
          case measure => simp [intOf]; omega
        · have tb : decide ((y2 : Int) < (v2 : Int)) = false := decide_eq_false (by omega)
          have tbn : ¬ y2 < v2 := hb
          obtain ⟨z2, hz2⟩ : ∃ z, z = y2 - v2 := ⟨_, rfl⟩
          have iz2 : (y2 : Int) - (v2 : Int) = (z2 : Int) := by omega
          have wz2 : IntKind.u64.wrap (z2 : Int) = (z2 : Int) := wum _ (by omega)
          have hn' := hi.out.next hs (y1 := y1) (y2 := z2) (by omega)
          have bz2 : z2 < 18446744073709551616 := by omega
          have bq' : q' < q := by omega
          rw [← hq', ← hr'] at hn'
          have hrb : r' < 18446744073709551616 := by omega
          clear hz2 hq' hr' hs hge hov hqp
          have H_hgt := hid hgt; have H_hn' := hid hn'; clear hgt hn'
          go_wp2_with (fail)
          refine (H_hgt.out _).mono ?_
          rintro e w6 ⟨rfl, rfl⟩
          go_wp2_with (fail)
          go_roundw
          case rel => exact ⟨q', r', y1, z2, rfl, rfl, rfl, rfl, by omega, hrb, hy1, bz2, H_hn', by trivial⟩
          case measure => simp [intOf]; omega
      · obtain ⟨r', hr'⟩ : ∃ r', r' = r + v1 - 18446744073709551616 := ⟨_, rfl⟩
        have wr' : IntKind.u64.wrap ((r : Int) + (v1 : Int)) = (r' : Int) := by rw [wrap_u64_int]; omega
        have tr : decide ((r' : Int) < (v1 : Int)) = true := decide_eq_true (by omega)
        have trp : r' < v1 := by omega
        have hfin := H_hg3.out q' (by rw [hq']; exact hi.out.great hs) (by rw [hq']; exact hi.out.far hs hv2b (by omega)) (by omega)
        have bq' : q' < 18446744073709551616 := by omega
        clear hr' hq' hs hge hov hqp
        have H_hgt := hid hgt; have H_hfin := hid hfin; clear hgt hfin
        go_wp2_with (fail)
        refine (H_hgt.out _).mono ?_
        rintro e w6 ⟨rfl, rfl⟩
        go_wp2_with (fail)
        try simp only [Exit.then]
        exact H_h.out q' _ ⟨bq', H_hfin, H_f4⟩ _ _ _ _ _ _ _ _ _ _ _ _ _ _ _ _ _ _ _ _ _ _ _ _ _ _ _ _ _ _ _ _ _ _ _ _ _ _ _ _ _ _ _ _ _ _ _ _ _ _ _ _ _ _ _ _ _ _ _ _ _ _ _ _ _ _ _ _ _ _ _ _ _ _ _ _ _ _ _ _ _ _ _ _ _ _ _ _ _ _ _ _ _ _ _ _ _ _ _ _ _ _ _ _ _ _ _ _ _ _ _ _ _ _ _ _ _ _ _ _ _ _ _ _ _ _ _ _ _ _ _ _ _ _ _ _ _ _ _ _ _ _ _ _ _ _ _ _ _ _ _ _ _ _ _ _ _ _ _ _ _ 
    · rw [decide_eq_false hs] at hgt
      have hfin := H_hg3.out q hi.out.g (hi.out.stop hs) hq
      clear hs
      have H_hgt := hid hgt; have H_hfin := hid hfin; clear hgt hfin
      go_wp2_with (fail)
      refine (H_hgt.out _).mono ?_
      rintro e w6 ⟨rfl, rfl⟩
      go_wp2_with (fail)
      try simp only [Exit.then]
      exact H_h.out q _ ⟨hq, H_hfin, H_f4⟩ _ _ _ _ _ _ _ _ _ _ _ _ _ _ _ _ _ _ _ _ _ _ _ _ _ _ _ _ _ _ _ _ _ _ _ _ _ _ _ _ _ _ _ _ _ _ _ _ _ _ _ _ _ _ _ _ _ _ _ _ _ _ _ _ _ _ _ _ _ _ _ _ _ _ _ _ _ _ _ _ _ _ _ _ _ _ _ _ _ _ _ _ _ _ _ _ _ _ _ _ _ _ _ _ _ _ _ _ _ _ _ _ _ _ _ _ _ _ _ _ _ _ _ _ _ _ _ _ _ _ _ _ _ _ _ _ _ _ _ _ _ _ _ _ _ _ _ _ _ _ _ _ _ _ _ _ _ _ _ _ _ 

theorem kb_back (gu ou cu gv ov cv n n1 N j qn bw D M : Nat) (Lu ul Dl vs : List Nat) (w7 : World) (ds : List Deferred) (s0 s1 s4 s5 s6 s7 s9 s10 s11 s12 s13 s16 s17 s18 s19 s20 s23 s24 s25 s26 s27 s28 s29 s30 s31 s32 s33 s34 s35 s36 s37 s38 s39 s40 s41 s42 s43 s44 s45 s46 s47 s48 s49 s50 s51 s52 s53 s54 s55 s56 s57 s58 s59 s60 s61 s62 s63 s64 s65 s66 s67 s68 s69 s70 s71 s72 s73 s74 s75 s76 s77 s78 s79 s80 s81 s82 s83 s84 s85 s86 s87 s88 s89 s90 s91 s92 s93 s94 s95 s96 s97 s98 s99 s100 s101 s102 s103 s104 s105 s106 s107 s108 s109 s110 s111 s112 s113 s114 s115 s116 s117 s118 s119 s120 s121 s122 s123 s124 s125 s126 s127 s128 s129 s130 s131 s132 s133 s134 s135 s136 s137 s138 s139 s140 s141 s142 s143 s144 s145 s146 s147 s149 s150 s151 s152 s153 s154 s155 s156 s157 s158 s159 s160 s161 s162 s163 s164 s165 s166 s167 s168 s169 s170 s171 s172 s173 s174 s175 s176 s177 s178 s179 s180 s181 s182 s183 s184 s185 s186 s187 s188 s189 s190 s191 s192 s193 s194 s195 s196 s197 s198 s199 s200 : Value) (J : Act → World → Prop) (Q' : Exit → Act → World → Prop)
 (h : ∀ (R' : List Nat) (wx : World), Hid (R'.length = n ∧ (∀ a ∈ R', a < 18446744073709551616) ∧ val R' = M) ∧ Hid (Blk .u64 wx gu (spl Lu ou (spl ul j (R' ++ [0])))) ∧ Hid (Keep (fun k => k = gu) w7 wx) → ∀ (x22 x23 x45 x46 x47 x48 x49 x50 x51 x52 x53 x54 x55 x56 x57 x58 x59 x60 x61 x62 x63 x64 x65 x66 x67 x68 x69 x70 x71 x72 x73 x74 x75 x76 x77 x78 x79 x80 x81 x82 x83 x84 x85 x86 x87 x88 x89 x90 x91 x92 x93 x94 x95 x96 x97 x98 x99 x100 x101 x102 x103 x104 x105 x106 x107 x108 x109 x110 x111 x112 x113 x114 x115 x116 x117 x118 x119 x120 x121 x122 x123 x124 x125 x126 x127 x128 x129 x130 x131 x132 x133 x134 x135 x136 x137 x138 x139 x140 x141 x142 x143 x144 x145 x146 x147 x148 x149 x150 x151 x152 x153 x154 x155 x156 x157 x158 x159 x160 x161 x162 x163 x164 x165 x166 x167 x168 x169 x170 x171 x172 x173 x174 x175 x176 x177 x178 x179 x180 x181 x182 x183 x184 x185 x186 x187 x188 x189 x190 x191 x192 x193 x194 x195 x196 x197 x198 x199 x200 : Value), J ⟨#[s0, s1, .slice (some ⟨gu, ou, none⟩) N cu, .slice (some ⟨gv, ov, none⟩) n cv, s4, s5, s6, s7, .int .i64 (n : Int), s9, s10, s11, s12, s13, .int .i64 (j : Int), .int .u64 (D : Int), s16, s17, s18, s19, s20, .int .i64 (n1 : Int), x22, x23, s24, s25, s26, s27, s28, s29, s30, s31, s32, s33, s34, s35, s36, s37, s38, s39, s40, s41, s42, s43, s44, x45, x46, x47, x48, x49, x50, x51, x52, x53, x54, x55, x56, x57, x58, x59, x60, x61, x62, x63, x64, x65, x66, x67, x68, x69, x70, x71, x72, x73, x74, x75, x76, x77, x78, x79, x80, x81, x82, x83, x84, x85, x86, x87, x88, x89, x90, x91, x92, x93, x94, x95, x96, x97, x98, x99, x100, x101, x102, x103, x104, x105, x106, x107, x108, x109, x110, x111, x112, x113, x114, x115, x116, x117, x118, x119, x120, x121, x122, x123, x124, x125, x126, x127, x128, x129, x130, x131, x132, x133, x134, x135, x136, x137, x138, x139, x140, x141, x142, x143, x144, x145, x146, x147, x148, x149, x150, x151, x152, x153, x154, x155, x156, x157, x158, x159, x160, x161, x162, x163, x164, x165, x166, x167, x168, x169, x170, x171, x172, x173, x174, x175, x176, x177, x178, x179, x180, x181, x182, x183, x184, x185, x186, x187, x188, x189, x190, x191, x192, x193, x194, x195, x196, x197, x198, x199, x200], ds⟩ wx)
 (hn1 : n1 = n + 1) (hn : 0 < n) (hN : N ≤ 100000) (hul : ul.length = N) (hin : ou + N ≤ Lu.length) (hj : j + (n + 1) ≤ N) (hNc : N ≤ cu) (hguv : gu ≠ gv) (hvl : vs.length = n) (hDl : Dl.length = n + 1) (hDb : ∀ a ∈ Dl, a < 18446744073709551616) (hub : ∀ a ∈ Lu, a < 18446744073709551616) (hulb : ∀ a ∈ ul, a < 18446744073709551616) (hbw : bw ≤ 1) (hqb : qn < 18446744073709551616)
 (hfine : bw = 0 → qn = D ∧ Dl = Dl.take n ++ [0] ∧ val (Dl.take n) = M) (hback : bw = 1 → qn = D + 1 ∧ val (addVs (Dl.take n) vs 0).1 = M ∧ (Dl.getD n 0 + (addVs (Dl.take n) vs 0).2) % 18446744073709551616 = 0)
 (b7 : Blk .u64 w7 gu (spl Lu ou (spl ul j Dl))) (bv : VAt w7 gv ov vs) :
 Code.wp Tryz.prog kb148 (Exit.then J Q') ⟨#[s0, s1, .slice (some ⟨gu, ou, none⟩) N cu, .slice (some ⟨gv, ov, none⟩) n cv, s4, s5, s6, s7, .int .i64 (n : Int), s9, s10, s11, s12, s13, .int .i64 (j : Int), .int .u64 (qn : Int), s16, s17, s18, s19, s20, .int .i64 (n1 : Int), .int .u64 (bw : Int), s23, s24, s25, s26, s27, s28, s29, s30, s31, s32, s33, s34, s35, s36, s37, s38, s39, s40, s41, s42, s43, s44, s45, s46, s47, s48, s49, s50, s51, s52, s53, s54, s55, s56, s57, s58, s59, s60, s61, s62, s63, s64, s65, s66, s67, s68, s69, s70, s71, s72, s73, s74, s75, s76, s77, s78, s79, s80, s81, s82, s83, s84, s85, s86, s87, s88, s89, s90, s91, s92, s93, s94, s95, s96, s97, s98, s99, s100, s101, s102, s103, s104, s105, s106, s107, s108, s109, s110, s111, s112, s113, s114, s115, s116, s117, s118, s119, s120, s121, s122, s123, s124, s125, s126, s127, s128, s129, s130, s131, s132, s133, s134, s135, s136, s137, s138, s139, s140, s141, s142, s143, s144, s145, s146, s147, .bool ((bw : Int) != 0), s149, s150, s151, s152, s153, s154, s155, s156, s157, s158, s159, s160, s161, s162, s163, s164, s165, s166, s167, s168, s169, s170, s171, s172, s173, s174, s175, s176, s177, s178, s179, s180, s181, s182, s183, s184, s185, s186, s187, s188, s189, s190, s191, s192, s193, s194, s195, s196, s197, s198, s199, s200], ds⟩ w7 := by
 conv => arg 2; whnf
 have H_h := hid h
 clear h
 rcases (show bw = 0 ∨ bw = 1 by omega) with h0 | h0
 · obtain ⟨f1, f2, f3⟩ := hfine h0
   subst h0
   subst f1
   have hfin : Hid ((Dl.take n).length = n ∧ (∀ a ∈ (Dl.take n), a < 18446744073709551616) ∧ val (Dl.take n) = M) := hid ⟨by simp; omega, fun a ha => hDb a (List.mem_of_mem_take ha), f3⟩
   have hb7 : Hid (Blk .u64 w7 gu (spl Lu ou (spl ul j (Dl.take n ++ [0])))) := hid (by rw [← f2]; exact b7)
   clear hbw hfine hback b7 bv hDl hDb hub hulb f2 hn1
   go_wp2_with (fail)
   try simp only [Exit.then]
   exact H_h.out (Dl.take n) _ ⟨hfin, hb7, hid (Keep.refl _ _)⟩ _ _ _ _ _ _ _ _ _ _ _ _ _ _ _ _ _ _ _ _ _ _ _ _ _ _ _ _ _ _ _ _ _ _ _ _ _ _ _ _ _ _ _ _ _ _ _ _ _ _ _ _ _ _ _ _ _ _ _ _ _ _ _ _ _ _ _ _ _ _ _ _ _ _ _ _ _ _ _ _ _ _ _ _ _ _ _ _ _ _ _ _ _ _ _ _ _ _ _ _ _ _ _ _ _ _ _ _ _ _ _ _ _ _ _ _ _ _ _ _ _ _ _ _ _ _ _ _ _ _ _ _ _ _ _ _ _ _ _ _ _ _ _ _ _ _ _ _ _ _ _ _ _ _ _ _ _ _ 
 · obtain ⟨f1, f2, f3⟩ := hback h0
   subst h0
   obtain ⟨jn, hjn⟩ : ∃ a, a = j + n := ⟨_, rfl⟩
   have ijn : (j : Int) + (n : Int) = (jn : Int) := by omega
   have wjn : IntKind.i64.wrap (jn : Int) = (jn : Int) := by rw [IntKind.wrap_i64]; omega
   have ljn : (jn : Int) ≤ (cu : Int) := by omega
   have ljnj : (j : Int) ≤ (jn : Int) := by omega
   have ejn2 : jn - j = n := by omega
   have njc : ¬ cu = j := by omega
   have iq : (qn : Int) - 1 = (D : Int) := by omega
   have wq : IntKind.u64.wrap (D : Int) = (D : Int) := wum _ (by omega)
   have tn : decide ((n : Int) < (n1 : Int)) = true := decide_eq_true (by omega)
   have tnn : n < n1 := by omega
   have ljnN : (jn : Int) < (N : Int) := by omega
   obtain ⟨dn, hdn⟩ : ∃ d, d = Dl.getD n 0 := ⟨_, rfl⟩
   rw [← hdn] at f3
   have hall := addVs_length (Dl.take n) vs 0 (by simp; omega)
   have hal := addVs_lt (Dl.take n) vs 0
   have hSl : (addVs (Dl.take n) vs 0).1.length = n := by rw [hall]; simp; omega
   have hadd : ∀ W, Keep (fun _ => False) w7 W → Calls Tryz.prog 159 #[.slice (some ⟨gu, ou + j, none⟩) n (cu - j), .slice (some ⟨gu, ou + j, none⟩) n (cu - j), .slice (some ⟨gv, ov, none⟩) n cv] W
    (fun e w' => e = .returned (.int .u64 ((addVs (Dl.take n) vs 0).2 : Nat)) ∧ Hid (Puts .u64 gu (spl Lu ou (spl ul j ((addVs (Dl.take n) vs 0).1 ++ [dn]))) W w')) := by
    intro W hW
    have hsl : (spl ul j Dl).length = ul.length := sgl (by omega)
    have hcur : ∀ a ∈ spl Lu ou (spl ul j Dl), a < 18446744073709551616 := by
     intro a ha
     rcases spl_mem ha with h | h
     · exact hub a h
     · rcases spl_mem h with h | h
       · exact hulb a h
       · exact hDb a h
    obtain ⟨Lv, bv1, bv2, bv3, bv4⟩ := bv.keep hW (fun h => h)
    have := addVV gu (ou + j) (cu - j) gu (ou + j) (cu - j) gv ov cv n _ _ _ W (by omega) (b7.keep hW (fun h => h)) (b7.keep hW (fun h => h)) bv1
     (by rw [sgl (by omega)]; omega) (by rw [sgl (by omega)]; omega) (by omega) hcur bv4 (.inr (Nat.le_refl _)) (.inl hguv.symm)
    have e1 : seg (spl Lu ou (spl ul j Dl)) (ou + j) n = (Dl.take n) := by
     rw [seg_spl_in (by omega) (by omega), ← seg_take (show n ≤ n + 1 by omega), ← hDl, seg_spl (by omega)]
    have e2 : seg Lv ov n = vs := by rw [hvl] at bv3; exact bv3
    rw [e1, e2, spl_in (by omega) (by rw [hSl]; omega)] at this
    refine this.mono ?_
    rintro e w' ⟨rfl, hp⟩
    refine ⟨rfl, ?_⟩
    have e3 : spl (spl ul j Dl) j (addVs (Dl.take n) vs 0).1 = spl ul j ((addVs (Dl.take n) vs 0).1 ++ [dn]) := by
     rw [hdn]; exact spl_low (by omega) hDl hSl
    have : Puts .u64 gu (spl Lu ou (spl (spl ul j Dl) j (addVs (Dl.take n) vs 0).1)) W w' := hp
    rw [e3] at this
    exact this
   generalize (addVs (Dl.take n) vs 0).1 = S at *
   generalize (addVs (Dl.take n) vs 0).2 = c2 at *
   have ws : IntKind.u64.wrap ((dn : Int) + (c2 : Int)) = 0 := by rw [wrap_u64_int]; omega
   clear hbw hall hfine hback b7 bv hDb hub hulb f1 f3
   have H_f2 := hid f2; have H_hadd := hid hadd; have H_hSl := hid hSl; have H_hal := hid hal; have H_hul := hid hul; have H_hin := hid hin; have H_hj := hid hj; have H_hDl := hid hDl; have H_hvl := hid hvl; have H_hjn := hid hjn; have H_hNc := hid hNc; have H_hdn := hid hdn; have H_hn1 := hid hn1; clear f2 hadd hSl hal hul hin hj hDl hvl hjn hNc hdn hn1
   go_wp2_with (fail)
   go_still_tail 13, (by kernel_rfl)
   change wpList _ _ _ _ _ (World.drew _)
   go_wp2_with (fail)
   refine (H_hadd.out _ (Keep.refl _ _).drew).mono ?_
   rintro e w8 ⟨rfl, hp8⟩
   have hp8 := hp8.out.of_drew
   have hlS : (S ++ [dn]).length = n + 1 := by simp [H_hSl.out]
   have hul := H_hul.out
   have hjn := H_hjn.out
   have hj := H_hj.out
   have hin0 := H_hin.out
   have hlspl : (spl ul j (S ++ [dn])).length = N := by rw [sgl (by omega)]; exact hul
   have hin : ou + (spl ul j (S ++ [dn])).length ≤ Lu.length := by omega
   have hcd := hp8.blk.cell (o := ou + jn) (by rw [sgl hin]; omega)
   rw [sgD hin, if_pos (by omega), show ou + jn - ou = jn by omega, sgD (by omega), if_pos (by omega), show jn - j = n from ejn2, getD_append, if_neg (by rw [H_hSl.out]; omega), H_hSl.out, Nat.sub_self] at hcd
   have hcd : w8.cell? ⟨gu, ou + jn, none⟩ = some (wd .u64 dn) := hcd
   have hfd := hp8.blk.frozen (ou + jn)
   have hp9 := hp8.set (ou + jn) 0
   rw [spl_set_in hin (by omega), show jn = j + n from hjn, spl_set_in (by omega) (by omega), snoc_set H_hSl.out, ← show jn = j + n from hjn] at hp9
   clear hul hjn hj hin0 hlspl hin hlS
   have H_hp8 := hid hp8; have H_hp9 := hid hp9; clear hp8 hp9
   go_wp2_with (fail)
   try simp only [Exit.then]
   exact H_h.out S _ ⟨hid ⟨H_hSl.out, H_hal.out, H_f2.out⟩, hid H_hp9.out.blk, hid H_hp9.out.keep⟩ _ _ _ _ _ _ _ _ _ _ _ _ _ _ _ _ _ _ _ _ _ _ _ _ _ _ _ _ _ _ _ _ _ _ _ _ _ _ _ _ _ _ _ _ _ _ _ _ _ _ _ _ _ _ _ _ _ _ _ _ _ _ _ _ _ _ _ _ _ _ _ _ _ _ _ _ _ _ _ _ _ _ _ _ _ _ _ _ _ _ _ _ _ _ _ _ _ _ _ _ _ _ _ _ _ _ _ _ _ _ _ _ _ _ _ _ _ _ _ _ _ _ _ _ _ _ _ _ _ _ _ _ _ _ _ _ _ _ _ _ _ _ _ _ _ _ _ _ _ _ _ _ _ _ _ _ _ _ 

theorem kb_back0 (gu ou cu gv ov cv n N j qn bw D M : Nat) (Lu ul Dl vs : List Nat) (w7 : World) (ds : List Deferred) (s0 s1 s4 s5 s6 s7 s9 s10 s11 s12 s13 s16 s17 s18 s19 s20 s23 s24 s25 s26 s27 s28 s29 s30 s31 s32 s33 s34 s35 s36 s37 s38 s39 s40 s41 s42 s43 s44 s45 s46 s47 s48 s49 s50 s51 s52 s53 s54 s55 s56 s57 s58 s59 s60 s61 s62 s63 s64 s65 s66 s67 s68 s69 s70 s71 s72 s73 s74 s75 s76 s77 s78 s79 s80 s81 s82 s83 s84 s85 s86 s87 s88 s89 s90 s91 s92 s93 s94 s95 s96 s97 s98 s99 s100 s101 s102 s103 s104 s105 s106 s107 s108 s109 s110 s111 s112 s113 s114 s115 s116 s117 s118 s119 s120 s121 s122 s123 s124 s125 s126 s127 s128 s129 s130 s131 s132 s133 s134 s135 s136 s137 s138 s139 s140 s141 s142 s143 s144 s145 s146 s147 s149 s150 s151 s152 s153 s154 s155 s156 s157 s158 s159 s160 s161 s162 s163 s164 s165 s166 s167 s168 s169 s170 s171 s172 s173 s174 s175 s176 s177 s178 s179 s180 s181 s182 s183 s184 s185 s186 s187 s188 s189 s190 s191 s192 s193 s194 s195 s196 s197 s198 s199 s200 : Value) (J : Act → World → Prop) (Q' : Exit → Act → World → Prop)
 (h : ∀ (R' : List Nat) (wx : World), Hid (R'.length = n ∧ (∀ a ∈ R', a < 18446744073709551616) ∧ val R' = M) ∧ Hid (Blk .u64 wx gu (spl Lu ou (spl ul j R'))) ∧ Hid (Keep (fun k => k = gu) w7 wx) → ∀ (x22 x23 x45 x46 x47 x48 x49 x50 x51 x52 x53 x54 x55 x56 x57 x58 x59 x60 x61 x62 x63 x64 x65 x66 x67 x68 x69 x70 x71 x72 x73 x74 x75 x76 x77 x78 x79 x80 x81 x82 x83 x84 x85 x86 x87 x88 x89 x90 x91 x92 x93 x94 x95 x96 x97 x98 x99 x100 x101 x102 x103 x104 x105 x106 x107 x108 x109 x110 x111 x112 x113 x114 x115 x116 x117 x118 x119 x120 x121 x122 x123 x124 x125 x126 x127 x128 x129 x130 x131 x132 x133 x134 x135 x136 x137 x138 x139 x140 x141 x142 x143 x144 x145 x146 x147 x148 x149 x150 x151 x152 x153 x154 x155 x156 x157 x158 x159 x160 x161 x162 x163 x164 x165 x166 x167 x168 x169 x170 x171 x172 x173 x174 x175 x176 x177 x178 x179 x180 x181 x182 x183 x184 x185 x186 x187 x188 x189 x190 x191 x192 x193 x194 x195 x196 x197 x198 x199 x200 : Value), J ⟨#[s0, s1, .slice (some ⟨gu, ou, none⟩) N cu, .slice (some ⟨gv, ov, none⟩) n cv, s4, s5, s6, s7, .int .i64 (n : Int), s9, s10, s11, s12, s13, .int .i64 (j : Int), .int .u64 (D : Int), s16, s17, s18, s19, s20, .int .i64 (n : Int), x22, x23, s24, s25, s26, s27, s28, s29, s30, s31, s32, s33, s34, s35, s36, s37, s38, s39, s40, s41, s42, s43, s44, x45, x46, x47, x48, x49, x50, x51, x52, x53, x54, x55, x56, x57, x58, x59, x60, x61, x62, x63, x64, x65, x66, x67, x68, x69, x70, x71, x72, x73, x74, x75, x76, x77, x78, x79, x80, x81, x82, x83, x84, x85, x86, x87, x88, x89, x90, x91, x92, x93, x94, x95, x96, x97, x98, x99, x100, x101, x102, x103, x104, x105, x106, x107, x108, x109, x110, x111, x112, x113, x114, x115, x116, x117, x118, x119, x120, x121, x122, x123, x124, x125, x126, x127, x128, x129, x130, x131, x132, x133, x134, x135, x136, x137, x138, x139, x140, x141, x142, x143, x144, x145, x146, x147, x148, x149, x150, x151, x152, x153, x154, x155, x156, x157, x158, x159, x160, x161, x162, x163, x164, x165, x166, x167, x168, x169, x170, x171, x172, x173, x174, x175, x176, x177, x178, x179, x180, x181, x182, x183, x184, x185, x186, x187, x188, x189, x190, x191, x192, x193, x194, x195, x196, x197, x198, x199, x200], ds⟩ wx)
 (hn : 0 < n) (hN : N ≤ 100000) (hul : ul.length = N) (hin : ou + N ≤ Lu.length) (hj : j + (n) ≤ N) (hNc : N ≤ cu) (hguv : gu ≠ gv) (hvl : vs.length = n) (hDl : Dl.length = n) (hDb : ∀ a ∈ Dl, a < 18446744073709551616) (hub : ∀ a ∈ Lu, a < 18446744073709551616) (hulb : ∀ a ∈ ul, a < 18446744073709551616) (hbw : bw ≤ 1) (hqb : qn < 18446744073709551616)
 (hfine : bw = 0 → qn = D ∧ val Dl = M) (hback : bw = 1 → qn = D + 1 ∧ val (addVs Dl vs 0).1 = M)
 (b7 : Blk .u64 w7 gu (spl Lu ou (spl ul j Dl))) (bv : VAt w7 gv ov vs) :
 Code.wp Tryz.prog kb148 (Exit.then J Q') ⟨#[s0, s1, .slice (some ⟨gu, ou, none⟩) N cu, .slice (some ⟨gv, ov, none⟩) n cv, s4, s5, s6, s7, .int .i64 (n : Int), s9, s10, s11, s12, s13, .int .i64 (j : Int), .int .u64 (qn : Int), s16, s17, s18, s19, s20, .int .i64 (n : Int), .int .u64 (bw : Int), s23, s24, s25, s26, s27, s28, s29, s30, s31, s32, s33, s34, s35, s36, s37, s38, s39, s40, s41, s42, s43, s44, s45, s46, s47, s48, s49, s50, s51, s52, s53, s54, s55, s56, s57, s58, s59, s60, s61, s62, s63, s64, s65, s66, s67, s68, s69, s70, s71, s72, s73, s74, s75, s76, s77, s78, s79, s80, s81, s82, s83, s84, s85, s86, s87, s88, s89, s90, s91, s92, s93, s94, s95, s96, s97, s98, s99, s100, s101, s102, s103, s104, s105, s106, s107, s108, s109, s110, s111, s112, s113, s114, s115, s116, s117, s118, s119, s120, s121, s122, s123, s124, s125, s126, s127, s128, s129, s130, s131, s132, s133, s134, s135, s136, s137, s138, s139, s140, s141, s142, s143, s144, s145, s146, s147, .bool ((bw : Int) != 0), s149, s150, s151, s152, s153, s154, s155, s156, s157, s158, s159, s160, s161, s162, s163, s164, s165, s166, s167, s168, s169, s170, s171, s172, s173, s174, s175, s176, s177, s178, s179, s180, s181, s182, s183, s184, s185, s186, s187, s188, s189, s190, s191, s192, s193, s194, s195, s196, s197, s198, s199, s200], ds⟩ w7 := by
 conv => arg 2; whnf
 have H_h := hid h
 clear h
 rcases (show bw = 0 ∨ bw = 1 by omega) with h0 | h0
 · obtain ⟨f1, f3⟩ := hfine h0
   subst h0
   subst f1
   have hfin : Hid (Dl.length = n ∧ (∀ a ∈ Dl, a < 18446744073709551616) ∧ val Dl = M) := hid ⟨hDl, hDb, f3⟩
   have hb7 : Hid (Blk .u64 w7 gu (spl Lu ou (spl ul j Dl))) := hid (by exact b7)
   clear hbw hfine hback b7 bv hDl hDb hub hulb
   go_wp2_with (fail)
   try simp only [Exit.then]
   exact H_h.out Dl _ ⟨hfin, hb7, hid (Keep.refl _ _)⟩ _ _ _ _ _ _ _ _ _ _ _ _ _ _ _ _ _ _ _ _ _ _ _ _ _ _ _ _ _ _ _ _ _ _ _ _ _ _ _ _ _ _ _ _ _ _ _ _ _ _ _ _ _ _ _ _ _ _ _ _ _ _ _ _ _ _ _ _ _ _ _ _ _ _ _ _ _ _ _ _ _ _ _ _ _ _ _ _ _ _ _ _ _ _ _ _ _ _ _ _ _ _ _ _ _ _ _ _ _ _ _ _ _ _ _ _ _ _ _ _ _ _ _ _ _ _ _ _ _ _ _ _ _ _ _ _ _ _ _ _ _ _ _ _ _ _ _ _ _ _ _ _ _ _ _ _ _ _ 
 · obtain ⟨f1, f2⟩ := hback h0
   subst h0
   obtain ⟨jn, hjn⟩ : ∃ a, a = j + n := ⟨_, rfl⟩
   have ijn : (j : Int) + (n : Int) = (jn : Int) := by omega
   have wjn : IntKind.i64.wrap (jn : Int) = (jn : Int) := by rw [IntKind.wrap_i64]; omega
   have ljn : (jn : Int) ≤ (cu : Int) := by omega
   have ljnj : (j : Int) ≤ (jn : Int) := by omega
   have ejn2 : jn - j = n := by omega
   have njc : ¬ cu = j := by omega
   have iq : (qn : Int) - 1 = (D : Int) := by omega
   have wq : IntKind.u64.wrap (D : Int) = (D : Int) := wum _ (by omega)
   have hall := addVs_length Dl vs 0 (by omega)
   have hal := addVs_lt Dl vs 0
   have hSl : (addVs Dl vs 0).1.length = n := by rw [hall]; exact hDl
   have hadd : ∀ W, Keep (fun _ => False) w7 W → Calls Tryz.prog 159 #[.slice (some ⟨gu, ou + j, none⟩) n (cu - j), .slice (some ⟨gu, ou + j, none⟩) n (cu - j), .slice (some ⟨gv, ov, none⟩) n cv] W
    (fun e w' => e = .returned (.int .u64 ((addVs Dl vs 0).2 : Nat)) ∧ Hid (Puts .u64 gu (spl Lu ou (spl ul j (addVs Dl vs 0).1)) W w')) := by
    intro W hW
    have hsl : (spl ul j Dl).length = ul.length := sgl (by omega)
    have hcur : ∀ a ∈ spl Lu ou (spl ul j Dl), a < 18446744073709551616 := by
     intro a ha
     rcases spl_mem ha with h | h
     · exact hub a h
     · rcases spl_mem h with h | h
       · exact hulb a h
       · exact hDb a h
    obtain ⟨Lv, bv1, bv2, bv3, bv4⟩ := bv.keep hW (fun h => h)
    have := addVV gu (ou + j) (cu - j) gu (ou + j) (cu - j) gv ov cv n _ _ _ W (by omega) (b7.keep hW (fun h => h)) (b7.keep hW (fun h => h)) bv1
     (by rw [sgl (by omega)]; omega) (by rw [sgl (by omega)]; omega) (by omega) hcur bv4 (.inr (Nat.le_refl _)) (.inl hguv.symm)
    have e1 : seg (spl Lu ou (spl ul j Dl)) (ou + j) n = Dl := by
     rw [seg_spl_in (by omega) (by omega), ← hDl, seg_spl (by omega)]
    have e2 : seg Lv ov n = vs := by rw [hvl] at bv3; exact bv3
    rw [e1, e2, spl_in (by omega) (by rw [hSl]; omega)] at this
    refine this.mono ?_
    rintro e w' ⟨rfl, hp⟩
    refine ⟨rfl, ?_⟩
    have e3 : spl (spl ul j Dl) j (addVs Dl vs 0).1 = spl ul j (addVs Dl vs 0).1 := by
     exact spl_over (by omega) hDl hSl
    have : Puts .u64 gu (spl Lu ou (spl (spl ul j Dl) j (addVs Dl vs 0).1)) W w' := hp
    rw [e3] at this
    exact this
   generalize (addVs Dl vs 0).1 = S at *
   generalize (addVs Dl vs 0).2 = c2 at *
   clear hbw hall hfine hback b7 bv hDb hub hulb f1
   have H_f2 := hid f2; have H_hadd := hid hadd; have H_hSl := hid hSl; have H_hal := hid hal; have H_hul := hid hul; have H_hin := hid hin; have H_hj := hid hj; have H_hDl := hid hDl; have H_hvl := hid hvl; have H_hjn := hid hjn; have H_hNc := hid hNc; clear f2 hadd hSl hal hul hin hj hDl hvl hjn hNc
   go_wp2_with (fail)
   go_still_tail 13, (by kernel_rfl)
   change wpList _ _ _ _ _ (World.drew _)
   go_wp2_with (fail)
   refine (H_hadd.out _ (Keep.refl _ _).drew).mono ?_
   rintro e w8 ⟨rfl, hp8⟩
   have hp8 := hp8.out.of_drew
   have H_hp8 := hid hp8; clear hp8
   go_wp2_with (fail)
   try simp only [Exit.then]
   exact H_h.out S _ ⟨hid ⟨H_hSl.out, H_hal.out, H_f2.out⟩, hid H_hp8.out.blk, hid H_hp8.out.keep⟩ _ _ _ _ _ _ _ _ _ _ _ _ _ _ _ _ _ _ _ _ _ _ _ _ _ _ _ _ _ _ _ _ _ _ _ _ _ _ _ _ _ _ _ _ _ _ _ _ _ _ _ _ _ _ _ _ _ _ _ _ _ _ _ _ _ _ _ _ _ _ _ _ _ _ _ _ _ _ _ _ _ _ _ _ _ _ _ _ _ _ _ _ _ _ _ _ _ _ _ _ _ _ _ _ _ _ _ _ _ _ _ _ _ _ _ _ _ _ _ _ _ _ _ _ _ _ _ _ _ _ _ _ _ _ _ _ _ _ _ _ _ _ _ _ _ _ _ _ _ _ _ _ _ _ _ _ _ _

end Go.Proofs.YtllencgncinphaaGreatDoor
