/- The contracts of govalues' whole numbers of any length: getBint, setFint, setBint. -/
import Derived.LaidEqlPtr
import Derived.Defers
import Derived.Recover
import Derived.Test.YtmgidnjpkbgmgabGreatDoorKB5
import Derived.Test.YtmgidnjpkbgmgabGreatDoorKB12
import Derived.Test.YtmgidnjpkbgmgabGreatDoorKB20
namespace Go.Proofs.YtmgidnjpkbgmgabGreatDoor
open Go.RowKit

/-- the whole number n, which is not negative, lies in block g; v are its words -/
def BI (w : World) (g : Nat) (v : Value) (n : Nat) : Prop := ∃ l, IntIs w g 0 false v l ∧ val l = n

theorem BI.fresh {w w' : World} {g n : Nat} {v : Value} (h : BI w g v n) (hk : Fresh w w') : BI w' g v n := by
  obtain ⟨l, h1, h2⟩ := h
  exact ⟨l, h1.fresh hk, h2⟩

theorem BI.keep {S : Nat → Prop} {w w' : World} {g n : Nat} {v : Value} (h : BI w g v n) (hk : Keep S w w') (hs : ¬ S g) (hv : ∀ k, v.ownBlock = some k → ¬ S k) : BI w' g v n := by
  obtain ⟨l, h1, h2⟩ := h
  exact ⟨l, h1.keep hk hs hv, h2⟩

theorem BI.lt {w : World} {g n : Nat} {v : Value} (h : BI w g v n) : g < w.heap.size := by
  obtain ⟨l, h1, h2⟩ := h
  exact h1.str.lt

theorem BI.own_lt {w : World} {g n : Nat} {v : Value} (h : BI w g v n) {k : Nat} (hk : v.ownBlock = some k) : k < w.heap.size := by
  obtain ⟨l, h1, h2⟩ := h
  exact h1.nat.lt hk

theorem BI.ne_own {w : World} {g g' n n' : Nat} {v v' : Value} (h : BI w g v n) (h' : BI w g' v' n') {k : Nat} (hk : v'.ownBlock = some k) : g ≠ k := by
  obtain ⟨l, h1, h2⟩ := h
  obtain ⟨l', h1', h2'⟩ := h'
  exact IntIs.ne h1.str h1'.nat hk

/-- the call sets the whole number in block g to n; nothing else has turned but the words that it held -/
def BSet (w : World) (g : Nat) (vz : Value) (n : Nat) (w' : World) : Prop :=
  ∃ v, BI w' g v n ∧ Keep (fun k => k = g ∨ vz.ownBlock = some k) w w' ∧ (∀ k, v.ownBlock = some k → vz.ownBlock = some k ∨ w.heap.size ≤ k)

theorem IntIs.nonneg {w : World} {b o n : Nat} {neg : Bool} {v : Value} {l : List Nat} (h : IntIs w b o neg v l) (hv : ival neg l = (n : Int)) : neg = false ∧ val l = n := by
  cases neg
  · have e : (val l : Int) = (n : Int) := by simpa [ival] using hv
    exact ⟨rfl, by omega⟩
  · exfalso
    have e : -(val l : Int) = (n : Int) := by simpa [ival] using hv
    have h0 : val l = 0 := by omega
    have := h.zero (val_nil_of h.norm h0)
    cases this

theorem IntRet.bset {w : World} {b : Nat} {vz : Value} {n : Nat} {e : Ending} {w' : World} (h : IntRet w b 0 vz n e w') : e = .returned (.pointer (some ⟨b, 0, none⟩)) ∧ BSet w b vz n w' := by
  obtain ⟨he, neg, v, l, h1, h2, h3, h4⟩ := h
  obtain ⟨rfl, hv⟩ := h1.nonneg h2
  exact ⟨he, v, ⟨l, h1, hv⟩, h3, h4⟩

theorem IntIs.new {w : World} {g : Nat} {T : TypeId} (h : w.heap[g]? = some (.cells #[.bool false, .slice none 0 0] T (0, 0))) (hg : NG ≤ g) : IntIs w g 0 false (.slice none 0 0) [] := by
  have c0 := row_cell h 0
  have c1 := row_cell h 1
  simp at c0 c1
  exact ⟨⟨c0, c1, frozen_of_row _ _ _ _ _ h, frozen_of_row _ _ _ _ _ h, hg, _, _, h⟩, NatAt.nil w, Norm.nil, fun _ => rfl⟩

theorem BI.new {w : World} {g : Nat} {T : TypeId} (h : w.heap[g]? = some (.cells #[.bool false, .slice none 0 0] T (0, 0))) (hg : NG ≤ g) : BI w g (.slice none 0 0) 0 := ⟨[], IntIs.new h hg, rfl⟩

theorem getBint_any (w : World) (hG : NG ≤ w.heap.size) : Calls Tryz.prog 93 #[] w (fun e w' => e = .returned (.pointer (some ⟨w.heap.size, 0, none⟩)) ∧ BI w' w.heap.size (.slice none 0 0) 0 ∧ Fresh w w' ∧ w'.heap.size = w.heap.size + 1) := by
  have H_hG := Lib.hid hG
  clear hG
  go_enter Tryz.func93, Tryz.ntmps93
  go_wp2
  go_ret
  exact ⟨rfl, BI.new (heap_alloc_new w _) H_hG.out, (Keep.refl _ _).alloc _, by simp⟩

theorem setUint64_any (zv : Value) (zl : List Nat) (x : Nat) (w : World) (hx : x < 18446744073709551616) (h : NatAt w zv zl) :
    Calls Tryz.prog 146 #[zv, .int .u64 x] w (NatRet w zv x) := by
  have hc := setWord_any zv zl x w hx h
  have H_hc := Lib.hid hc; clear hc
  have H_h := Lib.hid h; clear h
  go_enter Tryz.func146, Tryz.ntmps146
  go_wp2_with (fail)
  refine H_hc.out.mono ?_
  intro e w1 hr
  obtain ⟨rv, l, rfl, hrest⟩ := hr
  have hr : NatRet w zv x (.returned rv) w1 := ⟨rv, l, rfl, hrest⟩
  clear hrest
  have H_hr := Lib.hid hr; clear hr
  go_wp2
  go_ret
  exact H_hr.out

set_option maxRecDepth 20000 in
theorem SetUint64_any (b : Nat) (negz : Bool) (vz : Value) (lz : List Nat) (x : Nat) (w : World) (hx : x < 18446744073709551616) (hz : IntIs w b 0 negz vz lz) :
    Calls Tryz.prog 122 #[.pointer (some ⟨b, 0, none⟩), .int .u64 x] w (IntRet w b 0 vz x) := by
  have hc := setUint64_any vz lz x w hx hz.nat
  have cz1 := hz.str.c1
  rw [Nat.zero_add] at cz1
  have nz : ¬ (vz.ownBlock = some b) := fun e => IntIs.ne hz.str hz.nat e rfl
  have H_hc := Lib.hid hc; clear hc
  have H_hz := Lib.hid hz; clear hz
  have H_nz := Lib.hid nz; clear nz
  go_enter Tryz.func122, Tryz.ntmps122
  go_wp2_with (fail)
  refine H_hc.out.mono ?_
  intro e w1 hr
  obtain ⟨rv, l, rfl, hop, hnorm, hval⟩ := hr
  obtain ⟨ra, rc, rfl⟩ := hop.nat.form
  have hs := H_hz.out.str.keep hop.keep H_nz.out
  have kc0 := hs.c0
  have kc1 := hs.c1
  have kf0 := hs.f0
  have kf1 := hs.f1
  rw [Nat.zero_add] at kc1 kf1
  clear cz1
  have H_hop := Lib.hid hop; clear hop
  have H_hnorm := Lib.hid hnorm; clear hnorm
  have H_hval := Lib.hid hval; clear hval
  have H_hs := Lib.hid hs; clear hs
  go_wp2_with (fail)
  go_ret
  exact ⟨rfl, IntIs.made H_hz.out.str H_hz.out.nat H_hop.out H_hnorm.out false (fun _ => rfl) (x : Int) (by simp [ival, H_hval.out]) rfl⟩

theorem setFint_any (g : Nat) (vz : Value) (n x : Nat) (w : World) (hx : x < 18446744073709551616) (hz : BI w g vz n) :
    Calls Tryz.prog 95 #[.pointer (some ⟨g, 0, none⟩), .int .u64 x] w (fun e w' => e = .returned (.tuple #[]) ∧ BSet w g vz x w') := by
  obtain ⟨lz, hz, _⟩ := hz
  have H_hz := Lib.hid hz; clear hz
  go_enter Tryz.func95, Tryz.ntmps95
  go_wp2_with (fail)
  refine (SetUint64_any g false vz lz x _ hx H_hz.out).mono ?_
  intro e w1 hr
  obtain ⟨rfl, hb⟩ := hr.bset
  clear hr
  have H_hb := Lib.hid hb; clear hb
  go_wp2
  go_end0
  exact ⟨rfl, H_hb.out⟩

set_option maxRecDepth 20000 in
set_option maxHeartbeats 2000000 in
theorem Set_any (bz bx : Nat) (vz vx : Value) (lz lx : List Nat) (w : World) (hlx : lx.length ≤ 1000000) (hne : bz ≠ bx)
    (hz : IntIs w bz 0 false vz lz) (hx : IntIs w bx 0 false vx lx) (hs : Sep vz vx) :
    Calls Tryz.prog 134 #[.pointer (some ⟨bz, 0, none⟩), .pointer (some ⟨bx, 0, none⟩)] w (IntRet w bz 0 vz (val lx : Int)) := by
  have hc := set_any vz vx lz lx w.drew hlx hz.nat.drew hx.nat.drew hs
  have hneq : (binOp .neq 132 (.pointer (some ⟨bz, 0, none⟩)) (.pointer (some ⟨bx, 0, none⟩))).run Tryz.prog w = .ok (.bool true) w := StrAt.neq_ne hz.str hx.str hne Tryz.underlying132 (by kernel_rfl)
  have cz1 := hz.str.c1
  have cx1 := hx.str.c1
  rw [Nat.zero_add] at cz1 cx1
  have nz : ¬ (vz.ownBlock = some bz) := fun e => IntIs.ne hz.str hz.nat e rfl
  have nx : ¬ (vz.ownBlock = some bx) := fun e => IntIs.ne hx.str hz.nat e rfl
  have H_hc := Lib.hid hc; clear hc
  have H_hz := Lib.hid hz; clear hz
  have H_hx := Lib.hid hx; clear hx
  have H_nz := Lib.hid nz; clear nz
  have H_nx := Lib.hid nx; clear nx
  have H_hs := Lib.hid hs; clear hs
  go_enter Tryz.func134, Tryz.ntmps134
  go_wp2_with (fail)
  clear hneq
  refine wp_region_E (S := (fun (w' : World) => w'.cell? ⟨bz, 1, none⟩ = some vz ∧ w'.cell? ⟨bx, 1, none⟩ = some vx)) 12 (by kernel_rfl) (by exact ⟨cz1, cx1⟩) (fun hHeld => ?_)
  refine wpAnyE_takeP (i := 0) (v := ?v0_1) rfl (by kernel_rfl) (fun _ _ _ h => h) ⟨by rfl, ?y0_1⟩ (by assumption) ?r0_1
  case y0_1 => (intro w; go_simp; try with_reducible rfl)
  try simp only [Act.put, yA, yB, yD, yE, yF]
  refine wpAnyE_takeP (i := 1) (v := ?v1_1) rfl (by kernel_rfl) (fun _ _ _ h => h) ⟨by rfl, ?y1_1⟩ (by assumption) ?r1_1
  case y1_1 => (intro w; go_simp; try with_reducible rfl)
  try simp only [Act.put, yA, yB, yC, yD, yE, yF]
  refine wpAnyE_takeP (i := 2) (v := ?v2_1) rfl (by kernel_rfl) (fun _ _ _ h => h) ⟨by rfl, ?y2_1⟩ (by assumption) ?r2_1
  case y2_1 => (intro w; go_simp; try with_reducible rfl)
  try simp only [Act.put, yA, yB, yC, yD, yE, yF]
  refine wpAnyE_takeP (i := 3) (v := ?v3_1) rfl (by kernel_rfl) (fun _ _ _ h => h) ⟨by rfl, ?y3_1⟩ (by assumption) ?r3_1
  case y3_1 => (intro w; go_simp; try with_reducible rfl)
  try simp only [Act.put, yA, yB, yC, yD, yE, yF]
  refine wpAnyE_takeL (i := 4) (c := 9) (v := ?v4_1) rfl (by kernel_rfl) (fun _ _ _ h => h) ⟨by rfl, ?y4_1⟩ (by assumption) ?r4_1
  case y4_1 => (intro w hSw; go_split_ands; go_simp; try with_reducible rfl)
  try simp only [Act.put, yA, yB, yC, yD, yE, yF]
  refine wpAnyE_takeP (i := 5) (v := ?v5_1) rfl (by kernel_rfl) (fun _ _ _ h => h) ⟨by rfl, ?y5_1⟩ (by assumption) ?r5_1
  case y5_1 => (intro w; go_simp; try with_reducible rfl)
  try simp only [Act.put, yA, yB, yC, yD, yE, yF]
  refine wpAnyE_takeP (i := 6) (v := ?v6_1) rfl (by kernel_rfl) (fun _ _ _ h => h) ⟨by rfl, ?y6_1⟩ (by assumption) ?r6_1
  case y6_1 => (intro w; go_simp; try with_reducible rfl)
  try simp only [Act.put, yA, yB, yC, yD, yE, yF]
  refine wpAnyE_takeP (i := 7) (v := ?v7_1) rfl (by kernel_rfl) (fun _ _ _ h => h) ⟨by rfl, ?y7_1⟩ (by assumption) ?r7_1
  case y7_1 => (intro w; go_simp; try with_reducible rfl)
  try simp only [Act.put, yA, yB, yC, yD, yE, yF]
  refine wpAnyE_takeL (i := 8) (c := 9) (v := ?v8_1) rfl (by kernel_rfl) (fun _ _ _ h => h) ⟨by rfl, ?y8_1⟩ (by assumption) ?r8_1
  case y8_1 => (intro w hSw; go_split_ands; go_simp; try with_reducible rfl)
  try simp only [Act.put, yA, yB, yC, yD, yE, yF]
  refine wpAnyE_one (i := 9) rfl (by kernel_rfl) (fun K hK => ?_)
  go_simp
  refine H_hc.out.mono ?_; rintro e w1 ⟨rv, rfl, hop⟩; have hop := hop.of_drew; obtain ⟨ra, rc, rfl⟩ := hop.nat.form; have kz := (H_hz.out.str.keep hop.keep H_nz.out).c1; have kx := (H_hx.out.str.keep hop.keep H_nx.out).c1; have kf := (H_hz.out.str.keep hop.keep H_nz.out).f1; have kx0 := (H_hx.out.str.keep hop.keep H_nx.out).c0; have kf0 := (H_hz.out.str.keep hop.keep H_nz.out).f0; have kz0 := (H_hz.out.str.keep hop.keep H_nz.out).c0; rw [Nat.zero_add] at kz kx kf; have H_hop := Lib.hid hop; clear hop
  go_wp2_with (fail)
  have hHeldB : ((fun (w' : World) => w'.cell? ⟨bz, 1, none⟩ = some vz ∧ w'.cell? ⟨bx, 1, none⟩ = some vx)) _ := ⟨kz, kx⟩
  refine hK.out _ _ (fun _ => hHeldB) ?_
  clear hK K
  try simp only [Act.put, yA, yB, yC, yD, yE, yF]
  refine wpAnyE_takeP (i := 10) (v := ?v10_1) rfl (by kernel_rfl) (fun _ _ _ h => h) ⟨by rfl, ?y10_1⟩ (by assumption) ?r10_1
  case y10_1 => (intro w; go_simp; try with_reducible rfl)
  try simp only [Act.put, yA, yB, yC, yD, yE, yF]
  refine wpAnyE_takeP (i := 11) (v := ?v11_1) rfl (by kernel_rfl) (fun _ _ _ h => h) ⟨by rfl, ?y11_1⟩ (by assumption) ?r11_1
  case y11_1 => (intro w; go_simp; try with_reducible rfl)
  try simp only [Act.put, yA, yB, yC, yD, yE, yF]
  refine wpAnyE_one (i := 12) rfl (by kernel_rfl) (fun K hK => ?_)
  go_simp
  refine hK.out _ _ (fun h => Bool.noConfusion (show true = false from h)) ?_
  clear hK K
  try simp only [Act.put, yA, yB, yC, yD, yE, yF]
  refine wpAnyE_done (by kernel_rfl) ?_ _
  clear hHeldB
  have kx0' : (w1.setCell ⟨bz, 1, none⟩ (.slice ra lx.length rc)).cell? ⟨bx, 0, none⟩ = some (.bool false) := (cell?_setCell_ne (.inr (by simp))).trans kx0
  have kz0' : (w1.setCell ⟨bz, 1, none⟩ (.slice ra lx.length rc)).cell? ⟨bz, 0, none⟩ = some (.bool false) := (cell?_setCell_ne (.inr (by simp))).trans kz0
  have kf0' : (w1.setCell ⟨bz, 1, none⟩ (.slice ra lx.length rc)).frozen? ⟨bz, 0, none⟩ = false := (frozen?_setCell' _ _ _ _).trans kf0
  clear cz1 cx1 kz kx kf kx0 kf0 kz0
  go_wp2_with (fail)
  go_ret
  exact ⟨rfl, IntIs.made H_hz.out.str H_hz.out.nat H_hop.out H_hx.out.norm false (fun _ => rfl) (val lx : Int) (by simp [ival]) rfl⟩

end Go.Proofs.YtmgidnjpkbgmgabGreatDoor

/- The contracts of govalues' whole numbers of any length: Int.Mul, bpow10, mul, lsh. -/
namespace Go.Proofs.YtmgidnjpkbgmgabGreatDoor
open Go.RowKit

theorem IntSet.ret {w : World} {b o : Nat} {vz : Value} {n : Int} {e : Ending} {w' : World} (h : IntSet w b o vz n e w') : IntRet w b o vz n (.returned (.pointer (some ⟨b, o, none⟩))) w' := ⟨rfl, h.2⟩

theorem Int_Mul (bz bx bY : Nat) (vz vx vy : Value) (nz nx ny : Nat) (w : World) (hG : Glob w) (hlx : nx < wpow 39) (hly : ny < wpow 39) (hne : bx ≠ bY)
    (hz : BI w bz vz nz) (hx : BI w bx vx nx) (hy : BI w bY vy ny) (hsx : Sep vz vx) (hsy : Sep vz vy) :
    Calls Tryz.prog 135 #[.pointer (some ⟨bz, 0, none⟩), .pointer (some ⟨bx, 0, none⟩), .pointer (some ⟨bY, 0, none⟩)] w (IntRet w bz 0 vz ((nx * ny : Nat) : Int)) := by
  obtain ⟨lz, hz, _⟩ := hz
  obtain ⟨lx, hx, rfl⟩ := hx
  obtain ⟨ly, hy, rfl⟩ := hy
  have h1 := hx.norm.len_lt hlx
  have h2 := hy.norm.len_lt hly
  have hc := Int_mul bz 0 bx 0 bY 0 false false false vz vx vy lz lx ly none w hG (by omega) (by omega) hne hz hx hy hsx hsy
  have e : ival false lx * ival false ly = ((val lx * val ly : Nat) : Int) := by simp [ival]
  rw [e] at hc
  clear hz hx hy hG hsx hsy hlx hly
  generalize ((val lx * val ly : Nat) : Int) = m at *
  have H_hc := Lib.hid hc; clear hc
  go_enter Tryz.func135, Tryz.ntmps135
  go_wp2_with (fail)
  refine H_hc.out.mono ?_
  intro e w1 hr
  have he := hr.1
  subst he
  have hr2 := hr.ret
  clear hr
  have H_hr2 := Lib.hid hr2; clear hr2
  go_wp2
  go_ret
  exact H_hr2.out

/-- the call returns a whole number of its own -/
def BRet (w : World) (n : Nat) (e : Ending) (w' : World) : Prop := ∃ g v, e = .returned (.pointer (some ⟨g, 0, none⟩)) ∧ BI w' g v n ∧ w.heap.size ≤ g ∧ (∀ k, v.ownBlock = some k → w.heap.size ≤ k) ∧ Fresh w w'

theorem BSet.fresh_of {w w1 w' : World} {g n : Nat} {vz : Value} (h : BSet w1 g vz n w') (hf : Fresh w w1) (hg : w.heap.size ≤ g) (hv : ∀ k, vz.ownBlock = some k → w.heap.size ≤ k) :
    ∃ v, BI w' g v n ∧ (∀ k, v.ownBlock = some k → w.heap.size ≤ k) ∧ Fresh w w' := by
  obtain ⟨v, h1, h2, h3⟩ := h
  refine ⟨v, h1, fun k hk => ?_, hf.trans h2 (fun _ _ h => h.elim) (fun k hk hs => ?_)⟩
  · rcases h3 k hk with h | h
    · exact hv k h
    · exact Nat.le_trans hf.size h
  · rcases hs with h | h
    · omega
    · have := hv k h; omega

theorem wpow_big {n : Nat} (h : n < 100000000000000000000000000000000000000000) : n < wpow 39 := by
  have h1 : 100000000000000000000000000000000000000000 ≤ wpow 3 := by unfold wpow; decide
  have h2 : wpow 3 ≤ wpow 39 := by unfold wpow; exact Nat.pow_le_pow_right (by omega) (by omega)
  omega

set_option maxRecDepth 20000 in
set_option maxHeartbeats 2000000 in
theorem bpow10_any (n : Nat) (w : World) (hG : Glob w) (hP : Pow10s w) (hn : n ≤ 19) : Calls Tryz.prog 111 #[.int .i64 n] w (BRet w (10 ^ n)) := by
  have t1 : decide ((n : Int) < 0) = false := by simp
  have t2 : decide ((100 : Int) ≤ (n : Int)) = false := by simp; omega
  have t3 : decide ((19 : Int) < (n : Int)) = false := by simp; omega
  have hcl := hP n (by omega)
  have hxl : 10 ^ n < 18446744073709551616 := by
    have : 10 ^ n ≤ 10 ^ 19 := Nat.pow_le_pow_right (by omega) hn
    omega
  obtain ⟨x, hx⟩ : ∃ x, x = 10 ^ n := ⟨_, rfl⟩
  rw [← hx] at hcl hxl ⊢
  obtain ⟨g, hg⟩ : ∃ g, g = w.heap.size := ⟨_, rfl⟩
  have bx := box1 w #[.bool false, .slice none 0 0] 136 g hg
  have hGs := hG.size
  have H_bx := Lib.hid bx; clear bx
  have H_hG := Lib.hid hG; clear hG
  have H_hP := Lib.hid hP; clear hP
  have H_hx := Lib.hid hx; clear hx
  have H_hcl := Lib.hid hcl; clear hcl
  have H_hGs := Lib.hid hGs; clear hGs
  go_enter Tryz.func111, Tryz.ntmps111
  go_wp2_with (fail)
  generalize hw1 : w.alloc _ = w1
  rw [← hg]
  obtain ⟨b1, hf⟩ := H_bx.out w1 hw1
  have hb0 := IntIs.new b1 (by have := H_hGs.out; omega)
  have H_b1 := Lib.hid b1; clear b1
  have H_hw1 := Lib.hid hw1; clear hw1
  have H_hg := Lib.hid hg; clear hg
  have H_hf := Lib.hid hf; clear hf
  refine (SetUint64_any g false _ [] 1 _ (by omega) hb0).mono ?_
  clear hb0
  intro e w2 hr
  obtain ⟨rfl, hb⟩ := hr.bset
  clear hr
  obtain ⟨v, b2, ov, f2⟩ := hb.fresh_of H_hf.out (by have := H_hg.out; omega) (fun k h => by simp [Value.ownBlock] at h)
  clear hb
  have H_b2 := Lib.hid b2; clear b2
  have H_ov := Lib.hid ov; clear ov
  have H_f2 := Lib.hid f2; clear f2
  go_wp2_with (fail)
  go_loopw [0] (fun i wr => i = .int .i64 n ∧ wr = w2) (fun _ _ => 0)
  case atStart => exact ⟨rfl, rfl⟩
  case round =>
    obtain ⟨rfl, rfl⟩ := hrel
    obtain ⟨h, hh⟩ : ∃ h, h = wr.heap.size := ⟨_, rfl⟩
    have by_ := box1 wr #[.bool false, .slice none 0 0] 136 h hh
    have hc2 := cell_fresh (cell_fresh H_hcl.out H_f2.out) ((Keep.refl (fun _ => False) wr).alloc (.cells #[.bool false, .slice none 0 0] 136))
    have H_by_ := Lib.hid by_; clear by_
    go_wp2_with (fail)
    generalize hw3 : wr.alloc _ = w3
    rw [← hh]
    obtain ⟨b3, hf3⟩ := H_by_.out w3 hw3
    have hb0 := IntIs.new b3 (by have := H_hGs.out; have := H_f2.out.size; omega)
    have b2' := H_b2.out.fresh hf3
    have H_b3 := Lib.hid b3; clear b3
    have H_hw3 := Lib.hid hw3; clear hw3
    have H_hh := Lib.hid hh; clear hh
    have H_hf3 := Lib.hid hf3; clear hf3
    have H_b2' := Lib.hid b2'; clear b2'
    clear hc2
    refine (SetUint64_any h false _ [] x _ hxl hb0).mono ?_
    clear hb0
    intro e w4 hr
    obtain ⟨rfl, hb4⟩ := hr.bset
    clear hr
    have hne : g ≠ h := by have := H_b2.out.lt; have := H_hh.out; omega
    obtain ⟨v4, b4, o4, f4⟩ := hb4.fresh_of H_hf3.out (by have := H_hh.out; omega) (fun k h => by simp [Value.ownBlock] at h)
    have c4 := H_b2.out.fresh f4
    have hsep : Sep v v4 := .inr (fun k hk e => by have := H_b2.out.own_lt hk; have := o4 k e; omega)
    have hG4 := (H_hG.out.fresh H_f2.out).fresh f4
    have f24 := fresh_trans H_f2.out f4
    clear hb4
    have H_b4 := Lib.hid b4; clear b4
    have H_o4 := Lib.hid o4; clear o4
    have H_f4 := Lib.hid f4; clear f4
    have H_c4 := Lib.hid c4; clear c4
    have H_hsep := Lib.hid hsep; clear hsep
    have H_hG4 := Lib.hid hG4; clear hG4
    have H_f24 := Lib.hid f24; clear f24
    go_wp2_with (fail)
    refine (Int_Mul g g h v v v4 1 1 x _ H_hG4.out (wpow_big (by omega)) (wpow_big (by omega)) hne H_c4.out H_c4.out H_b4.out (.inl rfl) H_hsep.out).mono ?_
    intro e w5 hr
    obtain ⟨rfl, hb5⟩ := hr.bset
    clear hr
    rw [Nat.one_mul] at hb5
    obtain ⟨v5, b5, o5, f5⟩ := hb5.fresh_of H_f24.out (by have := H_hg.out; omega) H_ov.out
    clear hb5
    have H_b5 := Lib.hid b5; clear b5
    have H_o5 := Lib.hid o5; clear o5
    have H_f5 := Lib.hid f5; clear f5
    go_wp2_with (fail)
    go_ret
    exact ⟨g, v5, rfl, H_b5.out, by have := H_hg.out; omega, H_o5.out, H_f5.out⟩

end Go.Proofs.YtmgidnjpkbgmgabGreatDoor

/- The contracts of govalues' whole numbers of any length: mul, lsh, cmp. -/
namespace Go.Proofs.YtmgidnjpkbgmgabGreatDoor
open Go.RowKit

theorem putBint_idle (v : Value) (w : World) :
    CallsD Tryz.prog 94 #[v] .returning w fun e u' w' => e = .returned (.tuple #[]) ∧ u' = .returning ∧ w' = w := by
  refine callsD_of_wpS Tryz.func94 rfl fun c₀ cs hu => ?_
  refine wpS_of_wp (wp_skip ?_)
  cases c₀
  simp_all [bodyPostS, results, Tryz.results94]

set_option maxRecDepth 20000 in
theorem setBint_any (g h : Nat) (vz vx : Value) (m n : Nat) (w : World) (hn : n < wpow 39) (hne : g ≠ h) (hz : BI w g vz m) (hx : BI w h vx n) (hs : Sep vz vx) :
    Calls Tryz.prog 110 #[.pointer (some ⟨g, 0, none⟩), .pointer (some ⟨h, 0, none⟩)] w (fun e w' => e = .returned (.tuple #[]) ∧ BSet w g vz n w') := by
  obtain ⟨lz, hz, _⟩ := hz
  obtain ⟨lx, hx, rfl⟩ := hx
  have h1 := hx.norm.len_lt hn
  have hc := Set_any g h vz vx lz lx w (by omega) hne hz hx hs
  clear hz hx hs
  have H_hc := Lib.hid hc; clear hc
  go_enter Tryz.func110, Tryz.ntmps110
  go_wp2_with (fail)
  refine H_hc.out.mono ?_
  intro e w1 hr
  obtain ⟨rfl, hb⟩ := hr.bset
  clear hr
  have H_hb := Lib.hid hb; clear hb
  go_wp2
  go_end0
  exact ⟨rfl, H_hb.out⟩

theorem BI.eql_ne {w : World} {g h m n : Nat} {v u : Value} (h1 : BI w g v m) (h2 : BI w h u n) (hne : g ≠ h) :
    (binOp .eql 106 (.pointer (some ⟨g, 0, none⟩)) (.pointer (some ⟨h, 0, none⟩))).run Tryz.prog w = .ok (.bool false) w := by
  obtain ⟨l, h1, _⟩ := h1
  obtain ⟨k, h2, _⟩ := h2
  exact StrAt.eql_ne h1.str h2.str hne Tryz.underlying106 (by kernel_rfl)

theorem bint_eql_self (w : World) (a : Addr) : (binOp .eql 106 (.pointer (some a)) (.pointer (some a))).run Tryz.prog w = .ok (.bool true) w := by
  cases hq : Tryz.prog.info? 272 with
  | none => exact absurd hq (by intro h; have : (Tryz.prog.info? 272).isSome = true := by kernel_rfl
                                rw [h] at this; cases this)
  | some i => exact run_eql_ptr_same w a Tryz.underlying106 hq

set_option maxRecDepth 20000 in
set_option maxHeartbeats 2000000 in
theorem mul_self (g h : Nat) (v u : Value) (n m : Nat) (w : World) (hG : Glob w) (hn : n < wpow 39) (hm : m < wpow 39) (hne : g ≠ h) (hz : BI w g v n) (hy : BI w h u m) (hs : Sep v u) :
    Calls Tryz.prog 124 #[.pointer (some ⟨g, 0, none⟩), .pointer (some ⟨g, 0, none⟩), .pointer (some ⟨h, 0, none⟩)] w (fun e w' => e = .returned (.tuple #[]) ∧ BSet w g v (n * m) w') := by
  have heq := bint_eql_self w ⟨g, 0, none⟩
  have hGs := hG.size
  obtain ⟨b, hb⟩ : ∃ b, b = w.heap.size := ⟨_, rfl⟩
  have hgb := getBint_any w hGs
  rw [← hb] at hgb
  have H_hG := Lib.hid hG; clear hG
  have H_hz := Lib.hid hz; clear hz
  have H_hy := Lib.hid hy; clear hy
  have H_hs := Lib.hid hs; clear hs
  have H_hGs := Lib.hid hGs; clear hGs
  have H_hgb := Lib.hid hgb; clear hgb
  have H_hb := Lib.hid hb; clear hb
  go_enter_defers Tryz.func124, Tryz.ntmps124
  go_wp2_with (fail)
  clear heq
  refine H_hgb.out.mono ?_
  rintro e w1 ⟨rfl, b1, f1, s1⟩
  have z1 := H_hz.out.fresh f1
  have y1 := H_hy.out.fresh f1
  have hgb1 : b ≠ g := by have := H_hz.out.lt; have := H_hb.out; omega
  have hgb2 : b ≠ h := by have := H_hy.out.lt; have := H_hb.out; omega
  have H_b1 := Lib.hid b1; clear b1
  have H_f1 := Lib.hid f1; clear f1
  have H_s1 := Lib.hid s1; clear s1
  have H_z1 := Lib.hid z1; clear z1
  have H_y1 := Lib.hid y1; clear y1
  go_wp2_with (fail)
  refine (setBint_any b g _ v 0 n _ hn hgb1 H_b1.out H_z1.out (Sep.nil v)).mono ?_
  rintro e w2 ⟨rfl, hb2⟩
  obtain ⟨vb, b2, o2, f2⟩ := hb2.fresh_of H_f1.out (by have := H_hb.out; omega) (fun k h => by simp [Value.ownBlock] at h)
  clear hb2
  have z2 := H_hz.out.fresh f2
  have y2 := H_hy.out.fresh f2
  have heq2 := z2.eql_ne y2 hne
  have hGa := H_hG.out.fresh f2
  have sp1 : Sep v vb := .inr (fun k hk e => by have := H_hz.out.own_lt hk; have := o2 k e; omega)
  have H_b2 := Lib.hid b2; clear b2
  have H_o2 := Lib.hid o2; clear o2
  have H_f2 := Lib.hid f2; clear f2
  have H_z2 := Lib.hid z2; clear z2
  have H_y2 := Lib.hid y2; clear y2
  have H_hGa := Lib.hid hGa; clear hGa
  have H_sp1 := Lib.hid sp1; clear sp1
  go_wp2_with (fail)
  clear heq2
  refine (Int_Mul g b h v vb u n n m _ H_hGa.out hn hm hgb2 H_z2.out H_b2.out H_y2.out H_sp1.out H_hs.out).mono ?_
  intro e w3 hr
  obtain ⟨rfl, v3, b3, k3, o3⟩ := hr.bset
  clear hr
  have k30 : Keep (fun k => k = g ∨ v.ownBlock = some k) w w3 := H_f2.out.trans k3 (fun _ _ h => h.elim) (fun _ _ h => h)
  have o30 : ∀ k, v3.ownBlock = some k → v.ownBlock = some k ∨ w.heap.size ≤ k := fun k hk => by
    rcases o3 k hk with h | h
    · exact .inl h
    · exact .inr (Nat.le_trans H_f2.out.size h)
  clear k3 o3
  have H_b3 := Lib.hid b3; clear b3
  have H_k30 := Lib.hid k30; clear k30
  have H_o30 := Lib.hid o30; clear o30
  go_wp2_with (fail)
  refine leaves_cons (f := 94) (args := #[.pointer (some ⟨b, 0, none⟩)]) (by simp) (by simp [go_sem]) ?_
  refine (putBint_idle _ _).mono ?_
  rintro e u' w'' ⟨rfl, rfl, rfl⟩
  refine ⟨.tuple #[], ?_, ?_⟩
  · simp [results, Tryz.results124]
  · exact ⟨rfl, v3, H_b3.out, H_k30.out, H_o30.out⟩

set_option maxRecDepth 20000 in
theorem lsh_self (g : Nat) (v : Value) (n s : Nat) (w : World) (hG : Glob w) (hP : Pow10s w) (hn : n < wpow 39) (hs : s ≤ 19) (hz : BI w g v n) :
    Calls Tryz.prog 96 #[.pointer (some ⟨g, 0, none⟩), .pointer (some ⟨g, 0, none⟩), .int .i64 s] w (fun e w' => e = .returned (.tuple #[]) ∧ BSet w g v (n * 10 ^ s) w') := by
  have t1 : decide ((s : Int) < 100) = true := by simp; omega
  have hxl : 10 ^ s < wpow 39 := wpow_big (by have : 10 ^ s ≤ 10 ^ 19 := Nat.pow_le_pow_right (by omega) hs; omega)
  have H_hG := Lib.hid hG; clear hG
  have H_hP := Lib.hid hP; clear hP
  have H_hz := Lib.hid hz; clear hz
  have H_hxl := Lib.hid hxl; clear hxl
  go_enter_defers Tryz.func96, Tryz.ntmps96
  go_wp2_with (fail)
  refine (bpow10_any s _ H_hG.out H_hP.out hs).mono ?_
  rintro e w1 ⟨h, u, rfl, b1, l1, o1, f1⟩
  have z1 := H_hz.out.fresh f1
  have hG1 := H_hG.out.fresh f1
  have hne : g ≠ h := by have := H_hz.out.lt; omega
  have sp : Sep v u := .inr (fun k hk e => by have := H_hz.out.own_lt hk; have := o1 k e; omega)
  have H_b1 := Lib.hid b1; clear b1
  have H_l1 := Lib.hid l1; clear l1
  have H_o1 := Lib.hid o1; clear o1
  have H_f1 := Lib.hid f1; clear f1
  have H_z1 := Lib.hid z1; clear z1
  have H_hG1 := Lib.hid hG1; clear hG1
  have H_sp := Lib.hid sp; clear sp
  go_wp2_with (fail)
  refine (mul_self g h v u n (10 ^ s) _ H_hG1.out hn H_hxl.out hne H_z1.out H_b1.out H_sp.out).mono ?_
  rintro e w2 ⟨rfl, v2, b2, k2, o2⟩
  have k20 : Keep (fun k => k = g ∨ v.ownBlock = some k) w w2 := H_f1.out.trans k2 (fun _ _ h => h.elim) (fun _ _ h => h)
  have o20 : ∀ k, v2.ownBlock = some k → v.ownBlock = some k ∨ w.heap.size ≤ k := fun k hk => by
    rcases o2 k hk with h | h
    · exact .inl h
    · exact .inr (Nat.le_trans H_f1.out.size h)
  clear k2 o2
  have H_b2 := Lib.hid b2; clear b2
  have H_k20 := Lib.hid k20; clear k20
  have H_o20 := Lib.hid o20; clear o20
  go_wp2_with (fail)
  refine ⟨.tuple #[], ?_, ?_⟩
  · simp [results, Tryz.results96]
  · exact ⟨rfl, v2, H_b2.out, H_k20.out, H_o20.out⟩

set_option maxRecDepth 20000 in
set_option maxHeartbeats 2000000 in
theorem IntCmp_any (g h : Nat) (v u : Value) (n m : Nat) (w : World) (hn : n < wpow 39) (hm : m < wpow 39) (hne : g ≠ h) (hx : BI w g v n) (hy : BI w h u m) :
    Calls Tryz.prog 131 #[.pointer (some ⟨g, 0, none⟩), .pointer (some ⟨h, 0, none⟩)] w (Quiet w (.int .i64 (cmpN n m))) := by
  obtain ⟨l, hx, rfl⟩ := hx
  obtain ⟨k, hy, rfl⟩ := hy
  have h1 := hx.norm.len_lt hn
  have h2 := hy.norm.len_lt hm
  have heq : (binOp .eql 132 (.pointer (some ⟨g, 0, none⟩)) (.pointer (some ⟨h, 0, none⟩))).run Tryz.prog w = .ok (.bool false) w := StrAt.eql_ne hx.str hy.str hne Tryz.underlying132 (by kernel_rfl)
  have cx0 := hx.str.c0; have cx1 := hx.str.c1; have cy0 := hy.str.c0; have cy1 := hy.str.c1
  rw [Nat.zero_add] at cx1 cy1
  clear hn hm
  have H_hx := Lib.hid hx; clear hx
  have H_hy := Lib.hid hy; clear hy
  go_enter Tryz.func131, Tryz.ntmps131
  go_wp2_with (go_quiet (fail))
  have hx2 := H_hx.out.drewN nq
  have hy2 := H_hy.out.drewN nq
  clear H_hx H_hy cx0 cx1 cy0 cy1 heq
  generalize hwq : w.drewN nq = wq at *
  have cx0 := hx2.str.c0; have cx1 := hx2.str.c1; have cy0 := hy2.str.c0; have cy1 := hy2.str.c1
  rw [Nat.zero_add] at cx1 cy1
  have hcmp : ∀ q, Calls Tryz.prog 156 #[v, u] (wq.drewN q) (Quiet (wq.drewN q) (.int .i64 (cmpN (val l) (val k)))) := fun q => nat_cmp v u l k _ (by omega) (by omega) hx2.nat hy2.nat hx2.norm hy2.norm
  generalize cmpN (val l) (val k) = r at *
  have H_hwq := Lib.hid hwq
  clear hwq
  have H_hx2 := Lib.hid hx2; clear hx2
  have H_hy2 := Lib.hid hy2; clear hy2
  have H_hcmp := Lib.hid hcmp; clear hcmp
  go_wp2_with (go_quiet ((go_at_call 156; exact quietOf (H_hcmp.out _))))
  go_ret
  refine ⟨rfl, ?_⟩
  rw [← H_hwq.out, World.drewN_drewN]
  exact ⟨_, rfl⟩

theorem bcmp_any (g h : Nat) (v u : Value) (n m : Nat) (w : World) (hn : n < wpow 39) (hm : m < wpow 39) (hne : g ≠ h) (hx : BI w g v n) (hy : BI w h u m) :
    Calls Tryz.prog 105 #[.pointer (some ⟨g, 0, none⟩), .pointer (some ⟨h, 0, none⟩)] w (Quiet w (.int .i64 (cmpN n m))) := by
  have hc := IntCmp_any g h v u n m w hn hm hne hx hy
  clear hx hy hn hm
  generalize cmpN n m = r at *
  have H_hc := Lib.hid hc; clear hc
  go_enter Tryz.func105, Tryz.ntmps105
  go_wp2_with (fail)
  refine H_hc.out.mono ?_
  rintro e w1 ⟨rfl, q, rfl⟩
  go_wp2
  go_ret
  exact ⟨rfl, q, rfl⟩

end Go.Proofs.YtmgidnjpkbgmgabGreatDoor
