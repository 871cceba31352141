/- The contracts of govalues' whole numbers of any length: getBint, setFint, setBint. -/
import Derived.LaidEqlPtr
import Derived.Defers
import Derived.Recover
import Derived.Test.YtecadiflbfpofaaGreatDoorJ5
import Derived.Test.YtecadiflbfpofaaGreatDoorJ9
namespace Go.Proofs.YtecadiflbfpofaaGreatDoor
open Go.RowKit

/-- the whole number n, which is not negative, lies in block g; v are its words -/
def BI (w : World) (g : Nat) (v : Value) (n : Nat) : Prop := ∃ l, IntIs w g 0 false v l ∧ val l = n

theorem BI.fresh {w w' : World} {g n : Nat} {v : Value} (h : BI w g v n) (hk : Fresh w w') : BI w' g v n := by
  obtain ⟨l, h1, h2⟩ := h
  exact ⟨l, h1.fresh hk, h2⟩

theorem BI.keep {S : Nat → Prop} {w w' : World} {g n : Nat} {v : Value} (h : BI w g v n) (hk : Keep S w w') (hs : ¬ S g) (hv : ∀ k, v.ownBlock = some k → ¬ S k) : BI w' g v n := by
  obtain ⟨l, h1, h2⟩ := h
  exact ⟨l, h1.keep hk hs hv, h2⟩

theorem BI.lt {w : World} {g n : Nat} {v : Value} (h : BI w g v n) : g < w.heap.size := by
  obtain ⟨l, h1, h2⟩ := h
  exact h1.str.lt

theorem BI.own_lt {w : World} {g n : Nat} {v : Value} (h : BI w g v n) {k : Nat} (hk : v.ownBlock = some k) : k < w.heap.size := by
  obtain ⟨l, h1, h2⟩ := h
  exact h1.nat.lt hk

theorem BI.ne_own {w : World} {g g' n n' : Nat} {v v' : Value} (h : BI w g v n) (h' : BI w g' v' n') {k : Nat} (hk : v'.ownBlock = some k) : g ≠ k := by
  obtain ⟨l, h1, h2⟩ := h
  obtain ⟨l', h1', h2'⟩ := h'
  exact IntIs.ne h1.str h1'.nat hk

/-- the call sets the whole number in block g to n; nothing else has turned but the words that it held -/
def BSet (w : World) (g : Nat) (vz : Value) (n : Nat) (w' : World) : Prop :=
  ∃ v, BI w' g v n ∧ Keep (fun k => k = g ∨ vz.ownBlock = some k) w w' ∧ (∀ k, v.ownBlock = some k → vz.ownBlock = some k ∨ w.heap.size ≤ k)

theorem IntIs.nonneg {w : World} {b o n : Nat} {neg : Bool} {v : Value} {l : List Nat} (h : IntIs w b o neg v l) (hv : ival neg l = (n : Int)) : neg = false ∧ val l = n := by
  cases neg
  · have e : (val l : Int) = (n : Int) := by simpa [ival] using hv
    exact ⟨rfl, by omega⟩
  · exfalso
    have e : -(val l : Int) = (n : Int) := by simpa [ival] using hv
    have h0 : val l = 0 := by omega
    have := h.zero (val_nil_of h.norm h0)
    cases this

theorem IntRet.bset {w : World} {b : Nat} {vz : Value} {n : Nat} {e : Ending} {w' : World} (h : IntRet w b 0 vz n e w') : e = .returned (.pointer (some ⟨b, 0, none⟩)) ∧ BSet w b vz n w' := by
  obtain ⟨he, neg, v, l, h1, h2, h3, h4⟩ := h
  obtain ⟨rfl, hv⟩ := h1.nonneg h2
  exact ⟨he, v, ⟨l, h1, hv⟩, h3, h4⟩

theorem IntIs.new {w : World} {g : Nat} {T : TypeId} (h : w.heap[g]? = some (.cells #[.bool false, .slice none 0 0] T (0, 0))) (hg : NG ≤ g) : IntIs w g 0 false (.slice none 0 0) [] := by
  have c0 := row_cell h 0
  have c1 := row_cell h 1
  simp at c0 c1
  exact ⟨⟨c0, c1, frozen_of_row _ _ _ _ _ h, frozen_of_row _ _ _ _ _ h, hg, _, _, h⟩, NatAt.nil w, Norm.nil, fun _ => rfl⟩

theorem BI.new {w : World} {g : Nat} {T : TypeId} (h : w.heap[g]? = some (.cells #[.bool false, .slice none 0 0] T (0, 0))) (hg : NG ≤ g) : BI w g (.slice none 0 0) 0 := ⟨[], IntIs.new h hg, rfl⟩

theorem getBint_any (w : World) (hG : NG ≤ w.heap.size) : Calls Tryz.prog 84 #[] w (fun e w' => e = .returned (.pointer (some ⟨w.heap.size, 0, none⟩)) ∧ BI w' w.heap.size (.slice none 0 0) 0 ∧ Fresh w w' ∧ w'.heap.size = w.heap.size + 1) := by
  have H_hG := Lib.hid hG
  clear hG
  go_enter Tryz.func84, Tryz.ntmps84
  go_wp2
  go_ret
  exact ⟨rfl, BI.new (heap_alloc_new w _) H_hG.out, (Keep.refl _ _).alloc _, by simp⟩

theorem setUint64_any (zv : Value) (zl : List Nat) (x : Nat) (w : World) (hx : x < 18446744073709551616) (h : NatAt w zv zl) :
    Calls Tryz.prog 99 #[zv, .int .u64 x] w (NatRet w zv x) := by
  have hc := setWord_any zv zl x w hx h
  have H_hc := Lib.hid hc; clear hc
  have H_h := Lib.hid h; clear h
  go_enter Tryz.func99, Tryz.ntmps99
  go_wp2_with (fail)
  refine H_hc.out.mono ?_
  intro e w1 hr
  obtain ⟨rv, l, rfl, hrest⟩ := hr
  have hr : NatRet w zv x (.returned rv) w1 := ⟨rv, l, rfl, hrest⟩
  clear hrest
  have H_hr := Lib.hid hr; clear hr
  go_wp2
  go_ret
  exact H_hr.out

set_option maxRecDepth 20000 in
theorem SetUint64_any (b : Nat) (negz : Bool) (vz : Value) (lz : List Nat) (x : Nat) (w : World) (hx : x < 18446744073709551616) (hz : IntIs w b 0 negz vz lz) :
    Calls Tryz.prog 92 #[.pointer (some ⟨b, 0, none⟩), .int .u64 x] w (IntRet w b 0 vz x) := by
  have hc := setUint64_any vz lz x w hx hz.nat
  have cz1 := hz.str.c1
  rw [Nat.zero_add] at cz1
  have nz : ¬ (vz.ownBlock = some b) := fun e => IntIs.ne hz.str hz.nat e rfl
  have H_hc := Lib.hid hc; clear hc
  have H_hz := Lib.hid hz; clear hz
  have H_nz := Lib.hid nz; clear nz
  go_enter Tryz.func92, Tryz.ntmps92
  go_wp2_with (fail)
  refine H_hc.out.mono ?_
  intro e w1 hr
  obtain ⟨rv, l, rfl, hop, hnorm, hval⟩ := hr
  obtain ⟨ra, rc, rfl⟩ := hop.nat.form
  have hs := H_hz.out.str.keep hop.keep H_nz.out
  have kc0 := hs.c0
  have kc1 := hs.c1
  have kf0 := hs.f0
  have kf1 := hs.f1
  rw [Nat.zero_add] at kc1 kf1
  clear cz1
  have H_hop := Lib.hid hop; clear hop
  have H_hnorm := Lib.hid hnorm; clear hnorm
  have H_hval := Lib.hid hval; clear hval
  have H_hs := Lib.hid hs; clear hs
  go_wp2_with (fail)
  go_ret
  exact ⟨rfl, IntIs.made H_hz.out.str H_hz.out.nat H_hop.out H_hnorm.out false (fun _ => rfl) (x : Int) (by simp [ival, H_hval.out]) rfl⟩

theorem setFint_any (g : Nat) (vz : Value) (n x : Nat) (w : World) (hx : x < 18446744073709551616) (hz : BI w g vz n) :
    Calls Tryz.prog 86 #[.pointer (some ⟨g, 0, none⟩), .int .u64 x] w (fun e w' => e = .returned (.tuple #[]) ∧ BSet w g vz x w') := by
  obtain ⟨lz, hz, _⟩ := hz
  have H_hz := Lib.hid hz; clear hz
  go_enter Tryz.func86, Tryz.ntmps86
  go_wp2_with (fail)
  refine (SetUint64_any g false vz lz x _ hx H_hz.out).mono ?_
  intro e w1 hr
  obtain ⟨rfl, hb⟩ := hr.bset
  clear hr
  have H_hb := Lib.hid hb; clear hb
  go_wp2
  go_end0
  exact ⟨rfl, H_hb.out⟩

set_option maxRecDepth 20000 in
set_option maxHeartbeats 2000000 in
theorem Set_any (bz bx : Nat) (vz vx : Value) (lz lx : List Nat) (w : World) (hlx : lx.length ≤ 1000000) (hne : bz ≠ bx)
    (hz : IntIs w bz 0 false vz lz) (hx : IntIs w bx 0 false vx lx) (hs : Sep vz vx) :
    Calls Tryz.prog 116 #[.pointer (some ⟨bz, 0, none⟩), .pointer (some ⟨bx, 0, none⟩)] w (IntRet w bz 0 vz (val lx : Int)) := by
  have hc := set_any vz vx lz lx w.drew hlx hz.nat.drew hx.nat.drew hs
  have hneq : (binOp .neq 115 (.pointer (some ⟨bz, 0, none⟩)) (.pointer (some ⟨bx, 0, none⟩))).run Tryz.prog w = .ok (.bool true) w := StrAt.neq_ne hz.str hx.str hne Tryz.underlying115 (by kernel_rfl)
  have cz1 := hz.str.c1
  have cx1 := hx.str.c1
  rw [Nat.zero_add] at cz1 cx1
  have nz : ¬ (vz.ownBlock = some bz) := fun e => IntIs.ne hz.str hz.nat e rfl
  have nx : ¬ (vz.ownBlock = some bx) := fun e => IntIs.ne hx.str hz.nat e rfl
  have H_hc := Lib.hid hc; clear hc
  have H_hz := Lib.hid hz; clear hz
  have H_hx := Lib.hid hx; clear hx
  have H_nz := Lib.hid nz; clear nz
  have H_nx := Lib.hid nx; clear nx
  have H_hs := Lib.hid hs; clear hs
  go_enter Tryz.func116, Tryz.ntmps116
  go_wp2_with (fail)
  clear hneq
  refine wp_region_E (S := (fun (w' : World) => w'.cell? ⟨bz, 1, none⟩ = some vz ∧ w'.cell? ⟨bx, 1, none⟩ = some vx)) 12 (by kernel_rfl) (by exact ⟨cz1, cx1⟩) (fun hHeld => ?_)
  refine wpAnyE_takeP (i := 0) (v := ?v0_1) rfl (by kernel_rfl) (fun _ _ _ h => h) ⟨by rfl, ?y0_1⟩ (by assumption) ?r0_1
  case y0_1 => (intro w; go_simp; try with_reducible rfl)
  try simp only [Act.put, List.getElem_toArray, List.getElem_cons_zero, List.getElem_cons_succ, List.setIfInBounds_toArray, List.set_cons_zero, List.set_cons_succ]
  refine wpAnyE_takeP (i := 1) (v := ?v1_1) rfl (by kernel_rfl) (fun _ _ _ h => h) ⟨by rfl, ?y1_1⟩ (by assumption) ?r1_1
  case y1_1 => (intro w; go_simp; try with_reducible rfl)
  try simp only [Act.put, List.getElem_toArray, List.getElem_cons_zero, List.getElem_cons_succ, List.setIfInBounds_toArray, List.set_cons_zero, List.set_cons_succ]
  refine wpAnyE_takeP (i := 2) (v := ?v2_1) rfl (by kernel_rfl) (fun _ _ _ h => h) ⟨by rfl, ?y2_1⟩ (by assumption) ?r2_1
  case y2_1 => (intro w; go_simp; try with_reducible rfl)
  try simp only [Act.put, List.getElem_toArray, List.getElem_cons_zero, List.getElem_cons_succ, List.setIfInBounds_toArray, List.set_cons_zero, List.set_cons_succ]
  refine wpAnyE_takeP (i := 3) (v := ?v3_1) rfl (by kernel_rfl) (fun _ _ _ h => h) ⟨by rfl, ?y3_1⟩ (by assumption) ?r3_1
  case y3_1 => (intro w; go_simp; try with_reducible rfl)
  try simp only [Act.put, List.getElem_toArray, List.getElem_cons_zero, List.getElem_cons_succ, List.setIfInBounds_toArray, List.set_cons_zero, List.set_cons_succ]
  refine wpAnyE_takeL (i := 4) (c := 9) (v := ?v4_1) rfl (by kernel_rfl) (fun _ _ _ h => h) ⟨by rfl, ?y4_1⟩ (by assumption) ?r4_1
  case y4_1 => (intro w hSw; go_split_ands; go_simp; try with_reducible rfl)
  try simp only [Act.put, List.getElem_toArray, List.getElem_cons_zero, List.getElem_cons_succ, List.setIfInBounds_toArray, List.set_cons_zero, List.set_cons_succ]
  refine wpAnyE_takeP (i := 5) (v := ?v5_1) rfl (by kernel_rfl) (fun _ _ _ h => h) ⟨by rfl, ?y5_1⟩ (by assumption) ?r5_1
  case y5_1 => (intro w; go_simp; try with_reducible rfl)
  try simp only [Act.put, List.getElem_toArray, List.getElem_cons_zero, List.getElem_cons_succ, List.setIfInBounds_toArray, List.set_cons_zero, List.set_cons_succ]
  refine wpAnyE_takeP (i := 6) (v := ?v6_1) rfl (by kernel_rfl) (fun _ _ _ h => h) ⟨by rfl, ?y6_1⟩ (by assumption) ?r6_1
  case y6_1 => (intro w; go_simp; try with_reducible rfl)
  try simp only [Act.put, List.getElem_toArray, List.getElem_cons_zero, List.getElem_cons_succ, List.setIfInBounds_toArray, List.set_cons_zero, List.set_cons_succ]
  refine wpAnyE_takeP (i := 7) (v := ?v7_1) rfl (by kernel_rfl) (fun _ _ _ h => h) ⟨by rfl, ?y7_1⟩ (by assumption) ?r7_1
  case y7_1 => (intro w; go_simp; try with_reducible rfl)
  try simp only [Act.put, List.getElem_toArray, List.getElem_cons_zero, List.getElem_cons_succ, List.setIfInBounds_toArray, List.set_cons_zero, List.set_cons_succ]
  refine wpAnyE_takeL (i := 8) (c := 9) (v := ?v8_1) rfl (by kernel_rfl) (fun _ _ _ h => h) ⟨by rfl, ?y8_1⟩ (by assumption) ?r8_1
  case y8_1 => (intro w hSw; go_split_ands; go_simp; try with_reducible rfl)
  try simp only [Act.put, List.getElem_toArray, List.getElem_cons_zero, List.getElem_cons_succ, List.setIfInBounds_toArray, List.set_cons_zero, List.set_cons_succ]
  refine wpAnyE_one (i := 9) rfl (by kernel_rfl) (fun K hK => ?_)
  go_simp
  refine H_hc.out.mono ?_; rintro e w1 ⟨rv, rfl, hop⟩; have hop := hop.of_drew; obtain ⟨ra, rc, rfl⟩ := hop.nat.form; have kz := (H_hz.out.str.keep hop.keep H_nz.out).c1; have kx := (H_hx.out.str.keep hop.keep H_nx.out).c1; have kf := (H_hz.out.str.keep hop.keep H_nz.out).f1; have kx0 := (H_hx.out.str.keep hop.keep H_nx.out).c0; have kf0 := (H_hz.out.str.keep hop.keep H_nz.out).f0; have kz0 := (H_hz.out.str.keep hop.keep H_nz.out).c0; rw [Nat.zero_add] at kz kx kf; have H_hop := Lib.hid hop; clear hop
  go_wp2_with (fail)
  have hHeldB : ((fun (w' : World) => w'.cell? ⟨bz, 1, none⟩ = some vz ∧ w'.cell? ⟨bx, 1, none⟩ = some vx)) _ := ⟨kz, kx⟩
  refine hK.out _ _ (fun _ => hHeldB) ?_
  clear hK K
  try simp only [Act.put, List.getElem_toArray, List.getElem_cons_zero, List.getElem_cons_succ, List.setIfInBounds_toArray, List.set_cons_zero, List.set_cons_succ]
  refine wpAnyE_takeP (i := 10) (v := ?v10_1) rfl (by kernel_rfl) (fun _ _ _ h => h) ⟨by rfl, ?y10_1⟩ (by assumption) ?r10_1
  case y10_1 => (intro w; go_simp; try with_reducible rfl)
  try simp only [Act.put, List.getElem_toArray, List.getElem_cons_zero, List.getElem_cons_succ, List.setIfInBounds_toArray, List.set_cons_zero, List.set_cons_succ]
  refine wpAnyE_takeP (i := 11) (v := ?v11_1) rfl (by kernel_rfl) (fun _ _ _ h => h) ⟨by rfl, ?y11_1⟩ (by assumption) ?r11_1
  case y11_1 => (intro w; go_simp; try with_reducible rfl)
  try simp only [Act.put, List.getElem_toArray, List.getElem_cons_zero, List.getElem_cons_succ, List.setIfInBounds_toArray, List.set_cons_zero, List.set_cons_succ]
  refine wpAnyE_one (i := 12) rfl (by kernel_rfl) (fun K hK => ?_)
  go_simp
  refine hK.out _ _ (fun h => Bool.noConfusion (show true = false from h)) ?_
  clear hK K
  try simp only [Act.put, List.getElem_toArray, List.getElem_cons_zero, List.getElem_cons_succ, List.setIfInBounds_toArray, List.set_cons_zero, List.set_cons_succ]
  refine wpAnyE_done (by kernel_rfl) ?_ _
  clear hHeldB
  have kx0' : (w1.setCell ⟨bz, 1, none⟩ (.slice ra lx.length rc)).cell? ⟨bx, 0, none⟩ = some (.bool false) := (cell?_setCell_ne (.inr (by simp))).trans kx0
  have kz0' : (w1.setCell ⟨bz, 1, none⟩ (.slice ra lx.length rc)).cell? ⟨bz, 0, none⟩ = some (.bool false) := (cell?_setCell_ne (.inr (by simp))).trans kz0
  have kf0' : (w1.setCell ⟨bz, 1, none⟩ (.slice ra lx.length rc)).frozen? ⟨bz, 0, none⟩ = false := (frozen?_setCell' _ _ _ _).trans kf0
  clear cz1 cx1 kz kx kf kx0 kf0 kz0
  go_wp2_with (fail)
  go_ret
  exact ⟨rfl, IntIs.made H_hz.out.str H_hz.out.nat H_hop.out H_hx.out.norm false (fun _ => rfl) (val lx : Int) (by simp [ival]) rfl⟩

end Go.Proofs.YtecadiflbfpofaaGreatDoor
