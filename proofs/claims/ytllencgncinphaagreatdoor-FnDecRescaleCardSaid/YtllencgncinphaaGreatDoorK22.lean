/- The contracts of math/big's integers: Mul. -/
import Derived.LaidEqlPtr
import Derived.Defers
import Derived.Recover
import Derived.Test.YtllencgncinphaaGreatDoorK9
import Derived.Test.YtllencgncinphaaGreatDoorK21
namespace Go.Proofs.YtllencgncinphaaGreatDoor
open Go.RowKit

theorem ival_mul_zero {n m : Bool} {l k : List Nat} (h : val l * val k = 0) : ival n l * ival m k = ival false [] := by
  have h' : (val l : Int) * (val k : Int) = 0 := by rw [← Int.natCast_mul, h]; rfl
  have e : ival false [] = 0 := rfl
  rw [e]
  cases n <;> cases m <;> simp only [ival, if_true, if_false, Bool.false_eq_true, Int.neg_mul, Int.mul_neg, h'] <;> rfl

theorem ival_mul {n m : Bool} {l k j : List Nat} (h : val j = val l * val k) : ival (n != m) j = ival n l * ival m k := by
  cases n <;> cases m <;> simp [ival, h, Int.neg_mul, Int.mul_neg]

set_option maxRecDepth 20000 in
set_option maxHeartbeats 2000000 in
theorem Int_mul (bz oz bx ox bY oy : Nat) (negz negx negy : Bool) (vz vx vy : Value) (lz lx ly : List Nat) (stk : Option Addr) (w : World) (hG : Glob w) (hlx : lx.length < 40) (hly : ly.length < 40) (hne : bx ≠ bY)
    (hz : IntIs w bz oz negz vz lz) (hx : IntIs w bx ox negx vx lx) (hy : IntIs w bY oy negy vy ly) (hsx : Sep vz vx) (hsy : Sep vz vy) :
    Calls Tryz.prog 156 #[.pointer (some ⟨bz, oz, none⟩), .pointer stk, .pointer (some ⟨bx, ox, none⟩), .pointer (some ⟨bY, oy, none⟩)] w (IntSet w bz oz vz (ival negx lx * ival negy ly)) := by
  have hmul : Calls Tryz.prog 171 #[vz, .pointer stk, vx, vy] w.drew (NatRet w.drew vz (val lx * val ly)) := nat_mul vz vx vy stk lz lx ly _ (hG.fresh (Keep.refl _ _).drew) hlx hly hz.nat hx.nat hy.nat hsx hsy
  have heq : (binOp .eql 59 (.pointer (some ⟨bx, ox, none⟩)) (.pointer (some ⟨bY, oy, none⟩))).run Tryz.prog w = .ok (.bool false) w := StrAt.eql_ne hx.str hy.str hne Tryz.underlying59 (by kernel_rfl)
  have nz : ¬ (vz.ownBlock = some bz) := fun e => IntIs.ne hz.str hz.nat e rfl
  have nx : ¬ (vz.ownBlock = some bx) := fun e => IntIs.ne hx.str hz.nat e rfl
  have ny : ¬ (vz.ownBlock = some bY) := fun e => IntIs.ne hy.str hz.nat e rfl
  have cx0 := hx.str.c0; have cx1 := hx.str.c1; have cy0 := hy.str.c0; have cy1 := hy.str.c1; have cz0 := hz.str.c0; have cz1 := hz.str.c1; have fz0 := hz.str.f0; have fz1 := hz.str.f1
  have H_hG := Lib.hid hG; clear hG
  have H_hz := Lib.hid hz; clear hz
  have H_hx := Lib.hid hx; clear hx
  have H_hy := Lib.hid hy; clear hy
  have H_hsx := Lib.hid hsx; clear hsx
  have H_hsy := Lib.hid hsy; clear hsy
  have H_hmul := Lib.hid hmul; clear hmul
  have H_nz := Lib.hid nz; clear nz
  have H_nx := Lib.hid nx; clear nx
  have H_ny := Lib.hid ny; clear ny
  go_enter Tryz.func156, Tryz.ntmps156
  go_wp2_with (fail)
  clear heq
  refine wp_region_E (S := (fun (w' : World) => w'.cell? ⟨bz, oz + 1, none⟩ = some vz ∧ w'.cell? ⟨bx, ox + 1, none⟩ = some vx ∧ w'.cell? ⟨bY, oy + 1, none⟩ = some vy)) 17 (by kernel_rfl) (by exact ⟨cz1, cx1, cy1⟩) (fun hHeld => ?_)
  refine wpAnyE_takeP (i := 0) (v := ?v0_3) rfl (by kernel_rfl) (fun _ _ _ h => h) ⟨by rfl, ?y0_3⟩ (by assumption) ?r0_3
  case y0_3 => (intro w; go_simp; try with_reducible rfl)
  try simp only [Act.put, yA, yB, yD, yE, yF]
  refine wpAnyE_takeP (i := 1) (v := ?v1_3) rfl (by kernel_rfl) (fun _ _ _ h => h) ⟨by rfl, ?y1_3⟩ (by assumption) ?r1_3
  case y1_3 => (intro w; go_simp; try with_reducible rfl)
  try simp only [Act.put, yA, yB, yC, yD, yE, yF]
  refine wpAnyE_takeP (i := 2) (v := ?v2_3) rfl (by kernel_rfl) (fun _ _ _ h => h) ⟨by rfl, ?y2_3⟩ (by assumption) ?r2_3
  case y2_3 => (intro w; go_simp; try with_reducible rfl)
  try simp only [Act.put, yA, yB, yC, yD, yE, yF]
  refine wpAnyE_takeP (i := 3) (v := ?v3_3) rfl (by kernel_rfl) (fun _ _ _ h => h) ⟨by rfl, ?y3_3⟩ (by assumption) ?r3_3
  case y3_3 => (intro w; go_simp; try with_reducible rfl)
  try simp only [Act.put, yA, yB, yC, yD, yE, yF]
  refine wpAnyE_takeL (i := 4) (c := 14) (v := ?v4_3) rfl (by kernel_rfl) (fun _ _ _ h => h) ⟨by rfl, ?y4_3⟩ (by assumption) ?r4_3
  case y4_3 => (intro w hSw; go_split_ands; go_simp; try with_reducible rfl)
  try simp only [Act.put, yA, yB, yC, yD, yE, yF]
  refine wpAnyE_takeP (i := 5) (v := ?v5_3) rfl (by kernel_rfl) (fun _ _ _ h => h) ⟨by rfl, ?y5_3⟩ (by assumption) ?r5_3
  case y5_3 => (intro w; go_simp; try with_reducible rfl)
  try simp only [Act.put, yA, yB, yC, yD, yE, yF]
  refine wpAnyE_takeP (i := 6) (v := ?v6_3) rfl (by kernel_rfl) (fun _ _ _ h => h) ⟨by rfl, ?y6_3⟩ (by assumption) ?r6_3
  case y6_3 => (intro w; go_simp; try with_reducible rfl)
  try simp only [Act.put, yA, yB, yC, yD, yE, yF]
  refine wpAnyE_takeP (i := 7) (v := ?v7_3) rfl (by kernel_rfl) (fun _ _ _ h => h) ⟨by rfl, ?y7_3⟩ (by assumption) ?r7_3
  case y7_3 => (intro w; go_simp; try with_reducible rfl)
  try simp only [Act.put, yA, yB, yC, yD, yE, yF]
  refine wpAnyE_takeP (i := 8) (v := ?v8_3) rfl (by kernel_rfl) (fun _ _ _ h => h) ⟨by rfl, ?y8_3⟩ (by assumption) ?r8_3
  case y8_3 => (intro w; go_simp; try with_reducible rfl)
  try simp only [Act.put, yA, yB, yC, yD, yE, yF]
  refine wpAnyE_takeL (i := 9) (c := 14) (v := ?v9_3) rfl (by kernel_rfl) (fun _ _ _ h => h) ⟨by rfl, ?y9_3⟩ (by assumption) ?r9_3
  case y9_3 => (intro w hSw; go_split_ands; go_simp; try with_reducible rfl)
  try simp only [Act.put, yA, yB, yC, yD, yE, yF]
  refine wpAnyE_takeP (i := 10) (v := ?v10_3) rfl (by kernel_rfl) (fun _ _ _ h => h) ⟨by rfl, ?y10_3⟩ (by assumption) ?r10_3
  case y10_3 => (intro w; go_simp; try with_reducible rfl)
  try simp only [Act.put, yA, yB, yC, yD, yE, yF]
  refine wpAnyE_takeP (i := 11) (v := ?v11_3) rfl (by kernel_rfl) (fun _ _ _ h => h) ⟨by rfl, ?y11_3⟩ (by assumption) ?r11_3
  case y11_3 => (intro w; go_simp; try with_reducible rfl)
  try simp only [Act.put, yA, yB, yC, yD, yE, yF]
  refine wpAnyE_takeP (i := 12) (v := ?v12_3) rfl (by kernel_rfl) (fun _ _ _ h => h) ⟨by rfl, ?y12_3⟩ (by assumption) ?r12_3
  case y12_3 => (intro w; go_simp; try with_reducible rfl)
  try simp only [Act.put, yA, yB, yC, yD, yE, yF]
  refine wpAnyE_takeL (i := 13) (c := 14) (v := ?v13_3) rfl (by kernel_rfl) (fun _ _ _ h => h) ⟨by rfl, ?y13_3⟩ (by assumption) ?r13_3
  case y13_3 => (intro w hSw; go_split_ands; go_simp; try with_reducible rfl)
  try simp only [Act.put, yA, yB, yC, yD, yE, yF]
  refine wpAnyE_one (i := 14) rfl (by kernel_rfl) (fun K hK => ?_)
  go_simp
  refine H_hmul.out.mono ?_; rintro e w1 hr; obtain ⟨rv, l, rfl, hop, hnorm, hval⟩ := hr; have hop := hop.of_drew; have kz := (H_hz.out.str.keep hop.keep H_nz.out).c1; have kx := (H_hx.out.str.keep hop.keep H_nx.out).c1; have ky := (H_hy.out.str.keep hop.keep H_ny.out).c1; have kf := (H_hz.out.str.keep hop.keep H_nz.out).f1; have kf0 := (H_hz.out.str.keep hop.keep H_nz.out).f0; have kz0 := (H_hz.out.str.keep hop.keep H_nz.out).c0; have kx0 := (H_hx.out.str.keep hop.keep H_nx.out).c0; have ky0 := (H_hy.out.str.keep hop.keep H_ny.out).c0; obtain ⟨ra, rc, hrv⟩ := hop.nat.form; generalize hll : l.length = nl at *; subst hrv; have H_hop := Lib.hid hop; have H_hnorm := Lib.hid hnorm; have H_hval := Lib.hid hval; have H_hll := Lib.hid hll; clear hop hnorm hval hll
  go_wp2_with (fail)
  have hHeldB : ((fun (w' : World) => w'.cell? ⟨bz, oz + 1, none⟩ = some vz ∧ w'.cell? ⟨bx, ox + 1, none⟩ = some vx ∧ w'.cell? ⟨bY, oy + 1, none⟩ = some vy)) _ := ⟨kz, kx, ky⟩
  refine hK.out _ _ (fun _ => hHeldB) ?_
  clear hK K
  try simp only [Act.put, yA, yB, yC, yD, yE, yF]
  refine wpAnyE_takeP (i := 15) (v := ?v15_3) rfl (by kernel_rfl) (fun _ _ _ h => h) ⟨by rfl, ?y15_3⟩ (by assumption) ?r15_3
  case y15_3 => (intro w; go_simp; try with_reducible rfl)
  try simp only [Act.put, yA, yB, yC, yD, yE, yF]
  refine wpAnyE_takeP (i := 16) (v := ?v16_3) rfl (by kernel_rfl) (fun _ _ _ h => h) ⟨by rfl, ?y16_3⟩ (by assumption) ?r16_3
  case y16_3 => (intro w; go_simp; try with_reducible rfl)
  try simp only [Act.put, yA, yB, yC, yD, yE, yF]
  refine wpAnyE_one (i := 17) rfl (by kernel_rfl) (fun K hK => ?_)
  go_simp
  refine hK.out _ _ (fun h => Bool.noConfusion (show true = false from h)) ?_
  clear hK K
  try simp only [Act.put, yA, yB, yC, yD, yE, yF]
  refine wpAnyE_done (by kernel_rfl) ?_ _
  clear hHeldB
  have hsV : StrAt (w1.setCell ⟨bz, oz + 1, none⟩ (Value.slice ra nl rc)) bz oz negz (Value.slice ra nl rc) := (H_hz.out.str.keep H_hop.out.keep H_nz.out).set1 _
  have dv : ∀ n : Bool, vz ≠ .bool n := fun n e => by obtain ⟨a, c, h⟩ := H_hz.out.nat.form; rw [h] at e; simp at e
  have dx : bx ≠ bz ∨ ox ≠ oz + 1 := by
    by_cases e : bx = bz
    · right; rintro rfl; rw [e, kz] at kx0; exact dv _ (Option.some.inj kx0)
    · exact .inl e
  have dy : bY ≠ bz ∨ oy ≠ oz + 1 := by
    by_cases e : bY = bz
    · right; rintro rfl; rw [e, kz] at ky0; exact dv _ (Option.some.inj ky0)
    · exact .inl e
  have kxV : (w1.setCell ⟨bz, oz + 1, none⟩ (Value.slice ra nl rc)).cell? ⟨bx, ox, none⟩ = some (.bool negx) := (cell?_setCell_ne dx).trans kx0
  have kyV : (w1.setCell ⟨bz, oz + 1, none⟩ (Value.slice ra nl rc)).cell? ⟨bY, oy, none⟩ = some (.bool negy) := (cell?_setCell_ne dy).trans ky0
  clear dv dx dy kz kx ky kf kf0 kz0 kx0 ky0
  generalize hV : w1.setCell ⟨bz, oz + 1, none⟩ (Value.slice ra nl rc) = V at *
  have kz1V := hsV.c1; have kz0V := hsV.c0; have kf0V := hsV.f0
  clear cx0 cx1 cy0 cy1 cz0 cz1 fz0 fz1
  have H_hV := Lib.hid hV; clear hV
  have H_hsV := Lib.hid hsV; clear hsV
  by_cases hl0 : nl = 0
  · have t1 : decide (0 < nl) = false := by simp [hl0]
    have hl00 := Lib.hid hl0
    clear hl0
    go_wp2_with (fail)
    refine wp_region_E (S := (fun (w' : World) => w'.cell? ⟨bz, oz + 1, none⟩ = some (Value.slice ra nl rc) ∧ w'.cell? ⟨bx, ox, none⟩ = some (.bool negx) ∧ w'.cell? ⟨bY, oy, none⟩ = some (.bool negy))) 20 (by kernel_rfl) (by exact ⟨kz1V, kxV, kyV⟩) (fun hHeld => ?_)
    refine wpAnyE_takeP (i := 0) (v := ?v0_1) rfl (by kernel_rfl) (fun _ _ _ h => h) ⟨by rfl, ?y0_1⟩ (by assumption) ?r0_1
    case y0_1 => (intro w; go_simp; try with_reducible rfl)
    try simp only [Act.put, yA, yB, yD, yE, yF]
    refine wpAnyE_takeP (i := 1) (v := ?v1_1) rfl (by kernel_rfl) (fun _ _ _ h => h) ⟨by rfl, ?y1_1⟩ (by assumption) ?r1_1
    case y1_1 => (intro w; go_simp; try with_reducible rfl)
    try simp only [Act.put, yA, yB, yC, yD, yE, yF]
    refine wpAnyE_takeP (i := 2) (v := ?v2_1) rfl (by kernel_rfl) (fun _ _ _ h => h) ⟨by rfl, ?y2_1⟩ (by assumption) ?r2_1
    case y2_1 => (intro w; go_simp; try with_reducible rfl)
    try simp only [Act.put, yA, yB, yC, yD, yE, yF]
    refine wpAnyE_takeP (i := 3) (v := ?v3_1) rfl (by kernel_rfl) (fun _ _ _ h => h) ⟨by rfl, ?y3_1⟩ (by assumption) ?r3_1
    case y3_1 => (intro w; go_simp; try with_reducible rfl)
    try simp only [Act.put, yA, yB, yC, yD, yE, yF]
    refine wpAnyE_takeL (i := 4) (c := 19) (v := ?v4_1) rfl (by kernel_rfl) (fun _ _ _ h => h) ⟨by rfl, ?y4_1⟩ (by assumption) ?r4_1
    case y4_1 => (intro w hSw; go_split_ands; go_simp; try with_reducible rfl)
    try simp only [Act.put, yA, yB, yC, yD, yE, yF]
    refine wpAnyE_takeP (i := 5) (v := ?v5_1) rfl (by kernel_rfl) (fun _ _ _ h => h) ⟨by rfl, ?y5_1⟩ (by assumption) ?r5_1
    case y5_1 => (intro w; go_simp; try with_reducible rfl)
    try simp only [Act.put, yA, yB, yC, yD, yE, yF]
    refine wpAnyE_takeP (i := 6) (v := .bool false) rfl (by kernel_rfl) (fun _ _ _ h => h) ⟨by rfl, ?y6_1⟩ (by assumption) ?r6_1
    case y6_1 => (intro w; go_simp)
    try simp only [Act.put, yA, yB, yC, yD, yE, yF]
    refine wpAnyE_takeP (i := 7) (v := ?v7_1) rfl (by kernel_rfl) (fun _ _ _ h => h) ⟨by rfl, ?y7_1⟩ (by assumption) ?r7_1
    case y7_1 => (intro w; go_simp; try with_reducible rfl)
    try simp only [Act.put, yA, yB, yC, yD, yE, yF]
    refine wpAnyE_takeU (i := 8) rfl (by kernel_rfl) (fun _ _ _ h => h) (by rfl) (by assumption) ?_
    try simp only [Act.put, yA, yB, yC, yD, yE, yF]
    refine wpAnyE_takeU (i := 9) rfl (by kernel_rfl) (fun _ _ _ h => h) (by rfl) (by assumption) ?_
    try simp only [Act.put, yA, yB, yC, yD, yE, yF]
    refine wpAnyE_takeU (i := 10) rfl (by kernel_rfl) (fun _ _ _ h => h) (by rfl) (by assumption) ?_
    try simp only [Act.put, yA, yB, yC, yD, yE, yF]
    refine wpAnyE_takeU (i := 11) rfl (by kernel_rfl) (fun _ _ _ h => h) (by rfl) (by assumption) ?_
    try simp only [Act.put, yA, yB, yC, yD, yE, yF]
    refine wpAnyE_takeU (i := 12) rfl (by kernel_rfl) (fun _ _ _ h => h) (by rfl) (by assumption) ?_
    try simp only [Act.put, yA, yB, yC, yD, yE, yF]
    refine wpAnyE_takeU (i := 13) rfl (by kernel_rfl) (fun _ _ _ h => h) (by rfl) (by assumption) ?_
    try simp only [Act.put, yA, yB, yC, yD, yE, yF]
    refine wpAnyE_takeU (i := 14) rfl (by kernel_rfl) (fun _ _ _ h => h) (by rfl) (by assumption) ?_
    try simp only [Act.put, yA, yB, yC, yD, yE, yF]
    refine wpAnyE_takeU (i := 15) rfl (by kernel_rfl) (fun _ _ _ h => h) (by rfl) (by assumption) ?_
    try simp only [Act.put, yA, yB, yC, yD, yE, yF]
    refine wpAnyE_takeU (i := 16) rfl (by kernel_rfl) (fun _ _ _ h => h) (by rfl) (by assumption) ?_
    try simp only [Act.put, yA, yB, yC, yD, yE, yF]
    refine wpAnyE_takeP (i := 17) (v := ?v17_1) rfl (by kernel_rfl) (fun _ _ _ h => h) ⟨by rfl, ?y17_1⟩ (by assumption) ?r17_1
    case y17_1 => (intro w; go_simp; try with_reducible rfl)
    try simp only [Act.put, yA, yB, yC, yD, yE, yF]
    refine wpAnyE_takeP (i := 18) (v := ?v18_1) rfl (by kernel_rfl) (fun _ _ _ h => h) ⟨by rfl, ?y18_1⟩ (by assumption) ?r18_1
    case y18_1 => (intro w; go_simp; try with_reducible rfl)
    try simp only [Act.put, yA, yB, yC, yD, yE, yF]
    refine wpAnyE_takeP (i := 19) (v := ?v19_1) rfl (by kernel_rfl) (fun _ _ _ h => h) ⟨by rfl, ?y19_1⟩ (by assumption) ?r19_1
    case y19_1 => (intro w; go_simp; try with_reducible rfl)
    try simp only [Act.put, yA, yB, yC, yD, yE, yF]
    refine wpAnyE_one (i := 20) rfl (by kernel_rfl) (fun K hK => ?_)
    go_simp
    refine hK.out _ _ (fun h => Bool.noConfusion (show true = false from h)) ?_
    clear hK K
    try simp only [Act.put, yA, yB, yC, yD, yE, yF]
    refine wpAnyE_done (by kernel_rfl) ?_ _
    clear hHeld
    go_wp2
    go_end0
    have hle : l = [] := List.eq_nil_of_length_eq_zero (by rw [H_hll.out]; exact hl00.out)
    have hv := H_hval.out
    rw [hle] at hv
    obtain ⟨neg, v, l', h1, h2, h3, h4⟩ := IntIs.made H_hz.out.str H_hz.out.nat H_hop.out H_hnorm.out false (fun _ => rfl) (ival negx lx * ival negy ly) (by
      rw [hle]
      have h0 : val lx * val ly = 0 := hv.symm
      exact (ival_mul_zero h0).symm) (congrArg (fun W => World.setCell W ⟨bz, oz, none⟩ (.bool false)) H_hV.out.symm)
    exact ⟨rfl, neg, v, l', IntIs.drewN h1 1, h2, h3.drewN 1, h4⟩
  · have t1 : decide (0 < nl) = true := by simp; omega
    have hl00 := Lib.hid hl0
    clear hl0
    go_wp2_with (fail)
    refine wp_region_E (S := (fun (w' : World) => w'.cell? ⟨bz, oz + 1, none⟩ = some (Value.slice ra nl rc) ∧ w'.cell? ⟨bx, ox, none⟩ = some (.bool negx) ∧ w'.cell? ⟨bY, oy, none⟩ = some (.bool negy))) 20 (by kernel_rfl) (by exact ⟨kz1V, kxV, kyV⟩) (fun hHeld => ?_)
    refine wpAnyE_takeP (i := 0) (v := ?v0_2) rfl (by kernel_rfl) (fun _ _ _ h => h) ⟨by rfl, ?y0_2⟩ (by assumption) ?r0_2
    case y0_2 => (intro w; go_simp; try with_reducible rfl)
    try simp only [Act.put, yA, yB, yD, yE, yF]
    refine wpAnyE_takeP (i := 1) (v := ?v1_2) rfl (by kernel_rfl) (fun _ _ _ h => h) ⟨by rfl, ?y1_2⟩ (by assumption) ?r1_2
    case y1_2 => (intro w; go_simp; try with_reducible rfl)
    try simp only [Act.put, yA, yB, yC, yD, yE, yF]
    refine wpAnyE_takeP (i := 2) (v := ?v2_2) rfl (by kernel_rfl) (fun _ _ _ h => h) ⟨by rfl, ?y2_2⟩ (by assumption) ?r2_2
    case y2_2 => (intro w; go_simp; try with_reducible rfl)
    try simp only [Act.put, yA, yB, yC, yD, yE, yF]
    refine wpAnyE_takeP (i := 3) (v := ?v3_2) rfl (by kernel_rfl) (fun _ _ _ h => h) ⟨by rfl, ?y3_2⟩ (by assumption) ?r3_2
    case y3_2 => (intro w; go_simp; try with_reducible rfl)
    try simp only [Act.put, yA, yB, yC, yD, yE, yF]
    refine wpAnyE_takeL (i := 4) (c := 19) (v := ?v4_2) rfl (by kernel_rfl) (fun _ _ _ h => h) ⟨by rfl, ?y4_2⟩ (by assumption) ?r4_2
    case y4_2 => (intro w hSw; go_split_ands; go_simp; try with_reducible rfl)
    try simp only [Act.put, yA, yB, yC, yD, yE, yF]
    refine wpAnyE_takeP (i := 5) (v := ?v5_2) rfl (by kernel_rfl) (fun _ _ _ h => h) ⟨by rfl, ?y5_2⟩ (by assumption) ?r5_2
    case y5_2 => (intro w; go_simp; try with_reducible rfl)
    try simp only [Act.put, yA, yB, yC, yD, yE, yF]
    refine wpAnyE_takeP (i := 6) (v := .bool true) rfl (by kernel_rfl) (fun _ _ _ h => h) ⟨by rfl, ?y6_2⟩ (by assumption) ?r6_2
    case y6_2 => (intro w; go_simp)
    try simp only [Act.put, yA, yB, yC, yD, yE, yF]
    refine wpAnyE_takeP (i := 7) (v := ?v7_2) rfl (by kernel_rfl) (fun _ _ _ h => h) ⟨by rfl, ?y7_2⟩ (by assumption) ?r7_2
    case y7_2 => (intro w; go_simp; try with_reducible rfl)
    try simp only [Act.put, yA, yB, yC, yD, yE, yF]
    refine wpAnyE_takeP (i := 8) (v := ?v8_2) rfl (by kernel_rfl) (fun _ _ _ h => h) ⟨by rfl, ?y8_2⟩ (by assumption) ?r8_2
    case y8_2 => (intro w; go_simp; try with_reducible rfl)
    try simp only [Act.put, yA, yB, yC, yD, yE, yF]
    refine wpAnyE_takeP (i := 9) (v := ?v9_2) rfl (by kernel_rfl) (fun _ _ _ h => h) ⟨by rfl, ?y9_2⟩ (by assumption) ?r9_2
    case y9_2 => (intro w; go_simp; try with_reducible rfl)
    try simp only [Act.put, yA, yB, yC, yD, yE, yF]
    refine wpAnyE_takeP (i := 10) (v := ?v10_2) rfl (by kernel_rfl) (fun _ _ _ h => h) ⟨by rfl, ?y10_2⟩ (by assumption) ?r10_2
    case y10_2 => (intro w; go_simp; try with_reducible rfl)
    try simp only [Act.put, yA, yB, yC, yD, yE, yF]
    refine wpAnyE_takeL (i := 11) (c := 19) (v := ?v11_2) rfl (by kernel_rfl) (fun _ _ _ h => h) ⟨by rfl, ?y11_2⟩ (by assumption) ?r11_2
    case y11_2 => (intro w hSw; go_split_ands; go_simp; try with_reducible rfl)
    try simp only [Act.put, yA, yB, yC, yD, yE, yF]
    refine wpAnyE_takeP (i := 12) (v := ?v12_2) rfl (by kernel_rfl) (fun _ _ _ h => h) ⟨by rfl, ?y12_2⟩ (by assumption) ?r12_2
    case y12_2 => (intro w; go_simp; try with_reducible rfl)
    try simp only [Act.put, yA, yB, yC, yD, yE, yF]
    refine wpAnyE_takeP (i := 13) (v := ?v13_2) rfl (by kernel_rfl) (fun _ _ _ h => h) ⟨by rfl, ?y13_2⟩ (by assumption) ?r13_2
    case y13_2 => (intro w; go_simp; try with_reducible rfl)
    try simp only [Act.put, yA, yB, yC, yD, yE, yF]
    refine wpAnyE_takeP (i := 14) (v := ?v14_2) rfl (by kernel_rfl) (fun _ _ _ h => h) ⟨by rfl, ?y14_2⟩ (by assumption) ?r14_2
    case y14_2 => (intro w; go_simp; try with_reducible rfl)
    try simp only [Act.put, yA, yB, yC, yD, yE, yF]
    refine wpAnyE_takeL (i := 15) (c := 19) (v := ?v15_2) rfl (by kernel_rfl) (fun _ _ _ h => h) ⟨by rfl, ?y15_2⟩ (by assumption) ?r15_2
    case y15_2 => (intro w hSw; go_split_ands; go_simp; try with_reducible rfl)
    try simp only [Act.put, yA, yB, yC, yD, yE, yF]
    refine wpAnyE_takeP (i := 16) (v := ?v16_2) rfl (by kernel_rfl) (fun _ _ _ h => h) ⟨by rfl, ?y16_2⟩ (by assumption) ?r16_2
    case y16_2 => (intro w; go_simp; try with_reducible rfl)
    try simp only [Act.put, yA, yB, yC, yD, yE, yF]
    refine wpAnyE_takeP (i := 17) (v := ?v17_2) rfl (by kernel_rfl) (fun _ _ _ h => h) ⟨by rfl, ?y17_2⟩ (by assumption) ?r17_2
    case y17_2 => (intro w; go_simp; try with_reducible rfl)
    try simp only [Act.put, yA, yB, yC, yD, yE, yF]
    refine wpAnyE_takeP (i := 18) (v := ?v18_2) rfl (by kernel_rfl) (fun _ _ _ h => h) ⟨by rfl, ?y18_2⟩ (by assumption) ?r18_2
    case y18_2 => (intro w; go_simp; try with_reducible rfl)
    try simp only [Act.put, yA, yB, yC, yD, yE, yF]
    refine wpAnyE_takeP (i := 19) (v := ?v19_2) rfl (by kernel_rfl) (fun _ _ _ h => h) ⟨by rfl, ?y19_2⟩ (by assumption) ?r19_2
    case y19_2 => (intro w; go_simp; try with_reducible rfl)
    try simp only [Act.put, yA, yB, yC, yD, yE, yF]
    refine wpAnyE_one (i := 20) rfl (by kernel_rfl) (fun K hK => ?_)
    go_simp
    refine hK.out _ _ (fun h => Bool.noConfusion (show true = false from h)) ?_
    clear hK K
    try simp only [Act.put, yA, yB, yC, yD, yE, yF]
    refine wpAnyE_done (by kernel_rfl) ?_ _
    clear hHeld
    go_wp2
    go_end0
    have hle : l ≠ [] := fun e => hl00.out (by rw [← H_hll.out, e]; rfl)
    have hv := H_hval.out
    obtain ⟨neg, v, l', h1, h2, h3, h4⟩ := IntIs.made H_hz.out.str H_hz.out.nat H_hop.out H_hnorm.out (negx != negy) (fun e => absurd e hle) (ival negx lx * ival negy ly) (ival_mul hv) (congrArg (fun W => World.setCell W ⟨bz, oz, none⟩ (.bool (negx != negy))) H_hV.out.symm)
    exact ⟨rfl, neg, v, l', IntIs.drewN h1 1, h2, h3.drewN 1, h4⟩

end Go.Proofs.YtllencgncinphaaGreatDoor

/- The contracts of govalues' whole numbers of any length: getBint, setFint, setBint. -/
namespace Go.Proofs.YtllencgncinphaaGreatDoor
open Go.RowKit

/-- the whole number n, which is not negative, lies in block g; v are its words -/
def BI (w : World) (g : Nat) (v : Value) (n : Nat) : Prop := ∃ l, IntIs w g 0 false v l ∧ val l = n

theorem BI.fresh {w w' : World} {g n : Nat} {v : Value} (h : BI w g v n) (hk : Fresh w w') : BI w' g v n := by
  obtain ⟨l, h1, h2⟩ := h
  exact ⟨l, h1.fresh hk, h2⟩

theorem BI.keep {S : Nat → Prop} {w w' : World} {g n : Nat} {v : Value} (h : BI w g v n) (hk : Keep S w w') (hs : ¬ S g) (hv : ∀ k, v.ownBlock = some k → ¬ S k) : BI w' g v n := by
  obtain ⟨l, h1, h2⟩ := h
  exact ⟨l, h1.keep hk hs hv, h2⟩

theorem BI.lt {w : World} {g n : Nat} {v : Value} (h : BI w g v n) : g < w.heap.size := by
  obtain ⟨l, h1, h2⟩ := h
  exact h1.str.lt

theorem IntIs.new {w : World} {g : Nat} {T : TypeId} (h : w.heap[g]? = some (.cells #[.bool false, .slice none 0 0] T (0, 0))) (hg : NG ≤ g) : IntIs w g 0 false (.slice none 0 0) [] := by
  have c0 := row_cell h 0
  have c1 := row_cell h 1
  simp at c0 c1
  exact ⟨⟨c0, c1, frozen_of_row _ _ _ _ _ h, frozen_of_row _ _ _ _ _ h, hg, _, _, h⟩, NatAt.nil w, Norm.nil, fun _ => rfl⟩

theorem BI.new {w : World} {g : Nat} {T : TypeId} (h : w.heap[g]? = some (.cells #[.bool false, .slice none 0 0] T (0, 0))) (hg : NG ≤ g) : BI w g (.slice none 0 0) 0 := ⟨[], IntIs.new h hg, rfl⟩

end Go.Proofs.YtllencgncinphaaGreatDoor

/- Signed integers of math/big: NewInt, Set, SetBits, Neg, Sign, Bits. -/
namespace Go.Proofs.YtllencgncinphaaGreatDoor
open Go.RowKit

/-- the Int at block b is z; its words are the slice v -/
def ZI (w : World) (b : Nat) (v : Value) (z : Int) : Prop := ∃ neg l, IntIs w b 0 neg v l ∧ ival neg l = z

theorem ZI.keep {S : Nat → Prop} {w w' : World} {b : Nat} {v : Value} {z : Int} (h : ZI w b v z) (hk : Keep S w w') (hs : ¬ S b) (hv : ∀ k, v.ownBlock = some k → ¬ S k) : ZI w' b v z := by
  obtain ⟨neg, l, h, e⟩ := h
  exact ⟨neg, l, h.keep hk hs hv, e⟩

theorem ZI.fresh {w w' : World} {b : Nat} {v : Value} {z : Int} (h : ZI w b v z) (hk : Fresh w w') : ZI w' b v z := h.keep hk (fun h => h) (fun _ _ h => h)

theorem ZI.drewN {w : World} {b : Nat} {v : Value} {z : Int} (h : ZI w b v z) (n : Nat) : ZI (w.drewN n) b v z := h.fresh ((Keep.refl _ _).drewN n)

theorem ZI.lt {w : World} {b : Nat} {v : Value} {z : Int} (h : ZI w b v z) : b < w.heap.size := by
  obtain ⟨neg, l, h, _⟩ := h
  exact h.str.lt

theorem ZI.ge {w : World} {b : Nat} {v : Value} {z : Int} (h : ZI w b v z) : NG ≤ b := by
  obtain ⟨neg, l, h, _⟩ := h
  exact h.str.ng

theorem ival_abs (neg : Bool) (l : List Nat) : (ival neg l).natAbs = val l := by unfold ival; split <;> simp

theorem IntIs.len {w : World} {b o : Nat} {neg : Bool} {v : Value} {l : List Nat} (h : IntIs w b o neg v l) {z : Int} (e : ival neg l = z) {k : Nat} (hk : z.natAbs < wpow k) : l.length ≤ k :=
  h.norm.len_lt (by rw [← ival_abs neg l, e]; exact hk)

theorem ZI.new {w : World} {g : Nat} {T : TypeId} (h : w.heap[g]? = some (.cells #[.bool false, .slice none 0 0] T (0, 0))) (hg : NG ≤ g) : ZI w g (.slice none 0 0) 0 := ⟨false, [], IntIs.new h hg, rfl⟩

/-- the Int at block b has become z; nothing else that was there has turned but the words that it held -/
def ZSet (w : World) (b : Nat) (vz : Value) (z : Int) (w' : World) : Prop :=
  ∃ v, ZI w' b v z ∧ Keep (fun k => k = b ∨ vz.ownBlock = some k) w w' ∧ (∀ k, v.ownBlock = some k → vz.ownBlock = some k ∨ w.heap.size ≤ k)

theorem IntRet.zset {w : World} {b : Nat} {vz : Value} {z : Int} {e : Ending} {w' : World} (h : IntRet w b 0 vz z e w') : e = .returned (.pointer (some ⟨b, 0, none⟩)) ∧ ZSet w b vz z w' := by
  obtain ⟨rfl, neg, v, l, h1, h2, h3, h4⟩ := h
  exact ⟨rfl, v, ⟨neg, l, h1, h2⟩, h3, h4⟩

theorem IntSet.zset {w : World} {b : Nat} {vz : Value} {z : Int} {e : Ending} {w' : World} (h : IntSet w b 0 vz z e w') : e = .returned (.tuple #[]) ∧ ZSet w b vz z w' := by
  obtain ⟨rfl, neg, v, l, h1, h2, h3, h4⟩ := h
  exact ⟨rfl, v, ⟨neg, l, h1, h2⟩, h3, h4⟩

/-- a new Int that has been set: nothing that was there ahead of it has turned -/
theorem ZSet.fresh {w0 w w' : World} {b : Nat} {z : Int} (h : ZSet w b (.slice none 0 0) z w') (hf : Fresh w0 w) (hb : w0.heap.size ≤ b) : ∃ v, ZI w' b v z ∧ Fresh w0 w' ∧ (∀ k, v.ownBlock = some k → w0.heap.size ≤ k) := by
  obtain ⟨v, h1, h2, h3⟩ := h
  refine ⟨v, h1, ?_, fun k hk => ?_⟩
  · refine hf.trans h2 (fun _ _ h => h) (fun k hk h => ?_)
    rcases h with h | h
    · omega
    · simp [Value.ownBlock] at h
  · rcases h3 k hk with h | h
    · simp [Value.ownBlock] at h
    · exact Nat.le_trans hf.size h

set_option maxRecDepth 20000 in
theorem IntSign_z (b : Nat) (v : Value) (z : Int) (w : World) (hx : ZI w b v z) :
    Calls Tryz.prog 113 #[.pointer (some ⟨b, 0, none⟩)] w (fun e w' => e = .returned (.int .i64 (if z = 0 then 0 else if z < 0 then -1 else 1)) ∧ w' = w) := by
  obtain ⟨neg, l, hi, rfl⟩ := hx
  obtain ⟨a, c, rfl⟩ := hi.nat.form
  have c0 := hi.str.c0
  have c1 : w.cell? ⟨b, 1, none⟩ = some (.slice a l.length c) := hi.str.c1
  rcases Nat.eq_zero_or_pos l.length with h0 | h0
  · have hl := List.eq_nil_of_length_eq_zero h0
    have hn := hi.zero hl
    subst hl hn
    clear hi h0
    go_enter Tryz.func113, Tryz.ntmps113
    go_wp2
    go_ret
    exact ⟨rfl, rfl⟩
  · have hp : 0 < val l := by
      rcases Nat.eq_zero_or_pos (val l) with h | h
      · have := val_nil_of hi.norm h; rw [this] at h0; simp at h0
      · exact h
    have hz : ival neg l ≠ 0 := fun h => by have := ival_abs neg l; rw [h] at this; simp at this; omega
    rw [if_neg hz]
    have hs : (if ival neg l < 0 then (-1 : Int) else 1) = if neg then -1 else 1 := by
      unfold ival; cases neg
      · rw [if_neg (by simp)]; rfl
      · rw [if_pos (by simp; omega)]; rfl
    rw [hs]
    have t1 : ((l.length : Int) == 0) = false := by rw [beq_eq_false_iff_ne]; omega
    clear hp hz hs hi
    generalize l.length = k at *
    have h0' : ¬ k = 0 := by omega
    cases neg
    all_goals
      go_enter Tryz.func113, Tryz.ntmps113
      go_wp2
      go_ret
      exact ⟨rfl, rfl⟩

theorem Int_neq_self (w : World) (a : Addr) : (binOp .neq 59 (.pointer (some a)) (.pointer (some a))).run Tryz.prog w = .ok (.bool false) w := by
  cases hq : Tryz.prog.info? 110 with
  | none => exact absurd hq (by intro h; have : (Tryz.prog.info? 110).isSome = true := by kernel_rfl
                                rw [h] at this; cases this)
  | some i => exact Lib.run_neq_ptr_same w a Tryz.underlying59 hq

theorem Set_self (b : Nat) (w : World) : Calls Tryz.prog 134 #[.pointer (some ⟨b, 0, none⟩), .pointer (some ⟨b, 0, none⟩)] w (fun e w' => e = .returned (.pointer (some ⟨b, 0, none⟩)) ∧ w' = w) := by
  have heq := Int_neq_self w ⟨b, 0, none⟩
  go_enter Tryz.func134, Tryz.ntmps134
  go_wp2_with (fail)
  go_ret
  exact ⟨rfl, rfl⟩

set_option maxRecDepth 20000 in
theorem Neg_self (b : Nat) (v : Value) (z : Int) (w : World) (hx : ZI w b v z) :
    Calls Tryz.prog 132 #[.pointer (some ⟨b, 0, none⟩), .pointer (some ⟨b, 0, none⟩)] w (fun e w' => e = .returned (.pointer (some ⟨b, 0, none⟩)) ∧ ZI w' b v (-z) ∧ Keep (fun k => k = b) w w') := by
  obtain ⟨neg, l, hi, rfl⟩ := hx
  have hset := Set_self b w
  have hnat := setCell_natAt hi.nat (b := b) (o := 0) (fun g hg => IntIs.ne hi.str hi.nat hg)
  have hstr := fun n => hi.str.set0 n
  have hkeep := fun u => Keep.setCell (S := fun k => k = b) (Keep.refl _ w) (p := ⟨b, 0, none⟩) (fun _ => rfl) u
  have hnorm := hi.norm
  have hzero := hi.zero
  have c0 := hi.str.c0
  have f0 := hi.str.f0
  obtain ⟨a, c, rfl⟩ := hi.nat.form
  have c1 : w.cell? ⟨b, 1, none⟩ = some (.slice a l.length c) := hi.str.c1
  clear hi
  rcases Nat.eq_zero_or_pos l.length with h0 | h0
  · have hl := List.eq_nil_of_length_eq_zero h0
    have hn := hzero hl
    subst hl hn
    clear h0 hzero
    have H_hset := Lib.hid hset; clear hset
    have H_hnat := Lib.hid hnat; clear hnat
    have H_hstr := Lib.hid hstr; clear hstr
    have H_hkeep := Lib.hid hkeep; clear hkeep
    have H_hnorm := Lib.hid hnorm; clear hnorm
    go_enter Tryz.func132, Tryz.ntmps132
    go_wp2_with (fail)
    refine H_hset.out.mono ?_
    rintro e w1 ⟨rfl, rfl⟩
    go_wp2_with (fail)
    go_ret
    exact ⟨rfl, ⟨false, [], ⟨H_hstr.out false, H_hnat.out _, H_hnorm.out, fun _ => rfl⟩, rfl⟩, H_hkeep.out _⟩
  · have t1 : decide ((0 : Int) < (l.length : Int)) = true := by simp; omega
    have hne : l ≠ [] := fun h => by rw [h] at h0; simp at h0
    obtain ⟨n, hn⟩ : ∃ n, n = l.length := ⟨_, rfl⟩
    have hfin : ival (!neg) l = -(ival neg l) := by cases neg <;> simp [ival]
    rw [← hn] at t1 c1 h0 hnat hstr ⊢
    clear hzero
    have H_hset := Lib.hid hset; clear hset
    have H_hnat := Lib.hid hnat; clear hnat
    have H_hstr := Lib.hid hstr; clear hstr
    have H_hkeep := Lib.hid hkeep; clear hkeep
    have H_hnorm := Lib.hid hnorm; clear hnorm
    have H_hne := Lib.hid hne; clear hne
    have H_hn := Lib.hid hn; clear hn
    have H_hfin := Lib.hid hfin; clear hfin
    go_enter Tryz.func132, Tryz.ntmps132
    go_wp2_with (fail)
    refine H_hset.out.mono ?_
    rintro e w1 ⟨rfl, rfl⟩
    go_wp2_with (fail)
    go_ret
    exact ⟨rfl, ⟨!neg, l, ⟨H_hstr.out _, H_hnat.out _, H_hnorm.out, fun h => absurd h H_hne.out⟩, H_hfin.out⟩, H_hkeep.out _⟩

theorem Bits_any (b : Nat) (v : Value) (z : Int) (w : World) (hx : ZI w b v z) :
    Calls Tryz.prog 133 #[.pointer (some ⟨b, 0, none⟩)] w (fun e w' => e = .returned v ∧ w' = w) := by
  obtain ⟨neg, l, hi, rfl⟩ := hx
  have c1 : w.cell? ⟨b, 1, none⟩ = some v := hi.str.c1
  obtain ⟨a, c, rfl⟩ := hi.nat.form
  clear hi
  go_enter Tryz.func133, Tryz.ntmps133
  go_wp2
  go_ret
  exact ⟨rfl, rfl⟩

set_option maxRecDepth 20000 in
theorem SetBits_any (b : Nat) (negz : Bool) (vz : Value) (lz : List Nat) (va : Value) (la : List Nat) (w : World) (hlen : la.length ≤ 1000000) (hz : IntIs w b 0 negz vz lz) (ha : NatAt w va la) (hab : ∀ k, va.ownBlock = some k → k ≠ b) :
    Calls Tryz.prog 131 #[.pointer (some ⟨b, 0, none⟩), va] w (fun e w' => e = .returned (.pointer (some ⟨b, 0, none⟩)) ∧ ∃ v, ZI w' b v (val la : Int) ∧ Keep (fun k => k = b) w w' ∧ (∀ k, v.ownBlock = some k → va.ownBlock = some k)) := by
  have hc := norm_any va la w hlen ha
  have f1 := hz.str.f1
  have f0 := hz.str.f0
  have c0 := hz.str.c0
  have c1 := hz.str.c1
  rw [Nat.zero_add] at f1 c1
  have H_hc := Lib.hid hc; clear hc
  have H_hz := Lib.hid hz; clear hz
  have H_hab := Lib.hid hab; clear hab
  go_enter Tryz.func131, Tryz.ntmps131
  go_wp2_with (fail)
  refine H_hc.out.mono ?_
  rintro e w1 ⟨rv, l, rfl, h1, h2, h3, h4, rfl⟩
  obtain ⟨ra, rc, rfl⟩ := h1.form
  have hb : ∀ g, (Value.slice ra l.length rc).ownBlock = some g → b ≠ g := fun g hg h => H_hab.out g (h4 g hg) h.symm
  have c0' : (w.setCell ⟨b, 1, none⟩ (.slice ra l.length rc)).cell? ⟨b, 0, none⟩ = some (.bool negz) := (cell?_setCell_ne (.inr (by simp))).trans c0
  have f0' : (w.setCell ⟨b, 1, none⟩ (.slice ra l.length rc)).frozen? ⟨b, 0, none⟩ = false := (frozen?_setCell' _ _ _ _).trans f0
  have H_h1 := Lib.hid h1; clear h1
  have H_h2 := Lib.hid h2; clear h2
  have H_h3 := Lib.hid h3; clear h3
  have H_h4 := Lib.hid h4; clear h4
  have H_hb := Lib.hid hb; clear hb
  go_wp2_with (fail)
  go_ret
  have hs := (H_hz.out.str.set1 (.slice ra l.length rc)).set0 false
  rw [Nat.zero_add] at hs
  refine ⟨rfl, _, ⟨false, l, ⟨hs, setCell_natAt (setCell_natAt H_h1.out H_hb.out _) H_hb.out _, H_h2.out, fun _ => rfl⟩, by simp [ival, H_h3.out]⟩, ?_, H_h4.out⟩
  exact ((Keep.refl (fun k => k = b) w).setCell (p := ⟨b, 1, none⟩) (fun _ => rfl) _).setCell (p := ⟨b, 0, none⟩) (fun _ => rfl) _

end Go.Proofs.YtllencgncinphaaGreatDoor
