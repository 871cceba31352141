/- The contracts of math/big's integers: Mul. -/
import Derived.LaidEqlPtr
import Derived.Defers
import Derived.Recover
import Derived.Test.YtjjolcjeiogdmabGreatDoorK3
import Derived.Test.YtjjolcjeiogdmabGreatDoorK22
namespace Go.Proofs.YtjjolcjeiogdmabGreatDoor
open Go.RowKit

theorem ival_mul_zero {n m : Bool} {l k : List Nat} (h : val l * val k = 0) : ival n l * ival m k = ival false [] := by
  have h' : (val l : Int) * (val k : Int) = 0 := by rw [← Int.natCast_mul, h]; rfl
  have e : ival false [] = 0 := rfl
  rw [e]
  cases n <;> cases m <;> simp only [ival, if_true, if_false, Bool.false_eq_true, Int.neg_mul, Int.mul_neg, h'] <;> rfl

theorem ival_mul {n m : Bool} {l k j : List Nat} (h : val j = val l * val k) : ival (n != m) j = ival n l * ival m k := by
  cases n <;> cases m <;> simp [ival, h, Int.neg_mul, Int.mul_neg]

set_option maxRecDepth 20000 in
set_option maxHeartbeats 2000000 in
theorem Int_mul (bz oz bx ox bY oy : Nat) (negz negx negy : Bool) (vz vx vy : Value) (lz lx ly : List Nat) (stk : Option Addr) (w : World) (hG : Glob w) (hlx : lx.length < 40) (hly : ly.length < 40) (hne : bx ≠ bY)
    (hz : IntIs w bz oz negz vz lz) (hx : IntIs w bx ox negx vx lx) (hy : IntIs w bY oy negy vy ly) (hsx : Sep vz vx) (hsy : Sep vz vy) :
    Calls Tryz.prog 94 #[.pointer (some ⟨bz, oz, none⟩), .pointer stk, .pointer (some ⟨bx, ox, none⟩), .pointer (some ⟨bY, oy, none⟩)] w (IntSet w bz oz vz (ival negx lx * ival negy ly)) := by
  have hmul : Calls Tryz.prog 107 #[vz, .pointer stk, vx, vy] w.drew (NatRet w.drew vz (val lx * val ly)) := nat_mul vz vx vy stk lz lx ly _ (hG.fresh (Keep.refl _ _).drew) hlx hly hz.nat hx.nat hy.nat hsx hsy
  have heq : (binOp .eql 103 (.pointer (some ⟨bx, ox, none⟩)) (.pointer (some ⟨bY, oy, none⟩))).run Tryz.prog w = .ok (.bool false) w := StrAt.eql_ne hx.str hy.str hne Tryz.underlying103 (by kernel_rfl)
  have nz : ¬ (vz.ownBlock = some bz) := fun e => IntIs.ne hz.str hz.nat e rfl
  have nx : ¬ (vz.ownBlock = some bx) := fun e => IntIs.ne hx.str hz.nat e rfl
  have ny : ¬ (vz.ownBlock = some bY) := fun e => IntIs.ne hy.str hz.nat e rfl
  have cx0 := hx.str.c0; have cx1 := hx.str.c1; have cy0 := hy.str.c0; have cy1 := hy.str.c1; have cz0 := hz.str.c0; have cz1 := hz.str.c1; have fz0 := hz.str.f0; have fz1 := hz.str.f1
  have H_hG := Lib.hid hG; clear hG
  have H_hz := Lib.hid hz; clear hz
  have H_hx := Lib.hid hx; clear hx
  have H_hy := Lib.hid hy; clear hy
  have H_hsx := Lib.hid hsx; clear hsx
  have H_hsy := Lib.hid hsy; clear hsy
  have H_hmul := Lib.hid hmul; clear hmul
  have H_nz := Lib.hid nz; clear nz
  have H_nx := Lib.hid nx; clear nx
  have H_ny := Lib.hid ny; clear ny
  go_enter Tryz.func94, Tryz.ntmps94
  go_wp2_with (fail)
  clear heq
  refine wp_region_E (S := (fun (w' : World) => w'.cell? ⟨bz, oz + 1, none⟩ = some vz ∧ w'.cell? ⟨bx, ox + 1, none⟩ = some vx ∧ w'.cell? ⟨bY, oy + 1, none⟩ = some vy)) 17 (by kernel_rfl) (by exact ⟨cz1, cx1, cy1⟩) (fun hHeld => ?_)
  refine wpAnyE_takeP (i := 0) (v := ?v0_3) rfl (by kernel_rfl) (fun _ _ _ h => h) ⟨by rfl, ?y0_3⟩ (by assumption) ?r0_3
  case y0_3 => (intro w; go_simp; try with_reducible rfl)
  try simp only [Act.put, yA, yB, yD, yE, yF]
  refine wpAnyE_takeP (i := 1) (v := ?v1_3) rfl (by kernel_rfl) (fun _ _ _ h => h) ⟨by rfl, ?y1_3⟩ (by assumption) ?r1_3
  case y1_3 => (intro w; go_simp; try with_reducible rfl)
  try simp only [Act.put, yA, yB, yC, yD, yE, yF]
  refine wpAnyE_takeP (i := 2) (v := ?v2_3) rfl (by kernel_rfl) (fun _ _ _ h => h) ⟨by rfl, ?y2_3⟩ (by assumption) ?r2_3
  case y2_3 => (intro w; go_simp; try with_reducible rfl)
  try simp only [Act.put, yA, yB, yC, yD, yE, yF]
  refine wpAnyE_takeP (i := 3) (v := ?v3_3) rfl (by kernel_rfl) (fun _ _ _ h => h) ⟨by rfl, ?y3_3⟩ (by assumption) ?r3_3
  case y3_3 => (intro w; go_simp; try with_reducible rfl)
  try simp only [Act.put, yA, yB, yC, yD, yE, yF]
  refine wpAnyE_takeL (i := 4) (c := 14) (v := ?v4_3) rfl (by kernel_rfl) (fun _ _ _ h => h) ⟨by rfl, ?y4_3⟩ (by assumption) ?r4_3
  case y4_3 => (intro w hSw; go_split_ands; go_simp; try with_reducible rfl)
  try simp only [Act.put, yA, yB, yC, yD, yE, yF]
  refine wpAnyE_takeP (i := 5) (v := ?v5_3) rfl (by kernel_rfl) (fun _ _ _ h => h) ⟨by rfl, ?y5_3⟩ (by assumption) ?r5_3
  case y5_3 => (intro w; go_simp; try with_reducible rfl)
  try simp only [Act.put, yA, yB, yC, yD, yE, yF]
  refine wpAnyE_takeP (i := 6) (v := ?v6_3) rfl (by kernel_rfl) (fun _ _ _ h => h) ⟨by rfl, ?y6_3⟩ (by assumption) ?r6_3
  case y6_3 => (intro w; go_simp; try with_reducible rfl)
  try simp only [Act.put, yA, yB, yC, yD, yE, yF]
  refine wpAnyE_takeP (i := 7) (v := ?v7_3) rfl (by kernel_rfl) (fun _ _ _ h => h) ⟨by rfl, ?y7_3⟩ (by assumption) ?r7_3
  case y7_3 => (intro w; go_simp; try with_reducible rfl)
  try simp only [Act.put, yA, yB, yC, yD, yE, yF]
  refine wpAnyE_takeP (i := 8) (v := ?v8_3) rfl (by kernel_rfl) (fun _ _ _ h => h) ⟨by rfl, ?y8_3⟩ (by assumption) ?r8_3
  case y8_3 => (intro w; go_simp; try with_reducible rfl)
  try simp only [Act.put, yA, yB, yC, yD, yE, yF]
  refine wpAnyE_takeL (i := 9) (c := 14) (v := ?v9_3) rfl (by kernel_rfl) (fun _ _ _ h => h) ⟨by rfl, ?y9_3⟩ (by assumption) ?r9_3
  case y9_3 => (intro w hSw; go_split_ands; go_simp; try with_reducible rfl)
  try simp only [Act.put, yA, yB, yC, yD, yE, yF]
  refine wpAnyE_takeP (i := 10) (v := ?v10_3) rfl (by kernel_rfl) (fun _ _ _ h => h) ⟨by rfl, ?y10_3⟩ (by assumption) ?r10_3
  case y10_3 => (intro w; go_simp; try with_reducible rfl)
  try simp only [Act.put, yA, yB, yC, yD, yE, yF]
  refine wpAnyE_takeP (i := 11) (v := ?v11_3) rfl (by kernel_rfl) (fun _ _ _ h => h) ⟨by rfl, ?y11_3⟩ (by assumption) ?r11_3
  case y11_3 => (intro w; go_simp; try with_reducible rfl)
  try simp only [Act.put, yA, yB, yC, yD, yE, yF]
  refine wpAnyE_takeP (i := 12) (v := ?v12_3) rfl (by kernel_rfl) (fun _ _ _ h => h) ⟨by rfl, ?y12_3⟩ (by assumption) ?r12_3
  case y12_3 => (intro w; go_simp; try with_reducible rfl)
  try simp only [Act.put, yA, yB, yC, yD, yE, yF]
  refine wpAnyE_takeL (i := 13) (c := 14) (v := ?v13_3) rfl (by kernel_rfl) (fun _ _ _ h => h) ⟨by rfl, ?y13_3⟩ (by assumption) ?r13_3
  case y13_3 => (intro w hSw; go_split_ands; go_simp; try with_reducible rfl)
  try simp only [Act.put, yA, yB, yC, yD, yE, yF]
  refine wpAnyE_one (i := 14) rfl (by kernel_rfl) (fun K hK => ?_)
  go_simp
  refine H_hmul.out.mono ?_; rintro e w1 hr; obtain ⟨rv, l, rfl, hop, hnorm, hval⟩ := hr; have hop := hop.of_drew; have kz := (H_hz.out.str.keep hop.keep H_nz.out).c1; have kx := (H_hx.out.str.keep hop.keep H_nx.out).c1; have ky := (H_hy.out.str.keep hop.keep H_ny.out).c1; have kf := (H_hz.out.str.keep hop.keep H_nz.out).f1; have kf0 := (H_hz.out.str.keep hop.keep H_nz.out).f0; have kz0 := (H_hz.out.str.keep hop.keep H_nz.out).c0; have kx0 := (H_hx.out.str.keep hop.keep H_nx.out).c0; have ky0 := (H_hy.out.str.keep hop.keep H_ny.out).c0; obtain ⟨ra, rc, hrv⟩ := hop.nat.form; generalize hll : l.length = nl at *; subst hrv; have H_hop := Lib.hid hop; have H_hnorm := Lib.hid hnorm; have H_hval := Lib.hid hval; have H_hll := Lib.hid hll; clear hop hnorm hval hll
  go_wp2_with (fail)
  have hHeldB : ((fun (w' : World) => w'.cell? ⟨bz, oz + 1, none⟩ = some vz ∧ w'.cell? ⟨bx, ox + 1, none⟩ = some vx ∧ w'.cell? ⟨bY, oy + 1, none⟩ = some vy)) _ := ⟨kz, kx, ky⟩
  refine hK.out _ _ (fun _ => hHeldB) ?_
  clear hK K
  try simp only [Act.put, yA, yB, yC, yD, yE, yF]
  refine wpAnyE_takeP (i := 15) (v := ?v15_3) rfl (by kernel_rfl) (fun _ _ _ h => h) ⟨by rfl, ?y15_3⟩ (by assumption) ?r15_3
  case y15_3 => (intro w; go_simp; try with_reducible rfl)
  try simp only [Act.put, yA, yB, yC, yD, yE, yF]
  refine wpAnyE_takeP (i := 16) (v := ?v16_3) rfl (by kernel_rfl) (fun _ _ _ h => h) ⟨by rfl, ?y16_3⟩ (by assumption) ?r16_3
  case y16_3 => (intro w; go_simp; try with_reducible rfl)
  try simp only [Act.put, yA, yB, yC, yD, yE, yF]
  refine wpAnyE_one (i := 17) rfl (by kernel_rfl) (fun K hK => ?_)
  go_simp
  refine hK.out _ _ (fun h => Bool.noConfusion (show true = false from h)) ?_
  clear hK K
  try simp only [Act.put, yA, yB, yC, yD, yE, yF]
  refine wpAnyE_done (by kernel_rfl) ?_ _
  clear hHeldB
  have hsV : StrAt (w1.setCell ⟨bz, oz + 1, none⟩ (Value.slice ra nl rc)) bz oz negz (Value.slice ra nl rc) := (H_hz.out.str.keep H_hop.out.keep H_nz.out).set1 _
  have dv : ∀ n : Bool, vz ≠ .bool n := fun n e => by obtain ⟨a, c, h⟩ := H_hz.out.nat.form; rw [h] at e; simp at e
  have dx : bx ≠ bz ∨ ox ≠ oz + 1 := by
    by_cases e : bx = bz
    · right; rintro rfl; rw [e, kz] at kx0; exact dv _ (Option.some.inj kx0)
    · exact .inl e
  have dy : bY ≠ bz ∨ oy ≠ oz + 1 := by
    by_cases e : bY = bz
    · right; rintro rfl; rw [e, kz] at ky0; exact dv _ (Option.some.inj ky0)
    · exact .inl e
  have kxV : (w1.setCell ⟨bz, oz + 1, none⟩ (Value.slice ra nl rc)).cell? ⟨bx, ox, none⟩ = some (.bool negx) := (cell?_setCell_ne dx).trans kx0
  have kyV : (w1.setCell ⟨bz, oz + 1, none⟩ (Value.slice ra nl rc)).cell? ⟨bY, oy, none⟩ = some (.bool negy) := (cell?_setCell_ne dy).trans ky0
  clear dv dx dy kz kx ky kf kf0 kz0 kx0 ky0
  generalize hV : w1.setCell ⟨bz, oz + 1, none⟩ (Value.slice ra nl rc) = V at *
  have kz1V := hsV.c1; have kz0V := hsV.c0; have kf0V := hsV.f0
  clear cx0 cx1 cy0 cy1 cz0 cz1 fz0 fz1
  have H_hV := Lib.hid hV; clear hV
  have H_hsV := Lib.hid hsV; clear hsV
  by_cases hl0 : nl = 0
  · have t1 : decide (0 < nl) = false := by simp [hl0]
    have hl00 := Lib.hid hl0
    clear hl0
    go_wp2_with (fail)
    refine wp_region_E (S := (fun (w' : World) => w'.cell? ⟨bz, oz + 1, none⟩ = some (Value.slice ra nl rc) ∧ w'.cell? ⟨bx, ox, none⟩ = some (.bool negx) ∧ w'.cell? ⟨bY, oy, none⟩ = some (.bool negy))) 20 (by kernel_rfl) (by exact ⟨kz1V, kxV, kyV⟩) (fun hHeld => ?_)
    refine wpAnyE_takeP (i := 0) (v := ?v0_1) rfl (by kernel_rfl) (fun _ _ _ h => h) ⟨by rfl, ?y0_1⟩ (by assumption) ?r0_1
    case y0_1 => (intro w; go_simp; try with_reducible rfl)
    try simp only [Act.put, yA, yB, yD, yE, yF]
    refine wpAnyE_takeP (i := 1) (v := ?v1_1) rfl (by kernel_rfl) (fun _ _ _ h => h) ⟨by rfl, ?y1_1⟩ (by assumption) ?r1_1
    case y1_1 => (intro w; go_simp; try with_reducible rfl)
    try simp only [Act.put, yA, yB, yC, yD, yE, yF]
    refine wpAnyE_takeP (i := 2) (v := ?v2_1) rfl (by kernel_rfl) (fun _ _ _ h => h) ⟨by rfl, ?y2_1⟩ (by assumption) ?r2_1
    case y2_1 => (intro w; go_simp; try with_reducible rfl)
    try simp only [Act.put, yA, yB, yC, yD, yE, yF]
    refine wpAnyE_takeP (i := 3) (v := ?v3_1) rfl (by kernel_rfl) (fun _ _ _ h => h) ⟨by rfl, ?y3_1⟩ (by assumption) ?r3_1
    case y3_1 => (intro w; go_simp; try with_reducible rfl)
    try simp only [Act.put, yA, yB, yC, yD, yE, yF]
    refine wpAnyE_takeL (i := 4) (c := 19) (v := ?v4_1) rfl (by kernel_rfl) (fun _ _ _ h => h) ⟨by rfl, ?y4_1⟩ (by assumption) ?r4_1
    case y4_1 => (intro w hSw; go_split_ands; go_simp; try with_reducible rfl)
    try simp only [Act.put, yA, yB, yC, yD, yE, yF]
    refine wpAnyE_takeP (i := 5) (v := ?v5_1) rfl (by kernel_rfl) (fun _ _ _ h => h) ⟨by rfl, ?y5_1⟩ (by assumption) ?r5_1
    case y5_1 => (intro w; go_simp; try with_reducible rfl)
    try simp only [Act.put, yA, yB, yC, yD, yE, yF]
    refine wpAnyE_takeP (i := 6) (v := .bool false) rfl (by kernel_rfl) (fun _ _ _ h => h) ⟨by rfl, ?y6_1⟩ (by assumption) ?r6_1
    case y6_1 => (intro w; go_simp)
    try simp only [Act.put, yA, yB, yC, yD, yE, yF]
    refine wpAnyE_takeP (i := 7) (v := ?v7_1) rfl (by kernel_rfl) (fun _ _ _ h => h) ⟨by rfl, ?y7_1⟩ (by assumption) ?r7_1
    case y7_1 => (intro w; go_simp; try with_reducible rfl)
    try simp only [Act.put, yA, yB, yC, yD, yE, yF]
    refine wpAnyE_takeU (i := 8) rfl (by kernel_rfl) (fun _ _ _ h => h) (by rfl) (by assumption) ?_
    try simp only [Act.put, yA, yB, yC, yD, yE, yF]
    refine wpAnyE_takeU (i := 9) rfl (by kernel_rfl) (fun _ _ _ h => h) (by rfl) (by assumption) ?_
    try simp only [Act.put, yA, yB, yC, yD, yE, yF]
    refine wpAnyE_takeU (i := 10) rfl (by kernel_rfl) (fun _ _ _ h => h) (by rfl) (by assumption) ?_
    try simp only [Act.put, yA, yB, yC, yD, yE, yF]
    refine wpAnyE_takeU (i := 11) rfl (by kernel_rfl) (fun _ _ _ h => h) (by rfl) (by assumption) ?_
    try simp only [Act.put, yA, yB, yC, yD, yE, yF]
    refine wpAnyE_takeU (i := 12) rfl (by kernel_rfl) (fun _ _ _ h => h) (by rfl) (by assumption) ?_
    try simp only [Act.put, yA, yB, yC, yD, yE, yF]
    refine wpAnyE_takeU (i := 13) rfl (by kernel_rfl) (fun _ _ _ h => h) (by rfl) (by assumption) ?_
    try simp only [Act.put, yA, yB, yC, yD, yE, yF]
    refine wpAnyE_takeU (i := 14) rfl (by kernel_rfl) (fun _ _ _ h => h) (by rfl) (by assumption) ?_
    try simp only [Act.put, yA, yB, yC, yD, yE, yF]
    refine wpAnyE_takeU (i := 15) rfl (by kernel_rfl) (fun _ _ _ h => h) (by rfl) (by assumption) ?_
    try simp only [Act.put, yA, yB, yC, yD, yE, yF]
    refine wpAnyE_takeU (i := 16) rfl (by kernel_rfl) (fun _ _ _ h => h) (by rfl) (by assumption) ?_
    try simp only [Act.put, yA, yB, yC, yD, yE, yF]
    refine wpAnyE_takeP (i := 17) (v := ?v17_1) rfl (by kernel_rfl) (fun _ _ _ h => h) ⟨by rfl, ?y17_1⟩ (by assumption) ?r17_1
    case y17_1 => (intro w; go_simp; try with_reducible rfl)
    try simp only [Act.put, yA, yB, yC, yD, yE, yF]
    refine wpAnyE_takeP (i := 18) (v := ?v18_1) rfl (by kernel_rfl) (fun _ _ _ h => h) ⟨by rfl, ?y18_1⟩ (by assumption) ?r18_1
    case y18_1 => (intro w; go_simp; try with_reducible rfl)
    try simp only [Act.put, yA, yB, yC, yD, yE, yF]
    refine wpAnyE_takeP (i := 19) (v := ?v19_1) rfl (by kernel_rfl) (fun _ _ _ h => h) ⟨by rfl, ?y19_1⟩ (by assumption) ?r19_1
    case y19_1 => (intro w; go_simp; try with_reducible rfl)
    try simp only [Act.put, yA, yB, yC, yD, yE, yF]
    refine wpAnyE_one (i := 20) rfl (by kernel_rfl) (fun K hK => ?_)
    go_simp
    refine hK.out _ _ (fun h => Bool.noConfusion (show true = false from h)) ?_
    clear hK K
    try simp only [Act.put, yA, yB, yC, yD, yE, yF]
    refine wpAnyE_done (by kernel_rfl) ?_ _
    clear hHeld
    go_wp2
    go_end0
    have hle : l = [] := List.eq_nil_of_length_eq_zero (by rw [H_hll.out]; exact hl00.out)
    have hv := H_hval.out
    rw [hle] at hv
    obtain ⟨neg, v, l', h1, h2, h3, h4⟩ := IntIs.made H_hz.out.str H_hz.out.nat H_hop.out H_hnorm.out false (fun _ => rfl) (ival negx lx * ival negy ly) (by
      rw [hle]
      have h0 : val lx * val ly = 0 := hv.symm
      exact (ival_mul_zero h0).symm) (congrArg (fun W => World.setCell W ⟨bz, oz, none⟩ (.bool false)) H_hV.out.symm)
    exact ⟨rfl, neg, v, l', IntIs.drewN h1 1, h2, h3.drewN 1, h4⟩
  · have t1 : decide (0 < nl) = true := by simp; omega
    have hl00 := Lib.hid hl0
    clear hl0
    go_wp2_with (fail)
    refine wp_region_E (S := (fun (w' : World) => w'.cell? ⟨bz, oz + 1, none⟩ = some (Value.slice ra nl rc) ∧ w'.cell? ⟨bx, ox, none⟩ = some (.bool negx) ∧ w'.cell? ⟨bY, oy, none⟩ = some (.bool negy))) 20 (by kernel_rfl) (by exact ⟨kz1V, kxV, kyV⟩) (fun hHeld => ?_)
    refine wpAnyE_takeP (i := 0) (v := ?v0_2) rfl (by kernel_rfl) (fun _ _ _ h => h) ⟨by rfl, ?y0_2⟩ (by assumption) ?r0_2
    case y0_2 => (intro w; go_simp; try with_reducible rfl)
    try simp only [Act.put, yA, yB, yD, yE, yF]
    refine wpAnyE_takeP (i := 1) (v := ?v1_2) rfl (by kernel_rfl) (fun _ _ _ h => h) ⟨by rfl, ?y1_2⟩ (by assumption) ?r1_2
    case y1_2 => (intro w; go_simp; try with_reducible rfl)
    try simp only [Act.put, yA, yB, yC, yD, yE, yF]
    refine wpAnyE_takeP (i := 2) (v := ?v2_2) rfl (by kernel_rfl) (fun _ _ _ h => h) ⟨by rfl, ?y2_2⟩ (by assumption) ?r2_2
    case y2_2 => (intro w; go_simp; try with_reducible rfl)
    try simp only [Act.put, yA, yB, yC, yD, yE, yF]
    refine wpAnyE_takeP (i := 3) (v := ?v3_2) rfl (by kernel_rfl) (fun _ _ _ h => h) ⟨by rfl, ?y3_2⟩ (by assumption) ?r3_2
    case y3_2 => (intro w; go_simp; try with_reducible rfl)
    try simp only [Act.put, yA, yB, yC, yD, yE, yF]
    refine wpAnyE_takeL (i := 4) (c := 19) (v := ?v4_2) rfl (by kernel_rfl) (fun _ _ _ h => h) ⟨by rfl, ?y4_2⟩ (by assumption) ?r4_2
    case y4_2 => (intro w hSw; go_split_ands; go_simp; try with_reducible rfl)
    try simp only [Act.put, yA, yB, yC, yD, yE, yF]
    refine wpAnyE_takeP (i := 5) (v := ?v5_2) rfl (by kernel_rfl) (fun _ _ _ h => h) ⟨by rfl, ?y5_2⟩ (by assumption) ?r5_2
    case y5_2 => (intro w; go_simp; try with_reducible rfl)
    try simp only [Act.put, yA, yB, yC, yD, yE, yF]
    refine wpAnyE_takeP (i := 6) (v := .bool true) rfl (by kernel_rfl) (fun _ _ _ h => h) ⟨by rfl, ?y6_2⟩ (by assumption) ?r6_2
    case y6_2 => (intro w; go_simp)
    try simp only [Act.put, yA, yB, yC, yD, yE, yF]
    refine wpAnyE_takeP (i := 7) (v := ?v7_2) rfl (by kernel_rfl) (fun _ _ _ h => h) ⟨by rfl, ?y7_2⟩ (by assumption) ?r7_2
    case y7_2 => (intro w; go_simp; try with_reducible rfl)
    try simp only [Act.put, yA, yB, yC, yD, yE, yF]
    refine wpAnyE_takeP (i := 8) (v := ?v8_2) rfl (by kernel_rfl) (fun _ _ _ h => h) ⟨by rfl, ?y8_2⟩ (by assumption) ?r8_2
    case y8_2 => (intro w; go_simp; try with_reducible rfl)
    try simp only [Act.put, yA, yB, yC, yD, yE, yF]
    refine wpAnyE_takeP (i := 9) (v := ?v9_2) rfl (by kernel_rfl) (fun _ _ _ h => h) ⟨by rfl, ?y9_2⟩ (by assumption) ?r9_2
    case y9_2 => (intro w; go_simp; try with_reducible rfl)
    try simp only [Act.put, yA, yB, yC, yD, yE, yF]
    refine wpAnyE_takeP (i := 10) (v := ?v10_2) rfl (by kernel_rfl) (fun _ _ _ h => h) ⟨by rfl, ?y10_2⟩ (by assumption) ?r10_2
    case y10_2 => (intro w; go_simp; try with_reducible rfl)
    try simp only [Act.put, yA, yB, yC, yD, yE, yF]
    refine wpAnyE_takeL (i := 11) (c := 19) (v := ?v11_2) rfl (by kernel_rfl) (fun _ _ _ h => h) ⟨by rfl, ?y11_2⟩ (by assumption) ?r11_2
    case y11_2 => (intro w hSw; go_split_ands; go_simp; try with_reducible rfl)
    try simp only [Act.put, yA, yB, yC, yD, yE, yF]
    refine wpAnyE_takeP (i := 12) (v := ?v12_2) rfl (by kernel_rfl) (fun _ _ _ h => h) ⟨by rfl, ?y12_2⟩ (by assumption) ?r12_2
    case y12_2 => (intro w; go_simp; try with_reducible rfl)
    try simp only [Act.put, yA, yB, yC, yD, yE, yF]
    refine wpAnyE_takeP (i := 13) (v := ?v13_2) rfl (by kernel_rfl) (fun _ _ _ h => h) ⟨by rfl, ?y13_2⟩ (by assumption) ?r13_2
    case y13_2 => (intro w; go_simp; try with_reducible rfl)
    try simp only [Act.put, yA, yB, yC, yD, yE, yF]
    refine wpAnyE_takeP (i := 14) (v := ?v14_2) rfl (by kernel_rfl) (fun _ _ _ h => h) ⟨by rfl, ?y14_2⟩ (by assumption) ?r14_2
    case y14_2 => (intro w; go_simp; try with_reducible rfl)
    try simp only [Act.put, yA, yB, yC, yD, yE, yF]
    refine wpAnyE_takeL (i := 15) (c := 19) (v := ?v15_2) rfl (by kernel_rfl) (fun _ _ _ h => h) ⟨by rfl, ?y15_2⟩ (by assumption) ?r15_2
    case y15_2 => (intro w hSw; go_split_ands; go_simp; try with_reducible rfl)
    try simp only [Act.put, yA, yB, yC, yD, yE, yF]
    refine wpAnyE_takeP (i := 16) (v := ?v16_2) rfl (by kernel_rfl) (fun _ _ _ h => h) ⟨by rfl, ?y16_2⟩ (by assumption) ?r16_2
    case y16_2 => (intro w; go_simp; try with_reducible rfl)
    try simp only [Act.put, yA, yB, yC, yD, yE, yF]
    refine wpAnyE_takeP (i := 17) (v := ?v17_2) rfl (by kernel_rfl) (fun _ _ _ h => h) ⟨by rfl, ?y17_2⟩ (by assumption) ?r17_2
    case y17_2 => (intro w; go_simp; try with_reducible rfl)
    try simp only [Act.put, yA, yB, yC, yD, yE, yF]
    refine wpAnyE_takeP (i := 18) (v := ?v18_2) rfl (by kernel_rfl) (fun _ _ _ h => h) ⟨by rfl, ?y18_2⟩ (by assumption) ?r18_2
    case y18_2 => (intro w; go_simp; try with_reducible rfl)
    try simp only [Act.put, yA, yB, yC, yD, yE, yF]
    refine wpAnyE_takeP (i := 19) (v := ?v19_2) rfl (by kernel_rfl) (fun _ _ _ h => h) ⟨by rfl, ?y19_2⟩ (by assumption) ?r19_2
    case y19_2 => (intro w; go_simp; try with_reducible rfl)
    try simp only [Act.put, yA, yB, yC, yD, yE, yF]
    refine wpAnyE_one (i := 20) rfl (by kernel_rfl) (fun K hK => ?_)
    go_simp
    refine hK.out _ _ (fun h => Bool.noConfusion (show true = false from h)) ?_
    clear hK K
    try simp only [Act.put, yA, yB, yC, yD, yE, yF]
    refine wpAnyE_done (by kernel_rfl) ?_ _
    clear hHeld
    go_wp2
    go_end0
    have hle : l ≠ [] := fun e => hl00.out (by rw [← H_hll.out, e]; rfl)
    have hv := H_hval.out
    obtain ⟨neg, v, l', h1, h2, h3, h4⟩ := IntIs.made H_hz.out.str H_hz.out.nat H_hop.out H_hnorm.out (negx != negy) (fun e => absurd e hle) (ival negx lx * ival negy ly) (ival_mul hv) (congrArg (fun W => World.setCell W ⟨bz, oz, none⟩ (.bool (negx != negy))) H_hV.out.symm)
    exact ⟨rfl, neg, v, l', IntIs.drewN h1 1, h2, h3.drewN 1, h4⟩

end Go.Proofs.YtjjolcjeiogdmabGreatDoor

/- The contracts of govalues' whole numbers of any length: getBint, setFint, setBint. -/
namespace Go.Proofs.YtjjolcjeiogdmabGreatDoor
open Go.RowKit

/-- the whole number n, which is not negative, lies in block g; v are its words -/
def BI (w : World) (g : Nat) (v : Value) (n : Nat) : Prop := ∃ l, IntIs w g 0 false v l ∧ val l = n

theorem BI.fresh {w w' : World} {g n : Nat} {v : Value} (h : BI w g v n) (hk : Fresh w w') : BI w' g v n := by
  obtain ⟨l, h1, h2⟩ := h
  exact ⟨l, h1.fresh hk, h2⟩

theorem BI.keep {S : Nat → Prop} {w w' : World} {g n : Nat} {v : Value} (h : BI w g v n) (hk : Keep S w w') (hs : ¬ S g) (hv : ∀ k, v.ownBlock = some k → ¬ S k) : BI w' g v n := by
  obtain ⟨l, h1, h2⟩ := h
  exact ⟨l, h1.keep hk hs hv, h2⟩

theorem BI.lt {w : World} {g n : Nat} {v : Value} (h : BI w g v n) : g < w.heap.size := by
  obtain ⟨l, h1, h2⟩ := h
  exact h1.str.lt

theorem BI.own_lt {w : World} {g n : Nat} {v : Value} (h : BI w g v n) {k : Nat} (hk : v.ownBlock = some k) : k < w.heap.size := by
  obtain ⟨l, h1, h2⟩ := h
  exact h1.nat.lt hk

theorem BI.ne_own {w : World} {g g' n n' : Nat} {v v' : Value} (h : BI w g v n) (h' : BI w g' v' n') {k : Nat} (hk : v'.ownBlock = some k) : g ≠ k := by
  obtain ⟨l, h1, h2⟩ := h
  obtain ⟨l', h1', h2'⟩ := h'
  exact IntIs.ne h1.str h1'.nat hk

/-- the call sets the whole number in block g to n; nothing else has turned but the words that it held -/
def BSet (w : World) (g : Nat) (vz : Value) (n : Nat) (w' : World) : Prop :=
  ∃ v, BI w' g v n ∧ Keep (fun k => k = g ∨ vz.ownBlock = some k) w w' ∧ (∀ k, v.ownBlock = some k → vz.ownBlock = some k ∨ w.heap.size ≤ k)

theorem IntIs.nonneg {w : World} {b o n : Nat} {neg : Bool} {v : Value} {l : List Nat} (h : IntIs w b o neg v l) (hv : ival neg l = (n : Int)) : neg = false ∧ val l = n := by
  cases neg
  · have e : (val l : Int) = (n : Int) := by simpa [ival] using hv
    exact ⟨rfl, by omega⟩
  · exfalso
    have e : -(val l : Int) = (n : Int) := by simpa [ival] using hv
    have h0 : val l = 0 := by omega
    have := h.zero (val_nil_of h.norm h0)
    cases this

theorem IntRet.bset {w : World} {b : Nat} {vz : Value} {n : Nat} {e : Ending} {w' : World} (h : IntRet w b 0 vz n e w') : e = .returned (.pointer (some ⟨b, 0, none⟩)) ∧ BSet w b vz n w' := by
  obtain ⟨he, neg, v, l, h1, h2, h3, h4⟩ := h
  obtain ⟨rfl, hv⟩ := h1.nonneg h2
  exact ⟨he, v, ⟨l, h1, hv⟩, h3, h4⟩

theorem IntIs.new {w : World} {g : Nat} {T : TypeId} (h : w.heap[g]? = some (.cells #[.bool false, .slice none 0 0] T (0, 0))) (hg : NG ≤ g) : IntIs w g 0 false (.slice none 0 0) [] := by
  have c0 := row_cell h 0
  have c1 := row_cell h 1
  simp at c0 c1
  exact ⟨⟨c0, c1, frozen_of_row _ _ _ _ _ h, frozen_of_row _ _ _ _ _ h, hg, _, _, h⟩, NatAt.nil w, Norm.nil, fun _ => rfl⟩

theorem BI.new {w : World} {g : Nat} {T : TypeId} (h : w.heap[g]? = some (.cells #[.bool false, .slice none 0 0] T (0, 0))) (hg : NG ≤ g) : BI w g (.slice none 0 0) 0 := ⟨[], IntIs.new h hg, rfl⟩

theorem getBint_any (w : World) (hG : NG ≤ w.heap.size) : Calls Tryz.prog 58 #[] w (fun e w' => e = .returned (.pointer (some ⟨w.heap.size, 0, none⟩)) ∧ BI w' w.heap.size (.slice none 0 0) 0 ∧ Fresh w w' ∧ w'.heap.size = w.heap.size + 1) := by
  have H_hG := Lib.hid hG
  clear hG
  go_enter Tryz.func58, Tryz.ntmps58
  go_wp2
  go_ret
  exact ⟨rfl, BI.new (heap_alloc_new w _) H_hG.out, (Keep.refl _ _).alloc _, by simp⟩

theorem setUint64_any (zv : Value) (zl : List Nat) (x : Nat) (w : World) (hx : x < 18446744073709551616) (h : NatAt w zv zl) :
    Calls Tryz.prog 79 #[zv, .int .u64 x] w (NatRet w zv x) := by
  have hc := setWord_any zv zl x w hx h
  have H_hc := Lib.hid hc; clear hc
  have H_h := Lib.hid h; clear h
  go_enter Tryz.func79, Tryz.ntmps79
  go_wp2_with (fail)
  refine H_hc.out.mono ?_
  intro e w1 hr
  obtain ⟨rv, l, rfl, hrest⟩ := hr
  have hr : NatRet w zv x (.returned rv) w1 := ⟨rv, l, rfl, hrest⟩
  clear hrest
  have H_hr := Lib.hid hr; clear hr
  go_wp2
  go_ret
  exact H_hr.out

set_option maxRecDepth 20000 in
theorem SetUint64_any (b : Nat) (negz : Bool) (vz : Value) (lz : List Nat) (x : Nat) (w : World) (hx : x < 18446744073709551616) (hz : IntIs w b 0 negz vz lz) :
    Calls Tryz.prog 68 #[.pointer (some ⟨b, 0, none⟩), .int .u64 x] w (IntRet w b 0 vz x) := by
  have hc := setUint64_any vz lz x w hx hz.nat
  have cz1 := hz.str.c1
  rw [Nat.zero_add] at cz1
  have nz : ¬ (vz.ownBlock = some b) := fun e => IntIs.ne hz.str hz.nat e rfl
  have H_hc := Lib.hid hc; clear hc
  have H_hz := Lib.hid hz; clear hz
  have H_nz := Lib.hid nz; clear nz
  go_enter Tryz.func68, Tryz.ntmps68
  go_wp2_with (fail)
  refine H_hc.out.mono ?_
  intro e w1 hr
  obtain ⟨rv, l, rfl, hop, hnorm, hval⟩ := hr
  obtain ⟨ra, rc, rfl⟩ := hop.nat.form
  have hs := H_hz.out.str.keep hop.keep H_nz.out
  have kc0 := hs.c0
  have kc1 := hs.c1
  have kf0 := hs.f0
  have kf1 := hs.f1
  rw [Nat.zero_add] at kc1 kf1
  clear cz1
  have H_hop := Lib.hid hop; clear hop
  have H_hnorm := Lib.hid hnorm; clear hnorm
  have H_hval := Lib.hid hval; clear hval
  have H_hs := Lib.hid hs; clear hs
  go_wp2_with (fail)
  go_ret
  exact ⟨rfl, IntIs.made H_hz.out.str H_hz.out.nat H_hop.out H_hnorm.out false (fun _ => rfl) (x : Int) (by simp [ival, H_hval.out]) rfl⟩

theorem setFint_any (g : Nat) (vz : Value) (n x : Nat) (w : World) (hx : x < 18446744073709551616) (hz : BI w g vz n) :
    Calls Tryz.prog 60 #[.pointer (some ⟨g, 0, none⟩), .int .u64 x] w (fun e w' => e = .returned (.tuple #[]) ∧ BSet w g vz x w') := by
  obtain ⟨lz, hz, _⟩ := hz
  have H_hz := Lib.hid hz; clear hz
  go_enter Tryz.func60, Tryz.ntmps60
  go_wp2_with (fail)
  refine (SetUint64_any g false vz lz x _ hx H_hz.out).mono ?_
  intro e w1 hr
  obtain ⟨rfl, hb⟩ := hr.bset
  clear hr
  have H_hb := Lib.hid hb; clear hb
  go_wp2
  go_end0
  exact ⟨rfl, H_hb.out⟩

set_option maxRecDepth 20000 in
set_option maxHeartbeats 2000000 in
theorem Set_any (bz bx : Nat) (vz vx : Value) (lz lx : List Nat) (w : World) (hlx : lx.length ≤ 1000000) (hne : bz ≠ bx)
    (hz : IntIs w bz 0 false vz lz) (hx : IntIs w bx 0 false vx lx) (hs : Sep vz vx) :
    Calls Tryz.prog 97 #[.pointer (some ⟨bz, 0, none⟩), .pointer (some ⟨bx, 0, none⟩)] w (IntRet w bz 0 vz (val lx : Int)) := by
  have hc := set_any vz vx lz lx w.drew hlx hz.nat.drew hx.nat.drew hs
  have hneq : (binOp .neq 103 (.pointer (some ⟨bz, 0, none⟩)) (.pointer (some ⟨bx, 0, none⟩))).run Tryz.prog w = .ok (.bool true) w := StrAt.neq_ne hz.str hx.str hne Tryz.underlying103 (by kernel_rfl)
  have cz1 := hz.str.c1
  have cx1 := hx.str.c1
  rw [Nat.zero_add] at cz1 cx1
  have nz : ¬ (vz.ownBlock = some bz) := fun e => IntIs.ne hz.str hz.nat e rfl
  have nx : ¬ (vz.ownBlock = some bx) := fun e => IntIs.ne hx.str hz.nat e rfl
  have H_hc := Lib.hid hc; clear hc
  have H_hz := Lib.hid hz; clear hz
  have H_hx := Lib.hid hx; clear hx
  have H_nz := Lib.hid nz; clear nz
  have H_nx := Lib.hid nx; clear nx
  have H_hs := Lib.hid hs; clear hs
  go_enter Tryz.func97, Tryz.ntmps97
  go_wp2_with (fail)
  clear hneq
  refine wp_region_E (S := (fun (w' : World) => w'.cell? ⟨bz, 1, none⟩ = some vz ∧ w'.cell? ⟨bx, 1, none⟩ = some vx)) 12 (by kernel_rfl) (by exact ⟨cz1, cx1⟩) (fun hHeld => ?_)
  refine wpAnyE_takeP (i := 0) (v := ?v0_1) rfl (by kernel_rfl) (fun _ _ _ h => h) ⟨by rfl, ?y0_1⟩ (by assumption) ?r0_1
  case y0_1 => (intro w; go_simp; try with_reducible rfl)
  try simp only [Act.put, yA, yB, yD, yE, yF]
  refine wpAnyE_takeP (i := 1) (v := ?v1_1) rfl (by kernel_rfl) (fun _ _ _ h => h) ⟨by rfl, ?y1_1⟩ (by assumption) ?r1_1
  case y1_1 => (intro w; go_simp; try with_reducible rfl)
  try simp only [Act.put, yA, yB, yC, yD, yE, yF]
  refine wpAnyE_takeP (i := 2) (v := ?v2_1) rfl (by kernel_rfl) (fun _ _ _ h => h) ⟨by rfl, ?y2_1⟩ (by assumption) ?r2_1
  case y2_1 => (intro w; go_simp; try with_reducible rfl)
  try simp only [Act.put, yA, yB, yC, yD, yE, yF]
  refine wpAnyE_takeP (i := 3) (v := ?v3_1) rfl (by kernel_rfl) (fun _ _ _ h => h) ⟨by rfl, ?y3_1⟩ (by assumption) ?r3_1
  case y3_1 => (intro w; go_simp; try with_reducible rfl)
  try simp only [Act.put, yA, yB, yC, yD, yE, yF]
  refine wpAnyE_takeL (i := 4) (c := 9) (v := ?v4_1) rfl (by kernel_rfl) (fun _ _ _ h => h) ⟨by rfl, ?y4_1⟩ (by assumption) ?r4_1
  case y4_1 => (intro w hSw; go_split_ands; go_simp; try with_reducible rfl)
  try simp only [Act.put, yA, yB, yC, yD, yE, yF]
  refine wpAnyE_takeP (i := 5) (v := ?v5_1) rfl (by kernel_rfl) (fun _ _ _ h => h) ⟨by rfl, ?y5_1⟩ (by assumption) ?r5_1
  case y5_1 => (intro w; go_simp; try with_reducible rfl)
  try simp only [Act.put, yA, yB, yC, yD, yE, yF]
  refine wpAnyE_takeP (i := 6) (v := ?v6_1) rfl (by kernel_rfl) (fun _ _ _ h => h) ⟨by rfl, ?y6_1⟩ (by assumption) ?r6_1
  case y6_1 => (intro w; go_simp; try with_reducible rfl)
  try simp only [Act.put, yA, yB, yC, yD, yE, yF]
  refine wpAnyE_takeP (i := 7) (v := ?v7_1) rfl (by kernel_rfl) (fun _ _ _ h => h) ⟨by rfl, ?y7_1⟩ (by assumption) ?r7_1
  case y7_1 => (intro w; go_simp; try with_reducible rfl)
  try simp only [Act.put, yA, yB, yC, yD, yE, yF]
  refine wpAnyE_takeL (i := 8) (c := 9) (v := ?v8_1) rfl (by kernel_rfl) (fun _ _ _ h => h) ⟨by rfl, ?y8_1⟩ (by assumption) ?r8_1
  case y8_1 => (intro w hSw; go_split_ands; go_simp; try with_reducible rfl)
  try simp only [Act.put, yA, yB, yC, yD, yE, yF]
  refine wpAnyE_one (i := 9) rfl (by kernel_rfl) (fun K hK => ?_)
  go_simp
  refine H_hc.out.mono ?_; rintro e w1 ⟨rv, rfl, hop⟩; have hop := hop.of_drew; obtain ⟨ra, rc, rfl⟩ := hop.nat.form; have kz := (H_hz.out.str.keep hop.keep H_nz.out).c1; have kx := (H_hx.out.str.keep hop.keep H_nx.out).c1; have kf := (H_hz.out.str.keep hop.keep H_nz.out).f1; have kx0 := (H_hx.out.str.keep hop.keep H_nx.out).c0; have kf0 := (H_hz.out.str.keep hop.keep H_nz.out).f0; have kz0 := (H_hz.out.str.keep hop.keep H_nz.out).c0; rw [Nat.zero_add] at kz kx kf; have H_hop := Lib.hid hop; clear hop
  go_wp2_with (fail)
  have hHeldB : ((fun (w' : World) => w'.cell? ⟨bz, 1, none⟩ = some vz ∧ w'.cell? ⟨bx, 1, none⟩ = some vx)) _ := ⟨kz, kx⟩
  refine hK.out _ _ (fun _ => hHeldB) ?_
  clear hK K
  try simp only [Act.put, yA, yB, yC, yD, yE, yF]
  refine wpAnyE_takeP (i := 10) (v := ?v10_1) rfl (by kernel_rfl) (fun _ _ _ h => h) ⟨by rfl, ?y10_1⟩ (by assumption) ?r10_1
  case y10_1 => (intro w; go_simp; try with_reducible rfl)
  try simp only [Act.put, yA, yB, yC, yD, yE, yF]
  refine wpAnyE_takeP (i := 11) (v := ?v11_1) rfl (by kernel_rfl) (fun _ _ _ h => h) ⟨by rfl, ?y11_1⟩ (by assumption) ?r11_1
  case y11_1 => (intro w; go_simp; try with_reducible rfl)
  try simp only [Act.put, yA, yB, yC, yD, yE, yF]
  refine wpAnyE_one (i := 12) rfl (by kernel_rfl) (fun K hK => ?_)
  go_simp
  refine hK.out _ _ (fun h => Bool.noConfusion (show true = false from h)) ?_
  clear hK K
  try simp only [Act.put, yA, yB, yC, yD, yE, yF]
  refine wpAnyE_done (by kernel_rfl) ?_ _
  clear hHeldB
  have kx0' : (w1.setCell ⟨bz, 1, none⟩ (.slice ra lx.length rc)).cell? ⟨bx, 0, none⟩ = some (.bool false) := (cell?_setCell_ne (.inr (by simp))).trans kx0
  have kz0' : (w1.setCell ⟨bz, 1, none⟩ (.slice ra lx.length rc)).cell? ⟨bz, 0, none⟩ = some (.bool false) := (cell?_setCell_ne (.inr (by simp))).trans kz0
  have kf0' : (w1.setCell ⟨bz, 1, none⟩ (.slice ra lx.length rc)).frozen? ⟨bz, 0, none⟩ = false := (frozen?_setCell' _ _ _ _).trans kf0
  clear cz1 cx1 kz kx kf kx0 kf0 kz0
  go_wp2_with (fail)
  go_ret
  exact ⟨rfl, IntIs.made H_hz.out.str H_hz.out.nat H_hop.out H_hx.out.norm false (fun _ => rfl) (val lx : Int) (by simp [ival]) rfl⟩

end Go.Proofs.YtjjolcjeiogdmabGreatDoor
