/- The contracts of the reference: natShort, Trim. -/
import Derived.Test.YthemaneoighaoaaGreatDoorPrec
namespace Go.Proofs.YthemaneoighaoaaGreatDoor
open Go.RowKit

/-- one step of a short division -/
theorem short_step {b Q r S x : Nat} (h : S = b * Q + r) :
    x + 1000000000 * S = b * (((r * 1000000000 + x) / b) + 1000000000 * Q) + (r * 1000000000 + x) % b := by
  have h1 := Nat.div_add_mod (r * 1000000000 + x) b
  generalize (r * 1000000000 + x) / b = d at *
  generalize (r * 1000000000 + x) % b = m at *
  subst h
  grind

theorem short_lim {b r x : Nat} (hb : 0 < b) (hr : r < b) (hx : x < 1000000000) : (r * 1000000000 + x) / b < 1000000000 := by
  rw [Nat.div_lt_iff_lt_mul hb]
  have : (r + 1) * 1000000000 ≤ b * 1000000000 := Nat.mul_le_mul_right _ hr
  omega

theorem short_room {b r x : Nat} (hb : b ≤ 1000000000) (hr : r < b) (hx : x < 1000000000) : r * 1000000000 + x < 1000000000000000000 := by
  have : r * 1000000000 ≤ 999999999 * 1000000000 := Nat.mul_le_mul_right _ (by omega)
  omega

theorem rep_set_cons (q x : Nat) (Q : List Nat) : (List.replicate (q + 1) 0 ++ Q).set q x = List.replicate q 0 ++ x :: Q := by
  rw [List.set_append_left _ _ (by simp), rep_set, List.append_assoc]; rfl

theorem drop_cons_getD {l : List Nat} {k : Nat} (h : k < l.length) : l.drop k = l.getD k 0 :: l.drop (k + 1) := by
  rw [List.drop_eq_getElem_cons h]; simp [List.getD, h]

set_option maxRecDepth 20000 in
set_option maxHeartbeats 1000000 in
theorem natShort_any (v : Value) (l : List Nat) (b : Nat) (w : World) (h : SNat w v l) (hlen : l.length ≤ 1000000) (hb0 : 0 < b) (hb : b ≤ 1000000000) :
    Calls Tryz.prog 45 #[v, .int .u32 b] w (fun e w' => ∃ q m, e = .returned (.tuple #[q, .int .u32 (sval l % b : Nat)]) ∧ SNat w' q m ∧ Norm m ∧ sval m = sval l / b ∧ Fresh w w') := by
  obtain ⟨a, c, rfl⟩ := h.form
  obtain ⟨n, hn⟩ : ∃ n, n = l.length := ⟨_, rfl⟩
  rw [← hn] at h hlen ⊢
  obtain ⟨o, ho, mk⟩ := make_u32 n w (by omega)
  have t0 : ((b : Int) == 0) = false := by rw [beq_eq_false_iff_ne]; omega
  have H_h := Lib.hid h; clear h
  have H_hn := Lib.hid hn; clear hn
  go_enter Tryz.func45, Tryz.ntmps45
  go_wp2_with (fail)
  go_loopw [7, 8] (fun rv i wr => ∃ (k r : Nat) (Q : List Nat), k ≤ n ∧ i = .int .i64 ((k : Int) - 1) ∧ rv = .int .u64 r ∧ r < b ∧ Hid (Q.length = n - k) ∧ Hid (Lim Q) ∧ Hid (sval (l.drop k) = b * sval Q + r) ∧ Hid (Blk .u32 wr w.heap.size (List.replicate k 0 ++ Q)) ∧ Hid (Fresh w wr)) (fun _ i _ => (intOf i + 1).toNat)
  case atStart =>
    refine ⟨n, 0, [], Nat.le_refl _, rfl, rfl, hb0, Lib.hid (by simp), Lim.nil, Lib.hid (by rw [List.drop_of_length_le (by have := H_hn.out; omega)]; simp [sval]), Lib.hid (by rw [List.append_nil]; exact ho.out), (Keep.refl _ _).alloc o⟩
  case round =>
    obtain ⟨k, r, Q, hk, rfl, rfl, hr, hQl, hQlim, hQv, hblk, hfr⟩ := hrel
    by_cases hk0 : k = 0
    · subst hk0
      have e0 : List.replicate 0 0 ++ Q = Q := by simp
      have hbk := hblk.out
      rw [e0] at hbk
      have hs := SNat.of_blk hbk hQlim.out (by have := hQl.out; omega)
      rw [show Q.length = n by have := hQl.out; omega] at hs
      have hcall := natTrim_any _ _ _ hs
      have hv : sval l = b * sval Q + r := by have := hQv.out; simpa using this
      have H_hcall := Lib.hid hcall; clear hcall
      have H_hv := Lib.hid hv; clear hv
      clear hbk hs e0
      go_wp2_with (fail)
      refine H_hcall.out.mono ?_
      rintro e w2 ⟨v, m, rfl, h1, h2, h3, h4⟩
      have H_h1 := Lib.hid h1; clear h1
      have H_h2 := Lib.hid h2; clear h2
      have H_h3 := Lib.hid h3; clear h3
      have H_h4 := Lib.hid h4; clear h4
      go_wp2_with (fail)
      go_ret2
      have h5 := H_hv.out
      have h6 : sval l / b = sval Q ∧ sval l % b = r := by
        rw [h5]
        exact ⟨by rw [Nat.mul_add_div hb0, Nat.div_eq_of_lt hr, Nat.add_zero], by rw [Nat.mul_add_mod, Nat.mod_eq_of_lt hr]⟩
      exact ⟨v, m, by rw [h6.2]; rfl, H_h1.out, H_h2.out, by rw [H_h3.out, h6.1], hfr.out.trans H_h4.out (fun _ _ h => h) (fun _ _ h => h)⟩
    · obtain ⟨j, rfl⟩ : ∃ j, k = j + 1 := ⟨k - 1, by omega⟩
      obtain ⟨gx, rfl, hcx, hgx, hcells⟩ := (H_h.out.fresh hfr.out).cells H_hn.out (by omega)
      have hxj := hcells j (by omega)
      have hxlim := H_h.out.lim.getD j
      obtain ⟨x, hxx⟩ : ∃ x, x = l.getD j 0 := ⟨_, rfl⟩
      rw [← hxx] at hxj hxlim
      have b1 := short_lim hb0 hr hxlim
      have b2 := short_room hb hr hxlim
      have hL : (List.replicate (j + 1) 0 ++ Q).length = n := by have := hQl.out; simp; omega
      have hcell := hblk.out.cell (o := j) (by rw [hL]; omega)
      have hfroz := hblk.out.frozen j
      generalize (List.replicate (j + 1) 0 ++ Q).getD j 0 = z9 at hcell
      have hset := hblk.out.set j ((r * 1000000000 + x) / b)
      rw [rep_set_cons] at hset
      have hstep := short_step (b := b) (x := x) hQv.out
      have hv' : sval (l.drop j) = x + 1000000000 * sval (l.drop (j + 1)) := by rw [drop_cons_getD (by have := H_hn.out; omega), ← hxx]; rfl
      rw [← hv'] at hstep
      have hm : (r * 1000000000 + x) % b < b := Nat.mod_lt _ hb0
      have hcast : (r : Int) * 1000000000 + (x : Int) = ((r * 1000000000 + x : Nat) : Int) := by omega
      have hq2 : Int.tdiv ((r : Int) * 1000000000 + (x : Int)) (b : Int) = (((r * 1000000000 + x) / b : Nat) : Int) := by rw [hcast, Int.tdiv_eq_ediv_of_nonneg (by omega)]; rfl
      have hr2 : Int.tmod ((r : Int) * 1000000000 + (x : Int)) (b : Int) = (((r * 1000000000 + x) % b : Nat) : Int) := by rw [hcast, Int.tmod_eq_emod_of_nonneg (by omega)]; rfl
      generalize (r * 1000000000 + x) / b = q1 at *
      generalize (r * 1000000000 + x) % b = r1 at *
      have H_hcells := Lib.hid hcells; clear hcells
      have H_hxx := Lib.hid hxx; clear hxx
      have H_hL := Lib.hid hL; clear hL
      have H_hv' := Lib.hid hv'; clear hv'
      have H_hset := Lib.hid hset; clear hset
      have H_hstep := Lib.hid hstep; clear hstep
      clear hcast
      go_wp2_with (fail)
      go_roundw
      case rel =>
        refine ⟨j, r1, q1 :: Q, by omega, rfl, rfl, hm, Lib.hid (by have := hQl.out; simp; omega), ?_, H_hstep, H_hset, Lib.hid (hfr.out.setCell (fun h => absurd h (Nat.lt_irrefl _)) _)⟩
        intro z hz
        rcases List.mem_cons.1 hz with h1 | h1
        · omega
        · exact hQlim.out z h1
      case measure => simp [intOf]

end Go.Proofs.YthemaneoighaoaaGreatDoor
