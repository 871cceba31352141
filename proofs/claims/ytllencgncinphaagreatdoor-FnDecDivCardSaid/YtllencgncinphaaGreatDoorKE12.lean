/- A region that draws its order, of which m operations may come up in many orders (allocations among them): shown by one condition on what is listed, on the slots that they fill and on the world. -/
import Derived.Laws.BytesArg
import Derived.Test.YtllencgncinphaaGreatDoorKE8
import Derived.Test.YtllencgncinphaaGreatDoorKE9
import Derived.Test.YtllencgncinphaaGreatDoorKE10
import Derived.Test.YtllencgncinphaaGreatDoorKE11
namespace Go.Proofs.YtllencgncinphaaGreatDoor
open Go.RowKit
open Go.Lib (hid)
set_option maxRecDepth 20000
set_option maxHeartbeats 4000000

theorem rsn {w : World} {g h i : Nat} {o : Option Obj} {v : Value} (hne : g ≠ h) (k : w.heap[h]? = o) : (w.setCell ⟨g, i, none⟩ v).heap[h]? = o := by
 simp only [World.setCell, Array.getElem?_modify]
 rw [if_neg hne]; exact k

theorem row3 {w : World} {g : Nat} {a b c x y z : Value} {T : TypeId} (h : w.heap[g]? = some (.cells #[a, b, c] T (0, 0))) :
 (((w.setCell ⟨g, 0, none⟩ x).setCell ⟨g, 1, none⟩ y).setCell ⟨g, 2, none⟩ z).heap[g]? = some (.cells #[x, y, z] T (0, 0)) := rst (rst (rst h))

theorem row3_ne {w : World} {g h : Nat} {x y z : Value} {o : Option Obj} (hne : g ≠ h) (k : w.heap[h]? = o) :
 (((w.setCell ⟨g, 0, none⟩ x).setCell ⟨g, 1, none⟩ y).setCell ⟨g, 2, none⟩ z).heap[h]? = o := rsn hne (rsn hne (rsn hne k))

theorem lt_of_row {w : World} {g : Nat} {o : Obj} (h : w.heap[g]? = some o) : g < w.heap.size := by
 rcases Nat.lt_or_ge g w.heap.size with hlt | hge
 · exact hlt
 · rw [Array.getElem?_eq_none hge] at h; cases h

theorem SFr.set3 {w : World} {g : Nat} {x u : Value} {z : Int} {d : Nat} (h : SFr w x z d) (hc : w.cell? ⟨g, 0, none⟩ = some u) (hu : ∀ n, u ≠ wd .u32 n) (v1 v2 v3 : Value) :
 SFr (((w.setCell ⟨g, 0, none⟩ v1).setCell ⟨g, 1, none⟩ v2).setCell ⟨g, 2, none⟩ v3) x z d := by
 obtain ⟨neg, v, l, dv, dl, h1, h2, h3, h4, h5, h6, h7⟩ := h
 have o1 := h2.off hc hu
 have o2 := h6.off hc hu
 exact ⟨neg, v, l, dv, dl, h1, ((h2.setOff o1).setOff o1).setOff o1, h3, h4, h5, ((h6.setOff o2).setOff o2).setOff o2, h7⟩

section
variable {P : Program} {ops : Array Oper} {Q : Exit → Act → World → Prop} {md : Region.Mode}

end

def fitKeep (B : List Nat) (c : Nat) : Bool := decide (48 ≤ c) && decide (c ≤ 57) && (decide (0 < B.length) || !decide (c = 48))

theorem fitKeep_isD {B : List Nat} {c : Nat} (h : fitKeep B c = true) (hB : IsD B) : IsD (B ++ [c]) := by
 unfold fitKeep at h
 simp only [Bool.and_eq_true, decide_eq_true_eq] at h
 exact hB.append (IsD.one h.1.1 h.1.2)

theorem fitKeep_head {B : List Nat} {c : Nat} (h : fitKeep B c = true) (hB : B.getD 0 0 ≠ 48) : (B ++ [c]).getD 0 0 ≠ 48 := by
 unfold fitKeep at h
 simp only [Bool.and_eq_true, Bool.or_eq_true, decide_eq_true_eq, Bool.not_eq_true', decide_eq_false_iff_not] at h
 cases B with
 | nil => simp at h; simpa [List.getD] using h.2
 | cons b B => simpa [List.getD] using hB

theorem tmod_b (ex : Int) (m : Nat) : -(m : Int) ≤ Int.tmod ex ((m : Int) + 1) ∧ Int.tmod ex ((m : Int) + 1) ≤ m := by
 have h := Int.natAbs_tmod ex ((m : Int) + 1)
 have h2 := Nat.mod_lt ex.natAbs (show 0 < ((m : Int) + 1).natAbs by omega)
 rw [← h] at h2
 omega

theorem NumRow.text {w : World} {base : Nat} {T : TypeId} {v : Value} {l : List Nat} (h : NumRow .u8 w base T v l) (hl : ∀ x ∈ l, x < 256) :
 (Go.convert 87 9 v).run Tryz.prog w = .ok (.string (bstr l)) w := by
 rcases Nat.eq_zero_or_pos l.length with h0 | h0
 · obtain rfl := List.eq_nil_of_length_eq_zero h0
   rcases h with ⟨rfl, _⟩ | ⟨g, cap, L, rfl, h1, h2, h3, h4, h5, h6, _⟩
   · exact run_convert_bytes_nil w 87 5 Tryz.underlying87 Tryz.underlying5 0 0 9 Tryz.underlying9
   · have := run_convert_bytes_back (P := Tryz.prog) w 87 9 5 ⟨g, 0, none⟩ cap [] Tryz.underlying87 Tryz.underlying5 Tryz.underlying9 (fun j hj => by simp at hj)
     exact this
 · obtain ⟨g, cap, L, rfl, h1, h2, h3, h4, h5, h6⟩ := h.pos h0
   have hby : SBy w g l := by
    obtain ⟨T', h2⟩ := h2
    refine ⟨hl, _, T', h2, by simp; omega, ?_⟩
    simp only []
    rw [← List.map_take, h6]
   exact hby.btext cap

theorem DecFit_any (S : List Nat) (ex : Int) (p m : Nat) (w : World) (hS : ∀ c ∈ S, c < 256) (hlen : S.length ≤ 2147483647) (hp : p ≤ 1000) (hm : m ≤ 1000) (_hex : -9223372036854775808 ≤ ex ∧ ex ≤ 9223372036854775807) :
 Calls Tryz.prog 39 #[.agg #[.string (bstr S), .int .i64 ex], .int .i64 p, .int .i64 m] w (fun e w' => ∃ z x : Int, e = .returned (.agg #[.string (bstr (wdig z)), .int .i64 x]) ∧ z.natAbs < 10 ^ p ∧ -(m : Int) ≤ x ∧ x ≤ m ∧ Fresh w w') := by
 obtain ⟨i0, hi, hz0, hz1, hz2⟩ := info_parts info_u8
 obtain ⟨n, hn⟩ : ∃ n, n = S.length := ⟨_, rfl⟩
 obtain ⟨s, hs⟩ : ∃ s, s = bstr S := ⟨_, rfl⟩
 have hsz : s.size = n := by rw [hs, bstr_size, hn]
 have hget : ∀ i, ∀ h : i < s.size, (s[i]'h).toNat = S.getD i 0 := by subst hs; exact fun i h => bstr_at hS i h
 obtain ⟨g, hg⟩ : ∃ g, g = w.heap.size := ⟨_, rfl⟩
 rw [← hn] at hlen
 rw [← hs]
 have bx := boxes2 w #[.string s, .int .i64 ex] #[.string ⟨#[]⟩, .int .i64 0] 23 23 g hg
 have H_hn := hid hn; have H_hs := hid hs; have H_hS := hid hS; have H_hget := hid hget; have H_bx := hid bx; clear hn hs hS hget bx
 go_enter Tryz.func39, Tryz.ntmps39
 go_wp2_with (fail)
 generalize hw1 : (w.alloc _).alloc _ = w1
 rw [← hg]
 obtain ⟨b1, b2, hf⟩ := H_bx.out w1 hw1
 have H_b1 := hid b1; have H_b2 := hid b2; have H_hf := hid hf; have H_hw1 := hid hw1; have H_hg := hid hg; clear b1 b2 hf hw1 hg
 go_loopw [7, 8] (fun o iv wr => ∃ (i : Nat) (B : List Nat), iv = .int .i64 i ∧ i ≤ n ∧ NumRow .u8 wr w1.heap.size 5 o B ∧ Hid (IsD B) ∧ Hid (B.getD 0 0 ≠ 48) ∧ Hid (B.length ≤ p) ∧ Hid (B.length ≤ i) ∧ Hid (Fresh w1 wr)) (fun _ iv _ => n - (intOf iv).toNat)
 case atStart => exact ⟨0, [], rfl, by omega, NumRow.nil _ _ _ _, hid IsD.nil, hid (by simp [List.getD]), hid (by simp), hid (by simp), Keep.refl _ _⟩
 case round =>
  obtain ⟨i, B, rfl, hin, hown, hB, hhead, hBp, hBi, hfr⟩ := hrel
  have H_hown := hid hown
  clear hown
  have d1 := rfr H_b1.out hfr.out
  have k0 := rwc d1 0
  have k1 := rwc d1 1
  simp at k0 k1
  have hBp' := hBp.out
  have hBi' := hBi.out
  obtain ⟨ao, co, rfl⟩ := H_hown.out.form
  have hsz1 := hfr.out.size
  by_cases hgo : i < n ∧ B.length < p
  · obtain ⟨hi1, hi2⟩ := hgo
    obtain ⟨c, hc⟩ : ∃ c, c = S.getD i 0 := ⟨_, rfl⟩
    have hgi : ∀ h : i < s.size, (s[i]'h).toNat = c := fun h => by rw [H_hget.out i h, hc]
    have hcb : c < 256 := by
     rw [hc]
     have hiS : i < S.length := by have := H_hn.out; omega
     rw [show S.getD i 0 = S[i] by simp [List.getD, hiS]]
     exact H_hS.out _ (List.getElem_mem hiS)
    have t1 : decide ((i : Int) < (n : Int)) = true := by simp; omega
    have t2 : decide ((B.length : Int) < (p : Int)) = true := by simp; omega
    by_cases hk : fitKeep B c = true
    · have hkd := fitKeep_isD hk hB.out
      have hkh := fitKeep_head hk hhead.out
      unfold fitKeep at hk
      simp only [Bool.and_eq_true, Bool.or_eq_true, decide_eq_true_eq, Bool.not_eq_true', decide_eq_false_iff_not] at hk
      obtain ⟨⟨hk1, hk2⟩, hk3⟩ := hk
      have t3 : decide ((48 : Int) ≤ (c : Int)) = true := by simp; omega
      have t4 : decide ((c : Int) ≤ 57) = true := by simp; omega
      have hown := H_hown.out
      generalize hBL : B.length = bl at *
      have htests : (0 < bl ∧ decide ((0 : Int) < (bl : Int)) = true ∧ decide (0 < bl) = true) ∨ (¬ 0 < bl ∧ decide ((0 : Int) < (bl : Int)) = false ∧ decide (0 < bl) = false ∧ ¬ c = 48 ∧ ((c : Int) == 48) = false) := by
       by_cases hbl : 0 < bl
       · exact .inl ⟨hbl, by simp; omega, by simp; omega⟩
       · refine .inr ⟨hbl, by simp; omega, by simp; omega, ?_, ?_⟩
         · rcases hk3 with h | h
           · omega
           · exact h
         · rw [beq_eq_false_iff_ne]
           rcases hk3 with h | h
           · omega
           · omega
      clear hk3
      have H_hkd := hid hkd; have H_hkh := hid hkh; have H_hc := hid hc; have H_hBL := hid hBL; clear hkd hkh hc hBL
      rcases htests with ⟨u1, u2, u3⟩ | ⟨u1, u2, u3, u4, u5⟩
      all_goals
       go_wp2_with (at_builtin; refine wpList_append_num _ rfl _ _ 87 rfl .u8 w1.heap.size 5 i0 1 Tryz.underlying87 hi hz0 hz1 hz2 _ B rfl (hown.alloc _) ⟨wr.heap.size, 0, none⟩ 1 1 [c] rfl rfl (by omega) ?c1 ?c2 ?c3 ?c4 ?_)
       case c1 =>
        intro j u hj
        match j, hj with
        | 0, hj => simp at hj; subst hj; simp [Addr.add, wd]
       case c2 => unfold maxLen; have := H_hBL.out; omega
       case c3 => have := H_hBL.out; omega
       case c4 => simp; omega
       intro v' w3 hown' hgrow _
       have hf3 : Fresh w1 w3 := Fresh.num (hfr.out.alloc _) (hown.alloc _) (Nat.le_refl _) hgrow
       have H_hown' := hid hown'; have H_hf3 := hid hf3; clear hown' hf3
       clear hgrow hown
       go_wp2_with (fail)
       go_roundw
       case rel => exact ⟨i + 1, B ++ [c], by simp, by omega, H_hown'.out, H_hkd, H_hkh, hid (by simp; have := H_hBL.out; omega), hid (by simp; have := H_hBL.out; omega), H_hf3⟩
       case measure => simp [intOf]; omega
    · have hkf : fitKeep B c = false := by simpa using hk
      have hmeas : n - (intOf (.int .i64 ((i : Int) + 1))).toNat < n - (intOf (.int .i64 (i : Int))).toNat := by simp [intOf]; omega
      have hrel : ∃ (i' : Nat) (B' : List Nat), Value.int .i64 ((i : Int) + 1) = .int .i64 i' ∧ i' ≤ n ∧ NumRow .u8 wr w1.heap.size 5 (.slice ao B.length co) B' ∧ Hid (IsD B') ∧ Hid (B'.getD 0 0 ≠ 48) ∧ Hid (B'.length ≤ p) ∧ Hid (B'.length ≤ i') ∧ Hid (Fresh w1 wr) :=
       ⟨i + 1, B, by simp, by omega, H_hown.out, hB, hhead, hBp, hid (by omega), hfr⟩
      unfold fitKeep at hkf
      generalize hBL : B.length = bl at *
      have htests : (decide ((48 : Int) ≤ (c : Int)) = false ∧ decide (48 ≤ c) = false ∧ ¬ 48 ≤ c) ∨ (decide ((48 : Int) ≤ (c : Int)) = true ∧ decide (48 ≤ c) = true ∧ decide ((c : Int) ≤ 57) = false ∧ decide (c ≤ 57) = false ∧ 48 ≤ c ∧ ¬ c ≤ 57) ∨
       (c = 48 ∧ bl = 0) := by
       by_cases h1 : 48 ≤ c
       · by_cases h2 : c ≤ 57
         · rw [decide_eq_true h1, decide_eq_true h2] at hkf
           simp at hkf
           exact .inr (.inr ⟨hkf.2, by omega⟩)
         · exact .inr (.inl ⟨by simp; omega, by simp; omega, by simp; omega, by simp; omega, h1, h2⟩)
       · exact .inl ⟨by simp; omega, by simp; omega, h1⟩
      clear hkf hk
      have H_hrel := hid hrel; have H_hmeas := hid hmeas; have H_hc := hid hc; have H_hBL := hid hBL; clear hrel hmeas hc hBL
      rcases htests with ⟨u1, u2, u3⟩ | ⟨u1, u2, u3, u4, u5, u6⟩ | ⟨rfl, rfl⟩
      all_goals
       go_wp2_with (fail)
       go_roundw
       case rel => exact H_hrel.out
       case measure => exact H_hmeas.out
  · have htests : (¬ i < n ∧ decide ((i : Int) < (n : Int)) = false ∧ decide (i < n) = false) ∨ (i < n ∧ decide ((i : Int) < (n : Int)) = true ∧ decide (i < n) = true ∧ decide ((B.length : Int) < (p : Int)) = false ∧ decide (B.length < p) = false) := by
     by_cases h1 : i < n
     · exact .inr ⟨h1, by simp; omega, by simp; omega, by simp; omega, by simp; omega⟩
     · exact .inl ⟨h1, by simp; omega, by simp; omega⟩
    obtain ⟨t, ht⟩ : ∃ t, t = bstr B := ⟨_, rfl⟩
    have hconv := fun W (hW : ∀ g', (Value.slice ao B.length co).ownBlock = some g' → W.heap[g']? = wr.heap[g']?) => (H_hown.out.of_block (w' := W) hW).text hB.out.byte
    rw [← ht] at hconv
    have hcv0 := hconv wr.drew (fun _ _ => rfl)
    have hcv1 := fun o => hconv (wr.alloc o).drew (fun g' hg' => heap_alloc_old wr o (H_hown.out.lt g' hg').2)
    have k0a := fun o => cfr k0 ((Keep.refl (fun _ => False) wr).alloc o)
    have k1a := fun o => cfr k1 ((Keep.refl (fun _ => False) wr).alloc o)
    obtain ⟨q, hq⟩ : ∃ q : Int, q = Int.tmod ex ((m : Int) + 1) := ⟨_, rfl⟩
    generalize hBL : B.length = bl at *
    have H_ht := hid ht; have H_hBL := hid hBL; have H_hq := hid hq; have H_hconv := hid hconv; clear ht hBL hq hconv
    rcases htests with ⟨u1, u2, u3⟩ | ⟨u1, u2, u3, u4, u5⟩
    all_goals
     go_wp2_with (fail)
     go_region
     generalize hw4 : (wr.alloc _).drew = w4
     obtain ⟨h, hh⟩ : ∃ h, h = wr.heap.size := ⟨_, rfl⟩
     have r4 : w4.heap[h]? = some (.cells #[.string t, .int .i64 q] 23 (0, 0)) := by rw [← hw4, hh, H_hq.out]; exact heap_alloc_new wr _
     have f4 : Fresh wr w4 := by rw [← hw4]; exact ((Keep.refl _ _).alloc _).drew
     rw [← hh]
     have hgh : g + 1 < h := by have h1 := H_b2.out; have h2 := lt_of_row h1; omega
     clear hcv0 hcv1 k0 k1 k0a k1a d1
     have d1 := rfr (rfr H_b1.out hfr.out) f4
     have d2 := rfr (rfr H_b2.out hfr.out) f4
     have k0 := rwc d1 0
     have k1 := rwc d1 1
     have e0 := rwc r4 0
     have e1 := rwc r4 1
     have n0 := rwc d2 0
     have n1 := rwc d2 1
     simp at k0 k1 e0 e1 n0 n1
     have z0 : w4.frozen? ⟨h, 0, none⟩ = false := frozen_of_row _ _ _ _ _ r4
     have z1 : w4.frozen? ⟨g + 1, 0, none⟩ = false := frozen_of_row _ _ _ _ _ d2
     have z2 : w4.frozen? ⟨g + 1, 1, none⟩ = false := frozen_of_row _ _ _ _ _ d2
     have H_hw4 := hid hw4; have H_hh := hid hh; have H_r4 := hid r4; have H_f4 := hid f4; have H_d1 := hid d1; have H_d2 := hid d2; clear hw4 hh r4 f4 d1 d2
     have hbn : bl ≤ n := by have := hBi.out; have := H_hBL.out; omega
     obtain ⟨c0, hc0⟩ : ∃ c, c = S.getD 0 0 := ⟨_, rfl⟩
     have hg0 : ∀ h : 0 < s.size, (s[0]'h).toNat = c0 := fun h => by rw [H_hget.out 0 h, hc0]
     have htest : (bl = 0) ∨ (0 < bl ∧ c0 = 45) ∨ (0 < bl ∧ ¬ c0 = 45) := by omega
     have hsz1 : (⟨#[45]⟩ : ByteArray).size = 1 := rfl
     have htsz : t.size ≤ 1000 := by rw [H_ht.out, bstr_size]; have := hBp.out; have := H_hBL.out; omega
     have hsum : ¬ (1 + t.size > 9223372036854775807) := by omega
     have hgne : h ≠ g + 1 := by omega
     have n0s : ∀ u, (w4.setCell ⟨h, 0, none⟩ u).cell? ⟨g + 1, 0, none⟩ = some (.string ⟨#[]⟩) := fun u => (cell?_setCell_ne (.inl (show g + 1 ≠ h by omega))).trans n0
     have n1s : ∀ u, (w4.setCell ⟨h, 0, none⟩ u).cell? ⟨g + 1, 1, none⟩ = some (.int .i64 0) := fun u => (cell?_setCell_ne (.inl (show g + 1 ≠ h by omega))).trans n1
     have H_hc0 := hid hc0; have H_hgh := hid hgh; have H_hgne := hid hgne; clear hc0 hgh hgne
     clear H_hget
     rcases htest with hbl0 | ⟨hbl, hc45⟩ | ⟨hbl, hc45⟩
     · subst hbl0
       clear hsz1 htsz hsum hg0
       go_wp2_with (fail)
       refine bodyPost_ret (results_cell_row rfl _ _ (g + 1) 23 #[.string ⟨#[48]⟩, .int .i64 q] (0, 0) _ rfl (rst (rst ((row_far H_hgne.out).trans H_d2.out))) Tryz.underlying23 rfl (by kernel_rfl)) rfl ?_
       refine ⟨0, q, by rfl, by simp; exact Nat.pow_pos (by omega), ?_, ?_, ?_⟩
       · rw [H_hq.out]; exact (tmod_b ex m).1
       · rw [H_hq.out]; exact (tmod_b ex m).2
       · have hgw := H_hg.out
         have hhw := H_hh.out
         have hwr := hfr.out.size
         have hw1s := H_hf.out.size
         have fa : Fresh w w4 := ftr H_hf.out (ftr hfr.out H_f4.out)
         exact (((fa.setCell (p := ⟨h, 0, none⟩) (fun hx => by change h < w.heap.size at hx; omega) _).setCell (p := ⟨g + 1, 0, none⟩) (fun hx => by change g + 1 < w.heap.size at hx; omega) _).setCell (p := ⟨g + 1, 1, none⟩) (fun hx => by change g + 1 < w.heap.size at hx; omega) _)
     · have hn0 : 0 < n := by omega
       have v1 : ((bl : Int) == 0) = false := by rw [beq_eq_false_iff_ne]; omega
       have v2 : ¬ bl = 0 := by omega
       obtain ⟨z, hz, hzl⟩ := fit_text hB.out hhead.out true p (by have := H_hBL.out; have := hBp.out; omega) (by have := H_hBL.out; omega)
       have hres : (⟨#[45]⟩ : ByteArray) ++ t = bstr (wdig z) := by rw [H_ht.out, ← hz, show (⟨#[45]⟩ : ByteArray) = bstr [45] from rfl, bstr_append]; rfl
       subst hc45
       have H_hz := hid hz; have H_hzl := hid hzl; have H_hres := hid hres; clear hz hzl hres
       go_wp2_with (fail)
       refine bodyPost_ret (results_cell_row rfl _ _ (g + 1) 23 #[.string ((⟨#[45]⟩ : ByteArray) ++ t), .int .i64 q] (0, 0) _ rfl (rst (rst ((row_far H_hgne.out).trans H_d2.out))) Tryz.underlying23 rfl (by kernel_rfl)) rfl ?_
       refine ⟨z, q, by rw [H_hres.out], H_hzl.out, ?_, ?_, ?_⟩
       · rw [H_hq.out]; exact (tmod_b ex m).1
       · rw [H_hq.out]; exact (tmod_b ex m).2
       · have hgw := H_hg.out
         have hhw := H_hh.out
         have hwr := hfr.out.size
         have hw1s := H_hf.out.size
         have fa : Fresh w w4 := ftr H_hf.out (ftr hfr.out H_f4.out)
         exact (((fa.setCell (p := ⟨h, 0, none⟩) (fun hx => by change h < w.heap.size at hx; omega) _).setCell (p := ⟨g + 1, 0, none⟩) (fun hx => by change g + 1 < w.heap.size at hx; omega) _).setCell (p := ⟨g + 1, 1, none⟩) (fun hx => by change g + 1 < w.heap.size at hx; omega) _)
     · have hn0 : 0 < n := by omega
       have v1 : ((bl : Int) == 0) = false := by rw [beq_eq_false_iff_ne]; omega
       have v2 : ¬ bl = 0 := by omega
       have v3 : ((c0 : Int) == 45) = false := by rw [beq_eq_false_iff_ne]; omega
       obtain ⟨z, hz, hzl⟩ := fit_text hB.out hhead.out false p (by have := H_hBL.out; have := hBp.out; omega) (by have := H_hBL.out; omega)
       have hres : t = bstr (wdig z) := by rw [H_ht.out, ← hz]; rfl
       clear hsz1 htsz hsum
       have H_hz := hid hz; have H_hzl := hid hzl; have H_hres := hid hres; clear hz hzl hres
       go_wp2_with (fail)
       refine bodyPost_ret (results_cell_row rfl _ _ (g + 1) 23 #[.string t, .int .i64 q] (0, 0) _ rfl (rst (rst H_d2.out)) Tryz.underlying23 rfl (by kernel_rfl)) rfl ?_
       refine ⟨z, q, by rw [H_hres.out], H_hzl.out, ?_, ?_, ?_⟩
       · rw [H_hq.out]; exact (tmod_b ex m).1
       · rw [H_hq.out]; exact (tmod_b ex m).2
       · have hgw := H_hg.out
         have hhw := H_hh.out
         have hwr := hfr.out.size
         have hw1s := H_hf.out.size
         have fa : Fresh w w4 := ftr H_hf.out (ftr hfr.out H_f4.out)
         exact ((fa.setCell (p := ⟨g + 1, 0, none⟩) (fun hx => by change g + 1 < w.heap.size at hx; omega) _).setCell (p := ⟨g + 1, 1, none⟩) (fun hx => by change g + 1 < w.heap.size at hx; omega) _)

end Go.Proofs.YtllencgncinphaaGreatDoor
