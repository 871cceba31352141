/- The contracts of the reference's natural numbers: String, to the byte. -/
import Derived.Laws.DeepStrings4
import Derived.Test.YtllencgncinphaaGreatDoorKE7
import Derived.Test.YtllencgncinphaaGreatDoorKE8
import Derived.Test.YtllencgncinphaaGreatDoorKE9
namespace Go.Proofs.YtllencgncinphaaGreatDoor
open Go.RowKit
open Go.Lib (hid)
set_option maxRecDepth 20000
set_option maxHeartbeats 4000000

theorem SBy.btext {w : World} {g : Nat} {L : List Nat} (h : SBy w g L) (cap : Nat) :
 (Go.convert 87 9 (.slice (some ⟨g, 0, none⟩) L.length cap)).run Tryz.prog w = .ok (.string (bstr L)) w := by
 have e : (L.map UInt8.ofNat).length = L.length := by simp
 have := run_convert_bytes_back (P := Tryz.prog) w 87 9 5 ⟨g, 0, none⟩ cap (L.map UInt8.ofNat) Tryz.underlying87 Tryz.underlying5 Tryz.underlying9 (fun j hj => by
  have hj' : j < L.length := by simpa using hj
  have h1 := h.cell hj'
  have h2 : L.getD j 0 = L[j] := by simp [List.getD, hj']
  have h3 := h.1 _ (List.getElem_mem hj')
  rw [h2] at h1
  have h4 : ((⟨g, 0, none⟩ : Addr).add j) = ⟨g, j, none⟩ := by simp [Addr.add]; intro h; simp [h]
  rw [h4, h1]
  simp [wd, UInt8.toNat_ofNat', Nat.mod_eq_of_lt h3])
 rw [e] at this
 exact this

theorem txb_step {M l : List Nat} {k x j : Nat} (h : dval M = sval (l.take k) + spow k * (x % 10 ^ j)) (hl : M.length = 9 * k + j) :
 dval (M ++ [48 + x / 10 ^ j % 10]) = sval (l.take k) + spow k * (x % 10 ^ (j + 1)) := by
 rw [dval_append, h, hl, Nat.pow_add, ← spow_ten, Nat.mod_pow_succ]
 simp only [dval, Nat.add_sub_cancel_left, Nat.mul_zero, Nat.add_zero]
 rw [Nat.mul_add, Nat.mul_assoc, Nat.add_assoc]

theorem NatStr_pos (v : Value) (l : List Nat) (w : World) (h : SNat w v l) (hn : Norm l) (h0 : 0 < l.length) (hlen : l.length ≤ 1000) :
 Calls Tryz.prog 138 #[v] w (fun e w' => e = .returned (.string (bstr (hdig (sval l)))) ∧ Fresh w w') := by
 obtain ⟨i0, hi, hz0, hz1, hz2⟩ := info_parts info_u8
 obtain ⟨a, c, rfl⟩ := h.form
 have hvpos : 0 < sval l := (sval_pos_iff hn).1 h0
 obtain ⟨n, hnn⟩ : ∃ n, n = l.length := ⟨_, rfl⟩
 rw [← hnn] at h h0 hlen ⊢
 have H_h := hid h; have H_hnn := hid hnn; have H_hn := hid hn; have H_hvpos := hid hvpos; clear h hnn hn hvpos
 go_enter Tryz.func138, Tryz.ntmps138
 go_wp2_with (fail)
 go_loopw [3, 11] (fun o i wr => ∃ (k : Nat) (L : List Nat), k ≤ n ∧ i = .int .i64 k ∧ wr.ownsRow w.heap.size 5 1 o L.length (L.map (wd .u8)) ∧ Hid (IsD L) ∧ Hid (dval L = sval (l.take k)) ∧ Hid (k < n → L.length = 9 * k) ∧ Hid (k = n → IsPrec (sval l) L.length) ∧ Hid (L.length ≤ 9 * k) ∧ Hid (Fresh w wr)) (fun _ i _ => n - (intOf i).toNat)
 case atStart => exact ⟨0, [], by omega, rfl, World.ownsRow_nil _ _ _ _, hid IsD.nil, hid (by simp [dval, sval]), hid (fun _ => rfl), hid (fun e => by omega), hid (by simp), Keep.refl _ _⟩
 case round =>
  obtain ⟨k, L, hk, rfl, hown, hlim, hdv, hlen1, hlast, hlen9, hf⟩ := hrel
  have H_hown := hid hown
  clear hown
  by_cases hlt : k < n
  · obtain ⟨gx, rfl, hcx, hgx, hcells⟩ := (H_h.out.fresh hf.out).cells H_hnn.out (by omega)
    have hxk := hcells k hlt
    have hxlim := H_h.out.lim.getD k
    obtain ⟨x, hxx⟩ : ∃ x, x = l.getD k 0 := ⟨_, rfl⟩
    rw [← hxx] at hxk hxlim
    have H_hcells := hid hcells; have H_hxx := hid hxx; clear hcells hxx
    have hlt' : (k : Int) < (n : Int) := by omega
    have t1 : decide ((k : Int) < (n : Int)) = true := by simp; omega
    go_wp2_with (fail)
    go_loopw [3, 5, 6] (fun o xv kv w2 => ∃ (j y : Nat) (M : List Nat), j ≤ 9 ∧ kv = .int .i64 j ∧ xv = .int .u32 y ∧ y < 1000000000 ∧ Hid (w2.ownsRow w.heap.size 5 1 o M.length (M.map (wd .u8))) ∧ Hid (y = x / 10 ^ j) ∧ Hid (IsD M) ∧ Hid (dval M = sval (l.take k) + spow k * (x % 10 ^ j)) ∧ Hid (M.length = 9 * k + j) ∧ Hid (k + 1 = n → 0 < j → 10 ^ (j - 1) ≤ x) ∧ Hid (Fresh w w2)) (fun _ _ kv _ => 9 - (intOf kv).toNat)
    case atStart => exact ⟨0, x, L, by omega, rfl, rfl, hxlim, H_hown, hid (by simp), hlim, hid (by rw [hdv.out]; simp [Nat.mod_one]), hid (by have := hlen1.out hlt; omega), hid (fun _ h => by omega), hf⟩
    case round =>
     obtain ⟨j, y, M, hj, rfl, rfl, hylim, hown2, hyv, hlim2, hdv2, hlen2, hpos, hf2⟩ := hrel
     by_cases hj9 : j < 9
     · have t2 : decide ((j : Int) < 9) = true := by simp; omega
       rcases Nat.eq_zero_or_pos y with hy0 | hy0
       · by_cases hk1 : k + 1 < n
         · have hny : ¬ 0 < y := by omega
           have t5 : decide (0 < y) = false := by simp; omega
           have t3 : decide ((0 : Int) < (y : Int)) = false := by simp; omega
           have t4 : decide ((k : Int) + 1 < (n : Int)) = true := by simp; omega
           have hposd : k + 1 = n → 0 < j + 1 → 10 ^ (j + 1 - 1) ≤ x := fun e => by omega
           subst hy0
           clear hny t5 t3
           have t3 : True := trivial
           have hfits := hlen2.out
           have hown := hown2.out
           have hsz := hf2.out.size
           go_wp2_with (at_builtin; refine wpList_append_own _ rfl _ _ 87 rfl w.heap.size 5 i0 (.int .u8 0) 1 1 Tryz.underlying87 hi hz0 hz1 hz2 rfl (by decide) _ _ _ rfl (hown.alloc _) ⟨wr.heap.size, 0, none⟩ 1 1 [Value.int .u8 48] rfl rfl ?c1 ?c2 ?c3 ?c4 ?c5 ?_)
           case c1 =>
            intro q u hj
            match q, hj with
            | 0, hj => simp at hj; subst hj; simp [Addr.add]
           case c2 => intro u hu; simp at hu; subst hu; rfl
           case c3 => unfold maxLen; omega
           case c4 => omega
           case c5 => simp; omega
           · intro v' w3 hown' hgrow _
             have hf3 : Fresh w w3 := Fresh.owns (hf2.out.alloc _) (hown2.out.alloc _) (Nat.le_refl _) hgrow
             have hL : (M ++ [48]).length = M.length + 1 := by simp
             have hown3 : w3.ownsRow w.heap.size 5 1 v' (M ++ [48]).length ((M ++ [48]).map (wd .u8)) := by
              rw [hL, hfits, List.map_append];  exact hown'
             have H_hown3 := hid hown3; have H_hf3 := hid hf3; clear hown3 hf3
             clear hown' hgrow hown
             go_wp2_with (fail)
             go_roundw
             case rel =>
              refine ⟨j + 1, 0, M ++ [48], by omega, by simp, by simp, by omega, H_hown3, hid (by rw [Nat.pow_succ, ← Nat.div_div_eq_div_mul, ← hyv.out]), hid (hlim2.out.append (IsD.one (by omega) (by omega))), hid ?_, hid (by rw [hL]; omega), hid hposd, H_hf3⟩
              have e := txb_step (k := k) (x := x) (j := j) hdv2.out hlen2.out
              rw [← hyv.out] at e
              exact e
             case measure => simp [intOf]; omega
         · have hny : ¬ 0 < y := by omega
           have t5 : decide (0 < y) = false := by simp; omega
           have t3 : decide ((0 : Int) < (y : Int)) = false := by simp; omega
           have t4 : decide ((k : Int) + 1 < (n : Int)) = false := by simp; omega
           have hprec : k + 1 = n → IsPrec (sval l) M.length := fun e => by
            rw [hlen2.out]
            have h1 := H_hnn.out
            have h2 := hyv.out
            rw [hy0] at h2
            have hxp : 0 < 10 ^ j := Nat.pow_pos (by omega)
            refine digits_limbs H_h.out.lim (by omega) H_hxx.out ?_ (hpos.out e) ?_
            · rcases Nat.lt_or_ge x (10 ^ j) with h | h
              · exact h
              · have := Nat.div_pos h hxp; omega
            · have := H_hn.out k (by omega); rw [← H_hxx.out] at this; omega
           have hnine : k + 1 < n → M.length = 9 * (k + 1) := fun e => by omega
           have hdone : dval M = sval (l.take (k + 1)) := by
            have h2 := hyv.out
            rw [hy0] at h2
            have hxp : 0 < 10 ^ j := Nat.pow_pos (by omega)
            have hxj : x < 10 ^ j := by
             rcases Nat.lt_or_ge x (10 ^ j) with h | h
             · exact h
             · have := Nat.div_pos h hxp; omega
            rw [sval_take_succ (by have := H_hnn.out; omega), ← H_hxx.out, hdv2.out, Nat.mod_eq_of_lt hxj]
           have H_hprec := hid hprec; have H_hnine := hid hnine; have H_hdone := hid hdone; clear hprec hnine hdone
           have hfits := hlen2.out
           go_wp2_with (fail)
           go_roundw
           case rel => exact ⟨k + 1, M, by omega, by simp, hown2.out, hlim2, H_hdone, H_hnine, H_hprec, hid (by have := hlen2.out; omega), hf2⟩
           case measure => simp [intOf]; omega
       · have t5 : decide (0 < y) = true := by simp; omega
         have t3 : decide ((0 : Int) < (y : Int)) = true := by simp; omega
         have hposd : k + 1 = n → 0 < j + 1 → 10 ^ (j + 1 - 1) ≤ x := fun _ _ => by
          have h2 := hyv.out
          rcases Nat.lt_or_ge x (10 ^ j) with h | h
          · have := Nat.div_eq_of_lt h; omega
          · simpa using h
         have hfits := hlen2.out
         have hown := hown2.out
         have hsz := hf2.out.size
         go_wp2_with (at_builtin; refine wpList_append_own _ rfl _ _ 87 rfl w.heap.size 5 i0 (.int .u8 0) 1 1 Tryz.underlying87 hi hz0 hz1 hz2 rfl (by decide) _ _ _ rfl (hown.alloc _) ⟨wr.heap.size, 0, none⟩ 1 1 [Value.int .u8 (48 + (y : Int) % 10)] rfl rfl ?c1 ?c2 ?c3 ?c4 ?c5 ?_)
         case c1 =>
          intro q u hj
          match q, hj with
          | 0, hj => simp at hj; subst hj; simp [Addr.add]
         case c2 => intro u hu; simp at hu; subst hu; rfl
         case c3 => unfold maxLen; omega
         case c4 => omega
         case c5 => simp; omega
         · intro v' w3 hown' hgrow _
           have hf3 : Fresh w w3 := Fresh.owns (hf2.out.alloc _) (hown2.out.alloc _) (Nat.le_refl _) hgrow
           have hL : (M ++ [48 + y % 10]).length = M.length + 1 := by simp
           have hown3 : w3.ownsRow w.heap.size 5 1 v' (M ++ [48 + y % 10]).length ((M ++ [48 + y % 10]).map (wd .u8)) := by
            rw [hL, hfits, List.map_append]; rw [show (48 + (y : Int) % 10) = ((48 + y % 10 : Nat) : Int) by omega] at hown'; exact hown'
           have H_hown3 := hid hown3; have H_hf3 := hid hf3; clear hown3 hf3
           clear hown' hgrow hown
           go_wp2_with (fail)
           go_roundw
           case rel =>
            refine ⟨j + 1, y / 10, M ++ [48 + y % 10], by omega, by simp, by simp, by omega, H_hown3, hid (by rw [hyv.out, Nat.div_div_eq_div_mul, ← Nat.pow_succ]), hid (hlim2.out.append (IsD.one (by omega) (by omega))), hid ?_, hid (by rw [hL]; omega), hid hposd, H_hf3⟩
            have e := txb_step (k := k) (x := x) (j := j) hdv2.out hlen2.out
            rw [← hyv.out] at e
            exact e
           case measure => simp [intOf]; omega
     · obtain rfl : j = 9 := by omega
       have t2 : decide ((9 : Int) < 9) = false := by decide
       have hprec : k + 1 = n → IsPrec (sval l) M.length := fun e => by
        rw [hlen2.out]
        have h1 := H_hnn.out
        refine digits_limbs H_h.out.lim (by omega) H_hxx.out (by omega) (hpos.out e) ?_
        have := H_hn.out k (by omega); rw [← H_hxx.out] at this; omega
       have hnine : k + 1 < n → M.length = 9 * (k + 1) := fun e => by have := hlen2.out; omega
       have hdone : dval M = sval (l.take (k + 1)) := by
        rw [sval_take_succ (by have := H_hnn.out; omega), ← H_hxx.out, hdv2.out, Nat.mod_eq_of_lt hxlim]
       have H_hprec := hid hprec; have H_hnine := hid hnine; have H_hdone := hid hdone; clear hprec hnine hdone
       have hfits := hlen2.out
       go_wp2_with (fail)
       go_roundw
       case rel => exact ⟨k + 1, M, by omega, by simp, hown2.out, hlim2, H_hdone, H_hnine, H_hprec, hid (by have := hlen2.out; omega), hf2⟩
       case measure => simp [intOf]; omega
  · obtain rfl : k = n := by omega
    have t1 : decide ((k : Int) < (k : Int)) = false := by simp
    have hp := hlast.out rfl
    have hLpos : 0 < L.length := by
     rcases Nat.eq_zero_or_pos L.length with h | h
     · rw [h] at hp; have h8 := hp.1; have h9 := H_hvpos.out; simp at h8; omega
     · exact h
    obtain ⟨g, cap, rfl, hcap, hBg, hby⟩ := SBy.of_owns H_hown.out hlim.out.byte hLpos
    have hLn := hlen9.out
    obtain ⟨N, hN⟩ : ∃ N, N = L.length := ⟨_, rfl⟩
    have hfin : bstr L.reverse = bstr (hdig (sval l)) := by
     have h1 := hdv.out
     rw [H_hnn.out, List.take_length] at h1
     rw [← h1] at hp
     have h2 := rdig_of hlim.out (fun j hj => by have := hp.2 (by omega); rwa [hj] at this)
     rw [hdig_pos H_hvpos.out, ← h1, ← h2]
    rw [← hN] at hp hLpos hcap hLn ⊢
    have t2 : ((N : Int) == 0) = false := by rw [beq_eq_false_iff_ne]; omega
    clear H_hown
    have H_hp := hid hp; have H_hby := hid hby; have H_hN := hid hN; have H_hfin := hid hfin; clear hp hby hN hfin
    go_wp2_with (fail)
    go_loopw [7, 8] (fun iv jv w2 => ∃ (i j : Nat) (M : List Nat), i + j + 1 = N ∧ iv = .int .i64 i ∧ jv = .int .i64 j ∧ Hid (SBy w2 g M) ∧ Hid (Rev L M i) ∧ Hid (Fresh w w2)) (fun _ jv _ => (intOf jv).toNat)
    case atStart => exact ⟨0, N - 1, L, by omega, rfl, by congr 1; omega, H_hby, hid (Rev.start L), hf⟩
    case round =>
     obtain ⟨i, j, M, hij, rfl, rfl, hby2, hrev, hf2⟩ := hrel
     have hML : Hid (M.length = N) := hid (by rw [H_hN.out]; exact hrev.out.len)
     by_cases hlt2 : i < j
     · have t3 : decide ((i : Int) < (j : Int)) = true := by simp; omega
       have hc1 := hby2.out.cell (i := i) (by have := hML.out; omega)
       have hc2 := hby2.out.cell (i := j) (by have := hML.out; omega)
       have hz1 := hby2.out.frozen i
       have hz2 := hby2.out.frozen j
       have hb1 := hby2.out.lt i
       have hb2 := hby2.out.lt j
       have hr1 := hrev.out.step (by have := H_hN.out; omega) hlt2
       have hr2 := hrev.out.step' (by have := H_hN.out; omega) hlt2
       generalize M.getD i 0 = xi at *
       generalize M.getD j 0 = xj at *
       have H_hr1 := hid hr1; have H_hr2 := hid hr2; clear hr1 hr2
       have s1 := fun (W : World) (hW : SBy W g M) => (hW.set i hb2).set j hb1
       have s2 := fun (W : World) (hW : SBy W g M) => (hW.set j hb1).set i hb2
       have H_s1 := hid s1; have H_s2 := hid s2; clear s1 s2
       go_wp2_with (fail)

       go_region
       all_goals go_wp2_with (fail)
       all_goals go_roundw
       all_goals first
        | (refine ⟨i + 1, j - 1, _, by omega, by simp, by congr 1; omega, hid (H_s1.out _ hby2.out).drew, H_hr1, ?_⟩
           exact ((hf2.out.setCell (fun h => absurd h (by show ¬ g < w.heap.size; omega)) _).setCell (fun h => absurd h (by show ¬ g < w.heap.size; omega)) _).drew)
        | (refine ⟨i + 1, j - 1, _, by omega, by simp, by congr 1; omega, hid (H_s2.out _ hby2.out).drew, H_hr2, ?_⟩
           exact ((hf2.out.setCell (fun h => absurd h (by show ¬ g < w.heap.size; omega)) _).setCell (fun h => absurd h (by show ¬ g < w.heap.size; omega)) _).drew)
        | (simp [intOf]; omega)
        | trace_state
     · have t3 : decide ((i : Int) < (j : Int)) = false := by simp; omega
       have hconv := hby2.out.btext cap
       rw [hML.out, hrev.out.done (j := j) (by have := H_hN.out; omega) (by omega), H_hfin.out] at hconv
       go_wp2_with (fail)
       go_ret
       exact ⟨rfl, hf2.out⟩

theorem NatStr_any (v : Value) (l : List Nat) (w : World) (h : SNat w v l) (hn : Norm l) (hlen : l.length ≤ 1000) :
 Calls Tryz.prog 138 #[v] w (fun e w' => e = .returned (.string (bstr (hdig (sval l)))) ∧ Fresh w w') := by
 rcases Nat.eq_zero_or_pos l.length with h0 | h0
 · obtain rfl := List.eq_nil_of_length_eq_zero h0
   obtain ⟨a, c, rfl⟩ := h.form
   clear h h0
   go_enter Tryz.func138, Tryz.ntmps138
   go_wp2
   go_loopw [3, 11] (fun o i wr => o = .slice none 0 0 ∧ i = .int .i64 0 ∧ wr = w) (fun _ _ _ => 0)
   case atStart => exact ⟨rfl, rfl, rfl⟩
   case round =>
    obtain ⟨rfl, rfl, rfl⟩ := hrel
    go_wp2
    go_ret
    exact ⟨rfl, Keep.refl _ _⟩
 · exact NatStr_pos v l w h hn h0 hlen

theorem bstr_at {D : List Nat} (hD : ∀ c ∈ D, c < 256) (i : Nat) : ∀ h : i < (bstr D).size, ((bstr D)[i]'h).toNat = D.getD i 0 := fun h => bstr_get hD h

theorem natof_in {D : List Nat} {a i : Nat} (hi : i < D.length) (ha : a ≤ i) (_hd : 48 ≤ D.getD i 0) :
 dval ((D.take (i + 1)).drop a).reverse = 10 * dval ((D.take i).drop a).reverse + (D.getD i 0 - 48) := by
 have e : D.take (i + 1) = D.take i ++ [D.getD i 0] := by
  rw [List.take_succ_eq_append_getElem hi]; simp [List.getD, hi]
 rw [e, List.drop_append_of_le_length (by rw [List.length_take]; omega), List.reverse_append]
 simp only [List.reverse_cons, List.reverse_nil, List.nil_append, List.cons_append, dval]
 omega

theorem natof_out {D L : List Nat} {e m : Nat} (he : e ≤ D.length) (ha : m ≤ e) (hL : sval L = dval (D.drop e).reverse) (hlen : spow L.length = 10 ^ (D.length - e)) :
 sval (L ++ [dval ((D.take e).drop m).reverse]) = dval (D.drop m).reverse := by
 have e1 : D.drop m = (D.take e).drop m ++ D.drop e := by
  conv => lhs; rw [← List.take_append_drop e D]
  rw [List.drop_append_of_le_length (by rw [List.length_take]; omega)]
 rw [e1, List.reverse_append, dval_append, sval_append, hL, hlen]
 simp [sval]

theorem dval_small {D : List Nat} (hD : IsD D) {a i : Nat} (h : i ≤ a + 9) : dval ((D.take i).drop a).reverse < 1000000000 := by
 have := dval_lt (((hD.take i).drop a).reverse)
 have h2 : ((D.take i).drop a).reverse.length ≤ 9 := by simp; omega
 have h3 : 10 ^ ((D.take i).drop a).reverse.length ≤ 10 ^ 9 := Nat.pow_le_pow_right (by omega) h2
 omega

theorem NatOf_any (D : List Nat) (w : World) (hD : IsD D) (h0 : 0 < D.length) (hlen : D.length ≤ 100000) :
 Calls Tryz.prog 137 #[.string (bstr D)] w (fun e w' => ∃ v l, e = .returned (.tuple #[v, .bool true]) ∧ SNat w' v l ∧ Norm l ∧ sval l = dval D.reverse ∧ Fresh w w') := by
 obtain ⟨i0, hi, hz0, hz1, hz2⟩ := info_parts info_u32
 obtain ⟨n, hn⟩ : ∃ n, n = D.length := ⟨_, rfl⟩
 obtain ⟨s, hs⟩ : ∃ s, s = bstr D := ⟨_, rfl⟩
 have hsz : s.size = n := by rw [hs, bstr_size, hn]
 have hget : ∀ i, ∀ h : i < s.size, (s[i]'h).toNat = D.getD i 0 := by subst hs; exact fun i h => bstr_at hD.byte i h
 have hne : (s.toList == []) = false := by
  rw [beq_eq_false_iff_ne, hs, bstr_toList]
  intro h
  have h1 : D = [] := by simpa using h
  rw [h1] at h0; simp at h0
 rw [← hn] at h0 hlen
 rw [← hs]
 have H_hn := hid hn; have H_hs := hid hs; have H_hD := hid hD; have H_hget := hid hget; clear hn hs hD hget
 go_enter Tryz.func137, Tryz.ntmps137
 go_wp2_with (fail)
 go_loopw [4, 5] (fun o ev wr => ∃ (e : Nat) (ei : Int) (L : List Nat), ev = .int .i64 ei ∧ e ≤ n ∧ (ei = e ∨ (e = 0 ∧ -9 < ei ∧ ei ≤ 0)) ∧ wr.ownsRow w.heap.size 75 1 o L.length (L.map (wd .u32)) ∧ Hid (Lim L) ∧ Hid (sval L = dval (D.drop e).reverse) ∧ Hid (0 < e → spow L.length = 10 ^ (D.length - e)) ∧ Hid (L.length ≤ n) ∧ Hid (L.length + e ≤ n) ∧ Hid (Fresh w wr)) (fun _ ev _ => (intOf ev).toNat)
 case atStart => exact ⟨n, n, [], rfl, by omega, .inl rfl, World.ownsRow_nil _ _ _ _, hid Lim.nil, hid (by rw [H_hn.out, List.drop_length]; rfl), hid (fun _ => by rw [H_hn.out, Nat.sub_self]; rfl), hid (by simp), hid (by simp), Keep.refl _ _⟩
 case round =>
  obtain ⟨e, ei, L, rfl, hen, hei, hown, hlim, hval, hsp, hLn, hLe, hf⟩ := hrel
  have H_hown := hid hown
  clear hown
  by_cases he : 0 < e
  · obtain rfl : ei = (e : Int) := by omega
    have t1 : decide ((0 : Int) < (e : Int)) = true := by simp; omega
    have t1' : decide (0 < e) = true := by simp; omega
    obtain ⟨m, hm⟩ : ∃ m, m = e - 9 := ⟨_, rfl⟩
    obtain ⟨y9, hy9⟩ : ∃ y : Int, (e : Int) - 9 = y := ⟨_, rfl⟩
    have hmax : (if 0 < y9 then y9 else 0) = (m : Int) := by split <;> omega
    have hy1 : -9 ≤ y9 := by omega
    have hy2 : y9 ≤ 100000 := by omega
    have hme : m ≤ e := by omega
    have hm9 : e ≤ m + 9 := by omega
    clear hei
    have hstep : ∀ i x d, i < e → m ≤ i → x = dval ((D.take i).drop m).reverse → 48 + d = D.getD i 0 → 10 * x + d = dval ((D.take (i + 1)).drop m).reverse := fun i x d h1 h2 h3 h4 => by
     rw [natof_in (by have := H_hn.out; omega) h2 (by omega), ← h3]; omega
    have hout : ∀ x, x = dval ((D.take e).drop m).reverse → sval (L ++ [x]) = dval (D.drop m).reverse := fun x hx => by
     rw [hx]; exact natof_out (by have := H_hn.out; omega) hme hval.out (hsp.out he)
    have hsm : ∀ i x, i ≤ e → x = dval ((D.take i).drop m).reverse → x < 1000000000 := fun i x h1 h2 => by
     rw [h2]; exact dval_small H_hD.out (by omega)
    have hsm8 : ∀ i x, i < e → m ≤ i → x = dval ((D.take i).drop m).reverse → x < 100000000 := fun i x h1 h2 h3 => by
     have h4 := dval_lt (((H_hD.out.take i).drop m).reverse)
     rw [← h3] at h4
     have h5 : ((D.take i).drop m).reverse.length ≤ 8 := by simp; omega
     have h6 : 10 ^ ((D.take i).drop m).reverse.length ≤ 10 ^ 8 := Nat.pow_le_pow_right (by omega) h5
     omega
    have hsp2 : 0 < m → spow (L.length + 1) = 10 ^ (D.length - m) := fun h => by
     rw [spow_succ, hsp.out he, show D.length - m = (D.length - e) + 9 by have := H_hn.out; omega, Nat.pow_add, Nat.mul_comm]
    have hdig : ∀ i, i < n → ∃ d, d ≤ 9 ∧ 48 + d = D.getD i 0 := fun i h => by
     have := H_hD.out.getD (k := i) (by have := H_hn.out; omega)
     exact ⟨D.getD i 0 - 48, by omega, by omega⟩
    have hLb : L.length + 1 + m ≤ n := by have := hLe.out; omega
    have H_hm := hid hm; have H_hstep := hid hstep; have H_hout := hid hout; have H_hsm := hid hsm; have H_hsm8 := hid hsm8; have H_hsp2 := hid hsp2; have H_hdig := hid hdig; clear hm hstep hout hsm hsm8 hsp2 hdig
    go_wp2_with (fail)
    go_loopw [6, 7] (fun nv iv w2 => ∃ i x : Nat, i ≤ e ∧ m ≤ i ∧ nv = .int .u32 x ∧ iv = .int .i64 i ∧ Hid (x = dval ((D.take i).drop m).reverse) ∧ wr = w2) (fun _ iv _ => e - (intOf iv).toNat)
    case atStart => exact ⟨m, 0, hme, by omega, rfl, rfl, hid (by rw [List.drop_of_length_le (by rw [List.length_take]; omega)]; rfl), rfl⟩
    case round =>
     obtain ⟨i, x, hie, hmi, rfl, rfl, hx, hw2⟩ := hrel
     subst hw2
     by_cases hlt : i < e
     · have hx8 := H_hsm8.out i x hlt hmi hx.out
       obtain ⟨d, hd9, hd⟩ := H_hdig.out i (by omega)
       have hnx := H_hstep.out i x d hlt hmi hx.out hd
       obtain ⟨c, hc⟩ : ∃ c, c = D.getD i 0 := ⟨_, rfl⟩
       have hgi : ∀ h : i < s.size, (s[i]'h).toNat = c := fun h => by rw [H_hget.out i h, hc]
       have hcI : (c : Int) - 48 = (d : Int) := by omega
       have hc1 : (48 : Int) ≤ (c : Int) := by omega
       have hc2 : (c : Int) ≤ 57 := by omega
       have t3 : decide ((c : Int) < 48) = false := by simp; omega
       have t4 : decide ((57 : Int) < (c : Int)) = false := by simp; omega
       have hdb : (d : Int) ≤ 9 := by omega
       have hxb : (x : Int) ≤ 99999999 := by omega
       have hin : i < n := by omega
       have t2 : decide ((i : Int) < (e : Int)) = true := by simp; omega
       obtain ⟨y, hy⟩ : ∃ y, y = 10 * x + d := ⟨_, rfl⟩
       rw [← hy] at hnx
       have hyI : (x : Int) * 10 + (d : Int) = (y : Int) := by omega
       have hyb : (y : Int) < 1000000000 := by omega
       have H_hnx := hid hnx; have H_hy := hid hy; have H_hd := hid hd; have H_hc := hid hc; have H_hcI := hid hcI; have H_hyI := hid hyI; clear hnx hy hd hc hcI hyI
       go_wp2_with (fail)
       go_roundw
       case rel => exact ⟨i + 1, y, by omega, by omega, by congr 1; have := H_hcI.out; have := H_hyI.out; omega, by simp, H_hnx, trivial⟩
       case measure => simp [intOf]; omega
     · obtain rfl : i = e := by omega
       have t2 : decide ((i : Int) < (i : Int)) = false := by simp
       have hx9 := H_hsm.out i x (by omega) hx.out
       have hnew := H_hout.out x hx.out
       have hown := H_hown.out
       have hsz' := hf.out.size
       have H_hnew := hid hnew; clear hnew
       go_wp2_with (at_builtin; refine wpList_append_own _ rfl _ _ 26 rfl w.heap.size 75 i0 (.int .u32 0) 1 4 Tryz.underlying26 hi hz0 hz1 hz2 rfl (by decide) _ _ _ rfl (hown.alloc _) ⟨wr.heap.size, 0, none⟩ 1 1 [wd .u32 x] rfl rfl ?c1 ?c2 ?c3 ?c4 ?c5 ?_)
       case c1 =>
        intro j u hj
        match j, hj with
        | 0, hj => simp at hj; subst hj; simp [Addr.add, wd]
       case c2 => intro u hu; simp at hu; subst hu; rfl
       case c3 => unfold maxLen; omega
       case c4 => have := hLn.out; omega
       case c5 => simp; omega
       · intro v' w3 hown' hgrow _
         have hf3 : Fresh w w3 := Fresh.owns (hf.out.alloc _) (H_hown.out.alloc _) (Nat.le_refl _) hgrow
         have hL : (L ++ [x]).length = L.length + 1 := by simp
         have hown3 : w3.ownsRow w.heap.size 75 1 v' (L ++ [x]).length ((L ++ [x]).map (wd .u32)) := by
          rw [hL, List.map_append]; exact hown'
         have H_hown3 := hid hown3; have H_hf3 := hid hf3; clear hown3 hf3
         clear hown' hgrow hown
         go_wp2_with (fail)
         go_roundw
         case rel => exact ⟨m, _, L ++ [x], rfl, by omega, by have := H_hm.out; omega, H_hown3.out, hid (hlim.out.append (Lim.one hx9)), H_hnew, hid (fun h => by rw [hL]; exact H_hsp2.out h), hid (by rw [hL]; omega), hid (by rw [hL]; omega), H_hf3⟩
         case measure => simp [intOf]; omega
  · obtain rfl : e = 0 := by omega
    have t1 : decide ((0 : Int) < ei) = false := by simp; omega
    have hs2 := SNat.of_owns H_hown.out hlim.out (by have := hLn.out; omega)
    obtain ⟨ao, co, rfl⟩ := hs2.form
    have hcall := natTrim_any _ _ _ hs2
    have hend := hval.out
    rw [List.drop_zero] at hend
    clear hei hs2
    have H_hcall := hid hcall; have H_hend := hid hend; clear hcall hend
    go_wp2_with (fail)
    refine H_hcall.out.mono ?_
    rintro e' w2 ⟨v, l, rfl, h1, h2, h3, h4⟩
    have H_h1 := hid h1; have H_h2 := hid h2; have H_h3 := hid h3; have H_h4 := hid h4; clear h1 h2 h3 h4
    go_wp2_with (fail)
    go_ret2
    exact ⟨_, l, rfl, H_h1.out, H_h2.out, H_h3.out.trans H_hend.out, ftr hf.out H_h4.out⟩

theorem wdig_lt {z : Int} {p : Nat} (h : (wdig z).length ≤ p) : z.natAbs < 10 ^ p := by
 have h1 : (hdig z.natAbs).length ≤ p := by unfold wdig at h; rw [List.length_append] at h; omega
 have h2 : z.natAbs < 10 ^ (hdig z.natAbs).length := by
  unfold hdig; split
  · rename_i h0; rw [h0]; simp
  · rw [List.length_reverse]; exact rdig_len _
 exact Nat.lt_of_lt_of_le h2 (Nat.pow_le_pow_right (by omega) h1)

theorem ParseWhole_any (z : Int) (w : World) (hz : (wdig z).length ≤ 100000) :
 Calls Tryz.prog 97 #[.string (bstr (wdig z))] w (fun e w' => ∃ x, e = .returned (.tuple #[x, .bool true]) ∧ SWh w' x z ∧ Fresh w w') := by
 obtain ⟨t, ht⟩ : ∃ t, t = bstr (hdig z.natAbs) := ⟨_, rfl⟩
 have hD := hdig_isD z.natAbs
 have hDl : (hdig z.natAbs).length ≤ 100000 := by unfold wdig at hz; rw [List.length_append] at hz; omega
 have hNat := fun W => NatOf_any (hdig z.natAbs) W hD (hdig_pos_len _) hDl
 rw [← ht] at hNat
 rw [hdig_val] at hNat
 obtain ⟨g, hg⟩ : ∃ g, g = w.heap.size := ⟨_, rfl⟩
 rcases Int.lt_or_le z 0 with hneg | hpos
 · obtain ⟨N, hN⟩ : ∃ N, N = (hdig z.natAbs).length + 1 := ⟨_, rfl⟩
   obtain ⟨s, hs⟩ : ∃ s, s = bstr (45 :: hdig z.natAbs) := ⟨_, rfl⟩
   rw [wdig_neg hneg, ← hs]
   have hby : ∀ c ∈ 45 :: hdig z.natAbs, c < 256 := fun c hc => by
    rcases List.mem_cons.1 hc with h | h
    · omega
    · exact hD.byte c h
   have hsz : s.size = N := by rw [hs, bstr_size, hN]; rfl
   have hget : ∀ h : 0 < s.size, (s[0]'h).toNat = 45 := by subst hs; exact fun h => bstr_at hby 0 h
   have hN0 : 0 < N := by omega
   have hN1 : 1 ≤ N := by omega
   have hex : s.extract 1 N = t := by rw [hs, ht, bstr_extract, hN]; congr 1; simp
   have hne : (s.toList == []) = false := by
    rw [beq_eq_false_iff_ne, hs, bstr_toList]; simp
   have H_hs := hid hs; have H_ht := hid ht; have H_hNat := hid hNat; have H_hN := hid hN; have H_hg := hid hg; have H_hDl := hid hDl; have H_hz := hid hz; have H_hD := hid hD; clear hs ht hNat hN hg hDl hz hD
   go_enter Tryz.func97, Tryz.ntmps97
   go_wp2_with (fail)
   generalize hw1 : w.alloc _ = w1
   have b1 : w1.heap[g]? = some (.cells #[.bool false, .slice none 0 0] 28 (0, 0)) := by rw [← hw1, H_hg.out]; exact heap_alloc_new w _
   have hf1 : Fresh w w1 := by rw [← hw1]; exact (Keep.refl _ _).alloc _
   rw [← H_hg.out]
   have H_b1 := hid b1; have H_hf1 := hid hf1; have H_hw1 := hid hw1; clear b1 hf1 hw1
   refine (H_hNat.out w1).mono ?_
   rintro e w2 ⟨v, l, rfl, h1, h2, h3, h4⟩
   have b2 := rfr H_b1.out h4
   have hwo := wholeOf_any true v l w2 h1
   have hsn : sint (true && decide (0 < l.length)) l = z := by
    have hpz : 0 < l.length ↔ 0 < sval l := sval_pos_iff h2
    unfold sint
    have hl0 : 0 < l.length := hpz.2 (by omega)
    simp only [Bool.true_and, decide_eq_true hl0, if_true]
    omega
   have hlz : l = [] → (true && decide (0 < l.length)) = false := fun h => by rw [h]; rfl
   obtain ⟨a, c, rfl⟩ := h1.form
   have H_h1 := hid h1; have H_h2 := hid h2; have H_h3 := hid h3; have H_h4 := hid h4; have H_b2 := hid b2; have H_hwo := hid hwo; have H_hsn := hid hsn; have H_hlz := hid hlz; clear h1 h2 h3 h4 b2 hwo hsn hlz
   go_wp2_with (fail)
   refine H_hwo.out.mono ?_
   rintro e w3 ⟨rfl, h5⟩
   have b3 := rfr H_b2.out h5
   have p0 := rwc b3 0
   have p1 := rwc b3 1
   simp at p0 p1
   have q0 : w3.frozen? ⟨g, 0, none⟩ = false := frozen_of_row _ _ _ _ _ b3
   have q1 : w3.frozen? ⟨g, 1, none⟩ = false := frozen_of_row _ _ _ _ _ b3
   obtain ⟨sg, hsg⟩ : ∃ x, x = (true && decide (0 < l.length)) := ⟨_, rfl⟩
   rw [← hsg] at H_hsn H_hlz ⊢
   have h6 := H_h1.out.fresh h5
   have f1 := h6.off p0 (fun n e => by simp at e)
   have h7 := fun u u' => ((h6.setOff (o := 0) (x := u) f1).setOff (o := 1) (x := u') f1)
   generalize l.length = ll at *
   have H_h5 := hid h5; have H_h6 := hid h6; have H_h7 := hid h7; have H_b3 := hid b3; have H_f1 := hid f1; have H_hsg := hid hsg; clear h5 h6 h7 b3 f1 hsg
   go_wp2_with (fail)
   refine bodyPost_ret (results_cell_tmp_row rfl _ _ g 28 #[.bool sg, .slice a ll c] (0, 0) _ rfl (rst (rst H_b3.out)) Tryz.underlying28 rfl (by kernel_rfl)) rfl ?_
   exact ⟨_, rfl, ⟨sg, _, l, rfl, H_h7.out _ _, H_h2.out, H_hlz.out, H_hsn.out⟩, ((ftr H_hf1.out (ftr H_h4.out H_h5.out)).setCell (fun h => by have := H_hg.out; change g < w.heap.size at h; omega) _).setCell (fun h => by have := H_hg.out; change g < w.heap.size at h; omega) _⟩
 · obtain ⟨N, hN⟩ : ∃ N, N = (hdig z.natAbs).length := ⟨_, rfl⟩
   rw [wdig_nonneg hpos, ← ht]
   have hsz : t.size = N := by rw [ht, bstr_size, hN]
   obtain ⟨c0, hc0⟩ : ∃ c, c = (hdig z.natAbs).getD 0 0 := ⟨_, rfl⟩
   have hget : ∀ h : 0 < t.size, (t[0]'h).toNat = c0 := by subst ht; rw [hc0]; exact fun h => bstr_at hD.byte 0 h
   have hcd := hD.getD (k := 0) (hdig_pos_len _)
   rw [← hc0] at hcd
   have hN0 : 0 < N := by have := hdig_pos_len z.natAbs; omega
   have t1 : ((c0 : Int) == 45) = false := by rw [beq_eq_false_iff_ne]; omega
   have t2 : ((c0 : Int) == 43) = false := by rw [beq_eq_false_iff_ne]; omega
   have t3 : ¬ c0 = 45 := by omega
   have t4 : ¬ c0 = 43 := by omega
   have hne : (t.toList == []) = false := by
    rw [beq_eq_false_iff_ne, ht, bstr_toList]
    intro h
    have h1 : hdig z.natAbs = [] := by simpa using h
    have := hdig_pos_len z.natAbs
    rw [h1] at this; simp at this
   have H_ht := hid ht; have H_hNat := hid hNat; have H_hN := hid hN; have H_hg := hid hg; have H_hDl := hid hDl; have H_hz := hid hz; have H_hD := hid hD; have H_hcd := hid hcd; have H_hc0 := hid hc0; clear ht hNat hN hg hDl hz hD hcd hc0
   go_enter Tryz.func97, Tryz.ntmps97
   go_wp2_with (fail)
   generalize hw1 : w.alloc _ = w1
   have b1 : w1.heap[g]? = some (.cells #[.bool false, .slice none 0 0] 28 (0, 0)) := by rw [← hw1, H_hg.out]; exact heap_alloc_new w _
   have hf1 : Fresh w w1 := by rw [← hw1]; exact (Keep.refl _ _).alloc _
   rw [← H_hg.out]
   have H_b1 := hid b1; have H_hf1 := hid hf1; have H_hw1 := hid hw1; clear b1 hf1 hw1
   refine (H_hNat.out w1).mono ?_
   rintro e w2 ⟨v, l, rfl, h1, h2, h3, h4⟩
   have b2 := rfr H_b1.out h4
   have hwo := wholeOf_any false v l w2 h1
   have hsn : sint (false && decide (0 < l.length)) l = z := by
    have hpz : 0 < l.length ↔ 0 < sval l := sval_pos_iff h2
    unfold sint
    simp only [Bool.false_and, Bool.false_eq_true, if_false]
    omega
   have hlz : l = [] → (false && decide (0 < l.length)) = false := fun h => by rw [h]; rfl
   obtain ⟨a, c, rfl⟩ := h1.form
   have H_h1 := hid h1; have H_h2 := hid h2; have H_h3 := hid h3; have H_h4 := hid h4; have H_b2 := hid b2; have H_hwo := hid hwo; have H_hsn := hid hsn; have H_hlz := hid hlz; clear h1 h2 h3 h4 b2 hwo hsn hlz
   go_wp2_with (fail)
   refine H_hwo.out.mono ?_
   rintro e w3 ⟨rfl, h5⟩
   have b3 := rfr H_b2.out h5
   have p0 := rwc b3 0
   have p1 := rwc b3 1
   simp at p0 p1
   have q0 : w3.frozen? ⟨g, 0, none⟩ = false := frozen_of_row _ _ _ _ _ b3
   have q1 : w3.frozen? ⟨g, 1, none⟩ = false := frozen_of_row _ _ _ _ _ b3
   obtain ⟨sg, hsg⟩ : ∃ x, x = (false && decide (0 < l.length)) := ⟨_, rfl⟩
   rw [← hsg] at H_hsn H_hlz ⊢
   have h6 := H_h1.out.fresh h5
   have f1 := h6.off p0 (fun n e => by simp at e)
   have h7 := fun u u' => ((h6.setOff (o := 0) (x := u) f1).setOff (o := 1) (x := u') f1)
   generalize l.length = ll at *
   have H_h5 := hid h5; have H_h6 := hid h6; have H_h7 := hid h7; have H_b3 := hid b3; have H_f1 := hid f1; have H_hsg := hid hsg; clear h5 h6 h7 b3 f1 hsg
   go_wp2_with (fail)
   refine bodyPost_ret (results_cell_tmp_row rfl _ _ g 28 #[.bool sg, .slice a ll c] (0, 0) _ rfl (rst (rst H_b3.out)) Tryz.underlying28 rfl (by kernel_rfl)) rfl ?_
   exact ⟨_, rfl, ⟨sg, _, l, rfl, H_h7.out _ _, H_h2.out, H_hlz.out, H_hsn.out⟩, ((ftr H_hf1.out (ftr H_h4.out H_h5.out)).setCell (fun h => by have := H_hg.out; change g < w.heap.size at h; omega) _).setCell (fun h => by have := H_hg.out; change g < w.heap.size at h; omega) _⟩

end Go.Proofs.YtllencgncinphaaGreatDoor
