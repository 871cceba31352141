/- The contracts of the reference's natural numbers: String (how many bytes), Digits. -/
import Derived.RegionTactic
import Derived.BigRegion
import Derived.ChangeAlike
import Derived.Test.YtjjolcjeiogdmabGreatDoorK3
import Derived.Test.YtjjolcjeiogdmabGreatDoorK5
import Derived.Test.YtjjolcjeiogdmabGreatDoorK6
namespace Go.Proofs.YtjjolcjeiogdmabGreatDoor
open Go.RowKit

theorem info_u8 : (Tryz.prog.info? 5).map (fun i => (i.zero, i.size, i.bytes)) = some (some (.int .u8 0), 1, 1) := by kernel_rfl

/-- the row of bytes L begins the block g -/
def SBy (w : World) (g : Nat) (L : List Nat) : Prop := (∀ x ∈ L, x < 256) ∧ ∃ cur T, w.heap[g]? = some (.cells cur T (0, 0)) ∧ L.length ≤ cur.size ∧ cur.toList.take L.length = L.map (wd .u8)

theorem SBy.drew {w : World} {g : Nat} {L : List Nat} (h : SBy w g L) : SBy w.drew g L := h

theorem SBy.cell {w : World} {g : Nat} {L : List Nat} (h : SBy w g L) {i : Nat} (hi : i < L.length) : w.cell? ⟨g, i, none⟩ = some (wd .u8 (L.getD i 0)) := by
  obtain ⟨_, cur, T, hg, h3, h4⟩ := h
  rw [cell_of_row w g i cur T _ hg]
  have e := congrArg (fun L => L[i]?) h4
  simp only [List.getElem?_take, List.getElem?_map] at e
  rw [if_pos hi] at e
  rw [← Array.getElem?_toList, e, List.getElem?_eq_getElem hi]
  simp [List.getD, hi]

theorem SBy.frozen {w : World} {g : Nat} {L : List Nat} (h : SBy w g L) (i : Nat) : w.frozen? ⟨g, i, none⟩ = false := by
  obtain ⟨_, cur, T, hg, h3, h4⟩ := h
  exact frozen_of_row _ _ _ _ _ hg

theorem SBy.set {w : World} {g : Nat} {L : List Nat} (h : SBy w g L) (i : Nat) {x : Nat} (hx : x < 256) : SBy (w.setCell ⟨g, i, none⟩ (.int .u8 (x : Int))) g (L.set i x) := by
  obtain ⟨h1, cur, T, hg, h3, h4⟩ := h
  refine ⟨fun y hy => ?_, _, T, row_set hg, by simpa using h3, ?_⟩
  · rcases List.mem_or_eq_of_mem_set hy with h | h
    · exact h1 y h
    · omega
  · rw [List.length_set, Array.toList_setIfInBounds, List.take_set, h4, List.map_set]

theorem SBy.of_owns {w : World} {B T n : Nat} {v : Value} {l : List Nat} (h : w.ownsRow B T 1 v n (l.map (wd .u8))) (hl : ∀ x ∈ l, x < 256) (h0 : 0 < l.length) : ∃ g cap, v = .slice (some ⟨g, 0, none⟩) l.length cap ∧ l.length ≤ cap ∧ B ≤ g ∧ SBy w g l := by
  obtain ⟨h1, h2⟩ := h
  simp only [List.length_map, Nat.mul_one] at h1
  rcases h2 with ⟨hv0, hn0⟩ | ⟨g, cap, cur, rfl, hB, hg, h3, h4, h5, h6⟩
  · omega
  · exact ⟨g, cap, by rw [h1], by omega, hB, hl, cur, T, hg, by omega, by rw [h1]; rw [Nat.mul_one] at h6; exact h6⟩

theorem SBy.lt {w : World} {g : Nat} {L : List Nat} (h : SBy w g L) (i : Nat) : L.getD i 0 < 256 := by
  by_cases hi : i < L.length
  · have : L.getD i 0 = L[i] := by simp [List.getD, hi]
    rw [this]; exact h.1 _ (List.getElem_mem hi)
  · simp [List.getD, List.getElem?_eq_none (Nat.le_of_not_lt hi)]

theorem SBy.text {w : World} {g : Nat} {L : List Nat} (h : SBy w g L) (cap : Nat) :
    ∃ s : ByteArray, s.size = L.length ∧ (Go.convert 89 9 (.slice (some ⟨g, 0, none⟩) L.length cap)).run Tryz.prog w = .ok (.string s) w := by
  have e : (L.map UInt8.ofNat).length = L.length := by simp
  have := run_convert_bytes_back (P := Tryz.prog) w 89 9 5 ⟨g, 0, none⟩ cap (L.map UInt8.ofNat) Tryz.underlying89 Tryz.underlying5 Tryz.underlying9 (fun j hj => by
    have hj' : j < L.length := by simpa using hj
    have h1 := h.cell hj'
    have h2 : L.getD j 0 = L[j] := by simp [List.getD, hj']
    have h3 := h.1 _ (List.getElem_mem hj')
    rw [h2] at h1
    have h4 : ((⟨g, 0, none⟩ : Addr).add j) = ⟨g, j, none⟩ := by simp [Addr.add]; intro h; simp [h]
    rw [h4, h1]
    simp [wd, UInt8.toNat_ofNat', Nat.mod_eq_of_lt h3])
  rw [e] at this
  exact ⟨_, by simp [ByteArray.size], this⟩

theorem digits_limbs {l : List Nat} {k j x : Nat} (hl : Lim l) (hk : l.length = k + 1) (hx : x = l.getD k 0) (h1 : x < 10 ^ j) (h2 : 0 < j → 10 ^ (j - 1) ≤ x) (hx0 : 0 < x) : IsPrec (sval l) (9 * k + j) := by
  have e := sval_take_succ (l := l) (k := k) (by omega)
  rw [← hk, List.take_length, ← hx] at e
  have hlt := sval_lt (hl.take k)
  rw [List.length_take, Nat.min_eq_left (by omega)] at hlt
  rw [spow_ten] at hlt e
  have hj : 0 < j := by
    rcases Nat.eq_zero_or_pos j with h | h
    · subst h; simp at h1; omega
    · exact h
  have h3 := h2 hj
  constructor
  · rw [e, Nat.pow_add]
    have : 10 ^ (9 * k) * (x + 1) ≤ 10 ^ (9 * k) * 10 ^ j := Nat.mul_le_mul_left _ h1
    rw [Nat.mul_add] at this
    omega
  · intro _
    rw [e, show 9 * k + j - 1 = 9 * k + (j - 1) by omega, Nat.pow_add]
    have : 10 ^ (9 * k) * 10 ^ (j - 1) ≤ 10 ^ (9 * k) * x := Nat.mul_le_mul_left _ h3
    omega

set_option maxRecDepth 20000 in
set_option maxHeartbeats 4000000 in
theorem NatString_any (v : Value) (l : List Nat) (w : World) (h : SNat w v l) (hn : Norm l) (h0 : 0 < l.length) (hlen : l.length ≤ 1000) :
    Calls Tryz.prog 39 #[v] w (fun e w' => ∃ s : ByteArray, e = .returned (.string s) ∧ IsPrec (sval l) s.size ∧ Fresh w w') := by
  obtain ⟨i0, hi, hz0, hz1, hz2⟩ := info_parts info_u8
  obtain ⟨a, c, rfl⟩ := h.form
  have hvpos : 0 < sval l := (sval_pos_iff hn).1 h0
  obtain ⟨n, hnn⟩ : ∃ n, n = l.length := ⟨_, rfl⟩
  rw [← hnn] at h h0 hlen ⊢
  have H_h := Lib.hid h; clear h
  have H_hnn := Lib.hid hnn; clear hnn
  have H_hn := Lib.hid hn; clear hn
  have H_hvpos := Lib.hid hvpos; clear hvpos
  go_enter Tryz.func39, Tryz.ntmps39
  go_wp2_with (fail)
  go_loopw [3, 11] (fun o i wr => ∃ (k : Nat) (L : List Nat), k ≤ n ∧ i = .int .i64 k ∧ wr.ownsRow w.heap.size 5 1 o L.length (L.map (wd .u8)) ∧ Hid (∀ x ∈ L, x < 256) ∧ Hid (k < n → L.length = 9 * k) ∧ Hid (k = n → IsPrec (sval l) L.length) ∧ Hid (L.length ≤ 9 * k) ∧ Hid (Fresh w wr)) (fun _ i _ => n - (intOf i).toNat)
  case atStart => exact ⟨0, [], by omega, rfl, World.ownsRow_nil _ _ _ _, Lib.hid (by simp), Lib.hid (fun _ => rfl), Lib.hid (fun e => by omega), Lib.hid (by simp), Keep.refl _ _⟩
  case round =>
    obtain ⟨k, L, hk, rfl, hown, hlim, hlen1, hlast, hlen9, hf⟩ := hrel
    have H_hown := Lib.hid hown
    clear hown
    by_cases hlt : k < n
    · obtain ⟨gx, rfl, hcx, hgx, hcells⟩ := (H_h.out.fresh hf.out).cells H_hnn.out (by omega)
      have hxk := hcells k hlt
      have hxlim := H_h.out.lim.getD k
      obtain ⟨x, hxx⟩ : ∃ x, x = l.getD k 0 := ⟨_, rfl⟩
      rw [← hxx] at hxk hxlim
      have H_hcells := Lib.hid hcells; clear hcells
      have H_hxx := Lib.hid hxx; clear hxx
      have hlt' : (k : Int) < (n : Int) := by omega
      have t1 : decide ((k : Int) < (n : Int)) = true := by simp; omega
      go_wp2_with (fail)
      go_loopw [3, 5, 6] (fun o xv kv w2 => ∃ (j y : Nat) (M : List Nat), j ≤ 9 ∧ kv = .int .i64 j ∧ xv = .int .u32 y ∧ y < 1000000000 ∧ Hid (w2.ownsRow w.heap.size 5 1 o M.length (M.map (wd .u8))) ∧ Hid (y = x / 10 ^ j) ∧ Hid (∀ x ∈ M, x < 256) ∧ Hid (M.length = 9 * k + j) ∧ Hid (k + 1 = n → 0 < j → 10 ^ (j - 1) ≤ x) ∧ Hid (Fresh w w2)) (fun _ _ kv _ => 9 - (intOf kv).toNat)
      case atStart => exact ⟨0, x, L, by omega, rfl, rfl, hxlim, H_hown, Lib.hid (by simp), hlim, Lib.hid (by have := hlen1.out hlt; omega), Lib.hid (fun _ h => by omega), hf⟩
      case round =>
        obtain ⟨j, y, M, hj, rfl, rfl, hylim, hown2, hyv, hlim2, hlen2, hpos, hf2⟩ := hrel
        by_cases hj9 : j < 9
        · have t2 : decide ((j : Int) < 9) = true := by simp; omega
          rcases Nat.eq_zero_or_pos y with hy0 | hy0
          · by_cases hk1 : k + 1 < n
            · have hny : ¬ 0 < y := by omega
              have t5 : decide (0 < y) = false := by simp; omega
              have t3 : decide ((0 : Int) < (y : Int)) = false := by simp; omega
              have t4 : decide ((k : Int) + 1 < (n : Int)) = true := by simp; omega
              have hposd : k + 1 = n → 0 < j + 1 → 10 ^ (j + 1 - 1) ≤ x := fun e => by omega
              subst hy0
              clear hny t5 t3
              have t3 : True := trivial
              have hfits := hlen2.out
              have hown := hown2.out
              have hsz := hf2.out.size
              go_wp2_with (at_builtin; refine wpList_append_own _ rfl _ _ 89 rfl w.heap.size 5 i0 (.int .u8 0) 1 1 Tryz.underlying89 hi hz0 hz1 hz2 rfl (by decide) _ _ _ rfl (hown.alloc _) ⟨wr.heap.size, 0, none⟩ 1 1 [Value.int .u8 48] rfl rfl ?c1 ?c2 ?c3 ?c4 ?c5 ?_)
              case c1 =>
                intro q u hj
                match q, hj with
                | 0, hj => simp at hj; subst hj; simp [Addr.add]
              case c2 => intro u hu; simp at hu; subst hu; rfl
              case c3 => unfold maxLen; omega
              case c4 => omega
              case c5 => simp; omega
              · intro v' w3 hown' hgrow _
                have hf3 : Fresh w w3 := Fresh.owns (hf2.out.alloc _) (hown2.out.alloc _) (Nat.le_refl _) hgrow
                have hL : (M ++ [48]).length = M.length + 1 := by simp
                have hown3 : w3.ownsRow w.heap.size 5 1 v' (M ++ [48]).length ((M ++ [48]).map (wd .u8)) := by
                  rw [hL, hfits, List.map_append];  exact hown'
                have H_hown3 := Lib.hid hown3; clear hown3
                have H_hf3 := Lib.hid hf3; clear hf3
                clear hown' hgrow hown
                go_wp2_with (fail)
                go_roundw
                case rel =>
                  refine ⟨j + 1, 0, M ++ [48], by omega, by simp, by simp, by omega, H_hown3, Lib.hid (by rw [Nat.pow_succ, ← Nat.div_div_eq_div_mul, ← hyv.out]), Lib.hid (fun u hu => ?_), Lib.hid (by rw [hL]; omega), Lib.hid hposd, H_hf3⟩
                  rcases List.mem_append.1 hu with h1 | h1
                  · exact hlim2.out u h1
                  · simp at h1; omega
                case measure => simp [intOf]; omega
            · have hny : ¬ 0 < y := by omega
              have t5 : decide (0 < y) = false := by simp; omega
              have t3 : decide ((0 : Int) < (y : Int)) = false := by simp; omega
              have t4 : decide ((k : Int) + 1 < (n : Int)) = false := by simp; omega
              have hprec : k + 1 = n → IsPrec (sval l) M.length := fun e => by
                rw [hlen2.out]
                have h1 := H_hnn.out
                have h2 := hyv.out
                rw [hy0] at h2
                have hxp : 0 < 10 ^ j := Nat.pow_pos (by omega)
                refine digits_limbs H_h.out.lim (by omega) H_hxx.out ?_ (hpos.out e) ?_
                · rcases Nat.lt_or_ge x (10 ^ j) with h | h
                  · exact h
                  · have := Nat.div_pos h hxp; omega
                · have := H_hn.out k (by omega); rw [← H_hxx.out] at this; omega
              have hnine : k + 1 < n → M.length = 9 * (k + 1) := fun e => by omega
              have H_hprec := Lib.hid hprec; clear hprec
              have H_hnine := Lib.hid hnine; clear hnine
              have hfits := hlen2.out
              go_wp2_with (fail)
              go_roundw
              case rel => exact ⟨k + 1, M, by omega, by simp, hown2.out, hlim2, H_hnine, H_hprec, Lib.hid (by have := hlen2.out; omega), hf2⟩
              case measure => simp [intOf]; omega
          · have t5 : decide (0 < y) = true := by simp; omega
            have t3 : decide ((0 : Int) < (y : Int)) = true := by simp; omega
            have hposd : k + 1 = n → 0 < j + 1 → 10 ^ (j + 1 - 1) ≤ x := fun _ _ => by
              have h2 := hyv.out
              rcases Nat.lt_or_ge x (10 ^ j) with h | h
              · have := Nat.div_eq_of_lt h; omega
              · simpa using h
            have hfits := hlen2.out
            have hown := hown2.out
            have hsz := hf2.out.size
            go_wp2_with (at_builtin; refine wpList_append_own _ rfl _ _ 89 rfl w.heap.size 5 i0 (.int .u8 0) 1 1 Tryz.underlying89 hi hz0 hz1 hz2 rfl (by decide) _ _ _ rfl (hown.alloc _) ⟨wr.heap.size, 0, none⟩ 1 1 [Value.int .u8 (48 + (y : Int) % 10)] rfl rfl ?c1 ?c2 ?c3 ?c4 ?c5 ?_)
            case c1 =>
              intro q u hj
              match q, hj with
              | 0, hj => simp at hj; subst hj; simp [Addr.add]
            case c2 => intro u hu; simp at hu; subst hu; rfl
            case c3 => unfold maxLen; omega
            case c4 => omega
            case c5 => simp; omega
            · intro v' w3 hown' hgrow _
              have hf3 : Fresh w w3 := Fresh.owns (hf2.out.alloc _) (hown2.out.alloc _) (Nat.le_refl _) hgrow
              have hL : (M ++ [48 + y % 10]).length = M.length + 1 := by simp
              have hown3 : w3.ownsRow w.heap.size 5 1 v' (M ++ [48 + y % 10]).length ((M ++ [48 + y % 10]).map (wd .u8)) := by
                rw [hL, hfits, List.map_append]; rw [show (48 + (y : Int) % 10) = ((48 + y % 10 : Nat) : Int) by omega] at hown'; exact hown'
              have H_hown3 := Lib.hid hown3; clear hown3
              have H_hf3 := Lib.hid hf3; clear hf3
              clear hown' hgrow hown
              go_wp2_with (fail)
              go_roundw
              case rel =>
                refine ⟨j + 1, y / 10, M ++ [48 + y % 10], by omega, by simp, by simp, by omega, H_hown3, Lib.hid (by rw [hyv.out, Nat.div_div_eq_div_mul, ← Nat.pow_succ]), Lib.hid (fun u hu => ?_), Lib.hid (by rw [hL]; omega), Lib.hid hposd, H_hf3⟩
                rcases List.mem_append.1 hu with h1 | h1
                · exact hlim2.out u h1
                · simp at h1; omega
              case measure => simp [intOf]; omega
        · obtain rfl : j = 9 := by omega
          have t2 : decide ((9 : Int) < 9) = false := by decide
          have hprec : k + 1 = n → IsPrec (sval l) M.length := fun e => by
            rw [hlen2.out]
            have h1 := H_hnn.out
            refine digits_limbs H_h.out.lim (by omega) H_hxx.out (by omega) (hpos.out e) ?_
            have := H_hn.out k (by omega); rw [← H_hxx.out] at this; omega
          have hnine : k + 1 < n → M.length = 9 * (k + 1) := fun e => by have := hlen2.out; omega
          have H_hprec := Lib.hid hprec; clear hprec
          have H_hnine := Lib.hid hnine; clear hnine
          have hfits := hlen2.out
          go_wp2_with (fail)
          go_roundw
          case rel => exact ⟨k + 1, M, by omega, by simp, hown2.out, hlim2, H_hnine, H_hprec, Lib.hid (by have := hlen2.out; omega), hf2⟩
          case measure => simp [intOf]; omega
    · obtain rfl : k = n := by omega
      have t1 : decide ((k : Int) < (k : Int)) = false := by simp
      have hp := hlast.out rfl
      have hLpos : 0 < L.length := by
        rcases Nat.eq_zero_or_pos L.length with h | h
        · rw [h] at hp; have h8 := hp.1; have h9 := H_hvpos.out; simp at h8; omega
        · exact h
      obtain ⟨g, cap, rfl, hcap, hBg, hby⟩ := SBy.of_owns H_hown.out hlim.out hLpos
      have hLn := hlen9.out
      obtain ⟨N, hN⟩ : ∃ N, N = L.length := ⟨_, rfl⟩
      rw [← hN] at hp hLpos hcap hLn ⊢
      have t2 : ((N : Int) == 0) = false := by rw [beq_eq_false_iff_ne]; omega
      clear H_hown
      have H_hp := Lib.hid hp; clear hp
      have H_hby := Lib.hid hby; clear hby
      have H_hN := Lib.hid hN; clear hN
      go_wp2_with (fail)
      go_loopw [7, 8] (fun iv jv w2 => ∃ (i j : Nat) (M : List Nat), i + j + 1 = N ∧ iv = .int .i64 i ∧ jv = .int .i64 j ∧ Hid (SBy w2 g M) ∧ Hid (M.length = N) ∧ Hid (Fresh w w2)) (fun _ jv _ => (intOf jv).toNat)
      case atStart => exact ⟨0, N - 1, L, by omega, rfl, by congr 1; omega, H_hby, Lib.hid H_hN.out.symm, hf⟩
      case round =>
        obtain ⟨i, j, M, hij, rfl, rfl, hby2, hML, hf2⟩ := hrel
        by_cases hlt2 : i < j
        · have t3 : decide ((i : Int) < (j : Int)) = true := by simp; omega
          have hc1 := hby2.out.cell (i := i) (by have := hML.out; omega)
          have hc2 := hby2.out.cell (i := j) (by have := hML.out; omega)
          have hz1 := hby2.out.frozen i
          have hz2 := hby2.out.frozen j
          have hb1 := hby2.out.lt i
          have hb2 := hby2.out.lt j
          generalize M.getD i 0 = xi at *
          generalize M.getD j 0 = xj at *
          have s1 := fun (W : World) (hW : SBy W g M) => (hW.set i hb2).set j hb1
          have s2 := fun (W : World) (hW : SBy W g M) => (hW.set j hb1).set i hb2
          have H_s1 := Lib.hid s1; clear s1
          have H_s2 := Lib.hid s2; clear s2
          go_wp2_with (fail)

          go_region
          all_goals go_wp2_with (fail)
          all_goals go_roundw
          all_goals first
            | (refine ⟨i + 1, j - 1, _, by omega, by simp, by congr 1; omega, Lib.hid (H_s1.out _ hby2.out).drew, Lib.hid (by simp; exact hML.out), ?_⟩
               exact ((hf2.out.setCell (fun h => absurd h (by show ¬ g < w.heap.size; omega)) _).setCell (fun h => absurd h (by show ¬ g < w.heap.size; omega)) _).drew)
            | (refine ⟨i + 1, j - 1, _, by omega, by simp, by congr 1; omega, Lib.hid (H_s2.out _ hby2.out).drew, Lib.hid (by simp; exact hML.out), ?_⟩
               exact ((hf2.out.setCell (fun h => absurd h (by show ¬ g < w.heap.size; omega)) _).setCell (fun h => absurd h (by show ¬ g < w.heap.size; omega)) _).drew)
            | (simp [intOf]; omega)
            | trace_state
        · have t3 : decide ((i : Int) < (j : Int)) = false := by simp; omega
          obtain ⟨s, hs, hconv⟩ := hby2.out.text cap
          rw [hML.out] at hs hconv
          have H_hs := Lib.hid hs; clear hs
          go_wp2_with (fail)
          go_ret
          exact ⟨s, rfl, by rw [H_hs.out]; exact H_hp.out, hf2.out⟩

set_option maxRecDepth 20000 in
theorem Digits_any (v : Value) (l : List Nat) (p : Nat) (w : World) (h : SNat w v l) (hn : Norm l) (hlen : l.length ≤ 1000) (hp : IsPrec (sval l) p) (hp2 : p ≤ 1000000) :
    Calls Tryz.prog 26 #[v] w (VRet w (.int .i64 p)) := by
  obtain ⟨a, c, rfl⟩ := h.form
  rcases Nat.eq_zero_or_pos l.length with h0 | h0
  · obtain rfl := List.eq_nil_of_length_eq_zero h0
    obtain rfl : p = 0 := by
      have := hp.lt_iff.1 (show sval [] < 10 ^ 0 by simp [sval]); omega
    clear h hp h0
    go_enter Tryz.func26, Tryz.ntmps26
    go_wp2
    go_ret
    exact ⟨rfl, Keep.refl _ _⟩
  · obtain ⟨n, hnn⟩ : ∃ n, n = l.length := ⟨_, rfl⟩
    have hcall := fun W (hW : Fresh w W) => NatString_any _ l W (h.fresh hW) hn h0 hlen
    rw [← hnn] at h h0 hlen hcall ⊢
    have t1 : ((n : Int) == 0) = false := by rw [beq_eq_false_iff_ne]; omega
    have H_hcall := Lib.hid hcall; clear hcall
    have H_hnn := Lib.hid hnn; clear hnn
    have H_h := Lib.hid h; clear h
    have H_hn := Lib.hid hn; clear hn
    have H_hp := Lib.hid hp; clear hp
    go_enter Tryz.func26, Tryz.ntmps26
    go_wp2_with (fail)
    refine (H_hcall.out _ (Keep.refl _ _)).mono ?_
    rintro e w2 ⟨s, rfl, hs, hf⟩
    have hsz : s.size = p := hs.unique H_hp.out
    have H_hf := Lib.hid hf
    clear hf hs
    go_wp2_with (fail)
    go_ret
    exact ⟨by simp, H_hf.out⟩

end Go.Proofs.YtjjolcjeiogdmabGreatDoor

/- The contracts of govalues' whole numbers of 64 bits: mul, lsh; getters of two decimals. -/
namespace Go.Proofs.YtjjolcjeiogdmabGreatDoor
open Go.RowKit

theorem wrap_u64n (n : Nat) (h : n < 18446744073709551616) : IntKind.u64.wrap (n : Int) = (n : Int) := by
  simp [IntKind.wrap, IntKind.bits, IntKind.signed]; omega

/-- a product or what is told when there is no room for it -/
def mulTo (n : Nat) : Value := if n ≤ 9999999999999999999 then .tuple #[.int .u64 n, .bool true] else .tuple #[.int .u64 0, .bool false]

theorem mulTo_cases (n : Nat) : mulTo n = .tuple #[.int .u64 n, .bool true] ∨ mulTo n = .tuple #[.int .u64 0, .bool false] := by
  unfold mulTo
  split
  · exact .inl rfl
  · exact .inr rfl

set_option maxRecDepth 20000 in
theorem fmul_any (x y : Nat) (w : World) (_hx : x ≤ 9999999999999999999) (hy0 : 0 < y) (hy : y ≤ 10000000000000000000) :
    Calls Tryz.prog 66 #[.int .u64 x, .int .u64 y] w (fun e w' => e = .returned (mulTo (x * y)) ∧ w' = w) := by
  have t0 : ((y : Int) == 0) = false := by rw [beq_eq_false_iff_ne]; omega
  have hyN : ¬ y = 0 := by omega
  obtain ⟨p, hp⟩ : ∃ p, p = x * y := ⟨_, rfl⟩
  obtain ⟨z, hz⟩ : ∃ z, z = p % 18446744073709551616 := ⟨_, rfl⟩
  have hmulI : IntKind.u64.wrap ((x : Int) * (y : Int)) = (z : Int) := by
    have e : (x : Int) * (y : Int) = ((x * y : Nat) : Int) := by simp
    rw [e, ← hp, hz]
    simp [IntKind.wrap, IntKind.bits, IntKind.signed]
  have hdiv : Int.tdiv (z : Int) (y : Int) = ((z / y : Nat) : Int) := by rw [Int.tdiv_eq_ediv_of_nonneg (by omega)]; rfl
  have hdw : IntKind.u64.wrap ((z / y : Nat) : Int) = ((z / y : Nat) : Int) := wrap_u64n _ (by have := Nat.div_le_self z y; omega)
  by_cases hov : p < 18446744073709551616
  · have hzp : z = p := by omega
    have hq : z / y = x := by rw [hzp, hp]; exact Nat.mul_div_cancel _ hy0
    rw [hq] at hdiv hdw
    have t1 : ((x : Int) == (x : Int)) = true := by simp
    rw [← hp]
    by_cases hm : p ≤ 9999999999999999999
    · have hr : mulTo p = .tuple #[.int .u64 z, .bool true] := by unfold mulTo; rw [if_pos hm, hzp]
      rw [hr]
      have hzl : ¬ 9999999999999999999 < z := by omega
      have t2 : decide ((9999999999999999999 : Int) < (z : Int)) = false := by simp; omega
      clear hp hz hov hzp hq hm hr
      go_enter Tryz.func66, Tryz.ntmps66
      go_wp2
      go_ret2
      exact ⟨rfl, rfl⟩
    · have hr : mulTo p = .tuple #[.int .u64 0, .bool false] := by unfold mulTo; rw [if_neg hm]
      rw [hr]
      have hzl : 9999999999999999999 < z := by omega
      have t2 : decide ((9999999999999999999 : Int) < (z : Int)) = true := by simp; omega
      clear hp hz hov hzp hq hm hr
      go_enter Tryz.func66, Tryz.ntmps66
      go_wp2
      go_ret2
      exact ⟨rfl, rfl⟩
  · have hq : z / y ≠ x := by
      intro h
      have h1 : y * (z / y) ≤ z := Nat.mul_div_le _ _
      rw [h, Nat.mul_comm, ← hp] at h1
      omega
    have hr : mulTo p = .tuple #[.int .u64 0, .bool false] := by unfold mulTo; rw [if_neg (by omega)]
    rw [← hp, hr]
    generalize z / y = q at *
    have t1 : ((q : Int) == (x : Int)) = false := by rw [beq_eq_false_iff_ne]; omega
    clear hp hz hov hr
    go_enter Tryz.func66, Tryz.ntmps66
    go_wp2
    go_ret2
    exact ⟨rfl, rfl⟩

theorem flsh_zero (x : Nat) (w : World) : Calls Tryz.prog 53 #[.int .u64 x, .int .i64 0] w (fun e w' => e = .returned (.tuple #[.int .u64 x, .bool true]) ∧ w' = w) := by
  go_enter Tryz.func53, Tryz.ntmps53
  go_wp2
  go_ret2
  exact ⟨rfl, rfl⟩

theorem flsh_one (x : Nat) (w : World) (h : x < 999999999999999999) : Calls Tryz.prog 53 #[.int .u64 x, .int .i64 1] w (fun e w' => e = .returned (mulTo (x * 10)) ∧ w' = w) := by
  have hr : mulTo (x * 10) = .tuple #[.int .u64 ((x : Int) * 10), .bool true] := by unfold mulTo; rw [if_pos (by omega)]; simp
  have t1 : decide ((x : Int) < 999999999999999999) = true := by simp; omega
  rw [hr]
  clear hr
  go_enter Tryz.func53, Tryz.ntmps53
  go_wp2
  go_ret2
  exact ⟨rfl, rfl⟩

set_option maxRecDepth 20000 in
theorem flsh_gen (x k : Nat) (w : World) (hP : Pow10s w) (hx : x ≤ 9999999999999999999) (h0 : 0 < k) (hk : k ≤ 19) (h1 : k = 1 → ¬ x < 999999999999999999) :
    Calls Tryz.prog 53 #[.int .u64 x, .int .i64 k] w (fun e w' => e = .returned (mulTo (x * 10 ^ k)) ∧ w' = w) := by
  have hcl := hP k (by omega)
  have hy0 : 0 < 10 ^ k := Nat.pow_pos (by omega)
  have hyl : 10 ^ k ≤ 10000000000000000000 := by
    have : 10 ^ k ≤ 10 ^ 19 := Nat.pow_le_pow_right (by omega) hk
    omega
  obtain ⟨y, hy⟩ : ∃ y, y = 10 ^ k := ⟨_, rfl⟩
  rw [← hy] at hcl hy0 hyl ⊢
  have t2 : decide ((k : Int) ≤ 0) = false := by simp; omega
  have t3 : decide ((20 : Int) ≤ (k : Int)) = false := by simp; omega
  clear hy
  by_cases hk1 : k = 1
  · subst hk1
    have t4 : decide ((x : Int) < 999999999999999999) = false := by have := h1 rfl; simp; omega
    have hxn := h1 rfl
    have hc := fmul_any x y w hx hy0 hyl
    have H_hP := Lib.hid hP; clear hP
    have H_h1 := Lib.hid h1; clear h1
    generalize x * y = p at hc ⊢
    rcases mulTo_cases p with hr | hr <;> rw [hr] at hc ⊢ <;> clear hr
    · have H_hc := Lib.hid hc
      clear hc
      go_enter Tryz.func53, Tryz.ntmps53
      go_wp2_with (fail)
      refine H_hc.out.mono ?_
      rintro e w1 ⟨rfl, rfl⟩
      go_wp2
      go_ret2
      exact ⟨rfl, rfl⟩
    · have H_hc := Lib.hid hc
      clear hc
      go_enter Tryz.func53, Tryz.ntmps53
      go_wp2_with (fail)
      refine H_hc.out.mono ?_
      rintro e w1 ⟨rfl, rfl⟩
      go_wp2
      go_ret2
      exact ⟨rfl, rfl⟩
  · have t4 : ((k : Int) == 1) = false := by rw [beq_eq_false_iff_ne]; omega
    have hc := fmul_any x y w hx hy0 hyl
    have H_hP := Lib.hid hP; clear hP
    have H_h1 := Lib.hid h1; clear h1
    generalize x * y = p at hc ⊢
    rcases mulTo_cases p with hr | hr <;> rw [hr] at hc ⊢ <;> clear hr
    · have H_hc := Lib.hid hc
      clear hc
      go_enter Tryz.func53, Tryz.ntmps53
      go_wp2_with (fail)
      refine H_hc.out.mono ?_
      rintro e w1 ⟨rfl, rfl⟩
      go_wp2
      go_ret2
      exact ⟨rfl, rfl⟩
    · have H_hc := Lib.hid hc
      clear hc
      go_enter Tryz.func53, Tryz.ntmps53
      go_wp2_with (fail)
      refine H_hc.out.mono ?_
      rintro e w1 ⟨rfl, rfl⟩
      go_wp2
      go_ret2
      exact ⟨rfl, rfl⟩

/-- x times ten to the power of k, for numbers of at most 19 digits -/
theorem flsh_any (x k : Nat) (w : World) (hP : Pow10s w) (hx : x ≤ 9999999999999999999) (hk : k ≤ 19) :
    Calls Tryz.prog 53 #[.int .u64 x, .int .i64 k] w (fun e w' => e = .returned (mulTo (x * 10 ^ k)) ∧ w' = w) := by
  rcases Nat.eq_zero_or_pos k with h0 | h0
  · subst h0
    have hr : mulTo (x * 10 ^ 0) = .tuple #[.int .u64 x, .bool true] := by unfold mulTo; rw [if_pos (by omega)]; simp
    rw [hr]
    exact flsh_zero x w
  · by_cases h1 : k = 1 ∧ x < 999999999999999999
    · obtain ⟨rfl, h1⟩ := h1
      exact flsh_one x w h1
    · exact flsh_gen x k w hP hx h0 hk (fun e h => h1 ⟨e, h⟩)

end Go.Proofs.YtjjolcjeiogdmabGreatDoor

/- The contracts of the reference on govalues' decimals: FixIs, Minus, FixDec. -/
namespace Go.Proofs.YtjjolcjeiogdmabGreatDoor
open Go.RowKit

/-- are the parts those of a decimal? -/
def fixIs (c : Nat) (s : Int) : Bool := decide (c ≤ 9999999999999999999) && (decide (0 ≤ s) && decide (s ≤ 19))

theorem FixIs_any (neg : Bool) (c : Nat) (s : Int) (w : World) : Calls Tryz.prog 4 #[.agg #[.bool neg, .int .u64 c, .int .i64 s]] w (VRet w (.bool (fixIs c s))) := by
  by_cases h1 : c ≤ 9999999999999999999
  · have t1 : decide ((c : Int) ≤ 9999999999999999999) = true := by simp; omega
    by_cases h2 : 0 ≤ s
    · have t2 : decide ((0 : Int) ≤ s) = true := by simp; omega
      by_cases h3 : s ≤ 19
      · have t3 : decide (s ≤ (19 : Int)) = true := by simp; omega
        have hr : fixIs c s = true := by unfold fixIs; simp; omega
        rw [hr]
        clear hr h1 h2 h3
        go_enter Tryz.func4, Tryz.ntmps4
        go_wp2
        go_ret
        exact ⟨rfl, (Keep.refl _ _).alloc _⟩
      · have t3 : decide (s ≤ (19 : Int)) = false := by simp; omega
        have hr : fixIs c s = false := by unfold fixIs; simp; omega
        rw [hr]
        clear hr h1 h2 h3
        go_enter Tryz.func4, Tryz.ntmps4
        go_wp2
        go_ret
        exact ⟨rfl, (Keep.refl _ _).alloc _⟩
    · have t2 : decide ((0 : Int) ≤ s) = false := by simp; omega
      have hr : fixIs c s = false := by unfold fixIs; simp; omega
      rw [hr]
      clear hr h1 h2
      go_enter Tryz.func4, Tryz.ntmps4
      go_wp2
      go_ret
      exact ⟨rfl, (Keep.refl _ _).alloc _⟩
  · have t1 : decide ((c : Int) ≤ 9999999999999999999) = false := by simp; omega
    have hr : fixIs c s = false := by unfold fixIs; simp; omega
    rw [hr]
    clear hr h1
    go_enter Tryz.func4, Tryz.ntmps4
    go_wp2
    go_ret
    exact ⟨rfl, (Keep.refl _ _).alloc _⟩

end Go.Proofs.YtjjolcjeiogdmabGreatDoor

/- The contracts of the reference on govalues' decimals: Minus, FixDec, FixNum. -/
namespace Go.Proofs.YtjjolcjeiogdmabGreatDoor
open Go.RowKit

/-- the call returns the decimal number of a decimal -/
def DRet (w : World) (neg : Bool) (c s : Nat) (e : Ending) (w' : World) : Prop :=
  ∃ v l, e = .returned (.agg #[.bool (neg && decide (0 < l.length)), v, .int .i64 (-(s : Int))]) ∧ SNat w' v l ∧ Norm l ∧ sval l = c ∧ Fresh w w'

set_option maxRecDepth 20000 in
set_option maxHeartbeats 2000000 in
theorem FixDec_any (neg : Bool) (c s : Nat) (w : World) (hs : s ≤ 19) (hc : c ≤ 9999999999999999999) :
    Calls Tryz.prog 16 #[fx neg c s] w (DRet w neg c s) := by
  have t1 : IntKind.i64.wrap (-(s : Int)) = -(s : Int) := by rw [IntKind.wrap_i64]; omega
  obtain ⟨g, hg⟩ : ∃ g, g = w.heap.size := ⟨_, rfl⟩
  have bx := boxes2 w #[.bool neg, .int .u64 c, .int .i64 s] #[.bool false, .slice none 0 0, .int .i64 0] 24 49 g hg
  have H_bx := Lib.hid bx; clear bx
  go_enter Tryz.func16, Tryz.ntmps16
  go_wp2_with (fail)
  generalize hw1 : (w.alloc _).alloc _ = w1
  rw [← hg]
  obtain ⟨b1, b2, hf⟩ := H_bx.out w1 hw1
  have k0 := row_cell b1 0
  have k1 := row_cell b1 1
  have k2 := row_cell b1 2
  simp at k0 k1 k2
  have H_b1 := Lib.hid b1; clear b1
  have H_b2 := Lib.hid b2; clear b2
  have H_hf := Lib.hid hf; clear hf
  have H_hw1 := Lib.hid hw1; clear hw1
  have H_hg := Lib.hid hg; clear hg
  go_region_held3 (fun (w' : World) => w'.cell? ⟨g, 0, none⟩ = some (.bool neg) ∧ w'.cell? ⟨g, 1, none⟩ = some (.int .u64 c) ∧ w'.cell? ⟨g, 2, none⟩ = some (.int .i64 s)) (first | exact ⟨k0, k1, k2⟩ | exact ⟨m0, m1, m2⟩ | exact ⟨n0, n1, n2⟩ | exact ⟨far3 (by omega) n0, far3 (by omega) n1, far3 (by omega) n2⟩) (first
    | (go_at_call 31; (with_reducible refine (NatFrom_any c _ (by omega)).mono ?_); rintro e w2 ⟨v, l, rfl, r1, r2, r3, r⟩; obtain ⟨a, cc, rfl⟩ := r1.form; have hf0 : Fresh w1 w2 := (by first | exact r | exact r.of_drew | exact r.of_drewN); have m0 := cell_fresh k0 hf0; have m1 := cell_fresh k1 hf0; have m2 := cell_fresh k2 hf0; have H_r1 := Lib.hid r1; have H_r2 := Lib.hid r2; have H_r3 := Lib.hid r3; have H_hf0 := Lib.hid hf0; clear r1 r2 r3 r hf0)
    | (go_at_call 17; (with_reducible refine (wholeOf_any _ _ _ _ H_r1.out).mono ?_); rintro e w3 ⟨rfl, r⟩; have n0 := cell_fresh m0 r; have n1 := cell_fresh m1 r; have n2 := cell_fresh m2 r; have hfa := fresh_trans H_hf0.out r; have b4 := row_fresh H_b2.out hfa; have p0 := row_cell b4 0; have p1 := row_cell b4 1; have p2 := row_cell b4 2; simp at p0 p1 p2; have q0 : w3.frozen? ⟨g + 1, 0, none⟩ = false := frozen_of_row _ _ _ _ _ b4; have q1 : w3.frozen? ⟨g + 1, 1, none⟩ = false := frozen_of_row _ _ _ _ _ b4; have q2 : w3.frozen? ⟨g + 1, 2, none⟩ = false := frozen_of_row _ _ _ _ _ b4; have H_s1 := Lib.hid (H_r1.out.fresh r); have H_hfa := Lib.hid hfa; have H_b4 := Lib.hid b4; clear hfa b4 r))
  go_wp2
  refine bodyPost_ret (results_cell_row rfl _ _ (g + 1) 49 #[.bool (neg && decide (0 < l.length)), .slice a l.length cc, .int .i64 (-(s : Int))] (0, 0) _ rfl (row_set (row_set (row_set H_b4.out))) Tryz.underlying49 rfl (by kernel_rfl)) rfl ?_
  have f1 := H_s1.out.off p0 (fun n e => by simp at e)
  exact ⟨_, l, rfl, ((H_s1.out.setOff f1).setOff f1).setOff f1, H_r2.out, H_r3.out, (fresh_trans H_hf.out H_hfa.out).set3 (by have := H_hg.out; omega)⟩

theorem DecFrac_any (neg : Bool) (v : Value) (l : List Nat) (s : Nat) (w : World) (h : SNat w v l) (hn : Norm l) (hc : l = [] → neg = false) (hs : s ≤ 1000) (hl : l.length ≤ 1000) :
    Calls Tryz.prog 15 #[.agg #[.bool neg, v, .int .i64 (-(s : Int))]] w (FRet w (sint neg l) (10 ^ s)) := by
  by_cases h0 : s = 0
  · subst h0
    have := DecFrac_pos neg v l 0 w h (by omega) (by omega) (by omega)
    rw [show sint neg l * ((10 ^ 0 : Nat) : Int) = sint neg l by simp] at this
    exact this
  · exact DecFrac_neg neg v l s w h hn hc (by omega) (by omega)

end Go.Proofs.YtjjolcjeiogdmabGreatDoor

/- The contracts of the reference on govalues' decimals: FixNum, FixHas. -/
namespace Go.Proofs.YtjjolcjeiogdmabGreatDoor
open Go.RowKit

/-- the numerator of a decimal of govalues -/
def zfix (neg : Bool) (c : Nat) : Int := if neg then -(c : Int) else (c : Int)

theorem sint_zfix {neg : Bool} {l : List Nat} {c : Nat} (hn : Norm l) (h : sval l = c) : sint (neg && decide (0 < l.length)) l = zfix neg c := by
  by_cases h0 : 0 < l.length
  · simp [h0, sint, zfix, h]
  · obtain rfl : l = [] := List.eq_nil_of_length_eq_zero (by omega)
    simp [sval] at h
    subst h
    cases neg <;> simp [sint, zfix, sval]

theorem len_of {l : List Nat} {c : Nat} (hn : Norm l) (h : sval l = c) (hc : c ≤ 9999999999999999999) : l.length ≤ 3 :=
  hn.s_len_le (by rw [h]; have : spow 3 = 1000000000000000000000000000 := rfl; omega)

set_option maxRecDepth 20000 in
set_option maxHeartbeats 2000000 in
theorem FixNum_any (neg : Bool) (c s : Nat) (w : World) (hs : s ≤ 19) (hc : c ≤ 9999999999999999999) :
    Calls Tryz.prog 7 #[fx neg c s] w (FRet w (zfix neg c) (10 ^ s)) := by
  obtain ⟨g, hg⟩ : ∃ g, g = w.heap.size := ⟨_, rfl⟩
  have bx := boxes2 w #[.bool neg, .int .u64 c, .int .i64 s] #[.bool false, .slice none 0 0, .slice none 0 0] 24 34 g hg
  have H_bx := Lib.hid bx; clear bx
  go_enter Tryz.func7, Tryz.ntmps7
  go_wp2_with (fail)
  generalize hw1 : (w.alloc _).alloc _ = w1
  rw [← hg]
  obtain ⟨b1, b2, hf⟩ := H_bx.out w1 hw1
  have H_b1 := Lib.hid b1; clear b1
  have H_b2 := Lib.hid b2; clear b2
  have H_hf := Lib.hid hf; clear hf
  have H_hw1 := Lib.hid hw1; clear hw1
  have H_hg := Lib.hid hg; clear hg
  refine (FixDec_any neg c s _ hs hc).mono ?_
  rintro e w2 ⟨v, l, rfl, r1, r2, r3, r4⟩
  obtain ⟨a, cc, rfl⟩ := r1.form
  have hz := sint_zfix (neg := neg) r2 r3
  have hl := len_of r2 r3 hc
  have hcall := DecFrac_any (neg && decide (0 < l.length)) _ l s w2 r1 r2 (by rintro rfl; simp) (by omega) (by omega)
  rw [hz] at hcall
  have H_r1 := Lib.hid r1; clear r1
  have H_r2 := Lib.hid r2; clear r2
  have H_r3 := Lib.hid r3; clear r3
  have H_r4 := Lib.hid r4; clear r4
  have H_hz := Lib.hid hz; clear hz
  have H_hcall := Lib.hid hcall; clear hcall
  generalize hbn : (neg && decide (0 < l.length)) = bn at *
  have H_hbn := Lib.hid hbn
  clear hbn
  go_wp2_with (fail)
  refine H_hcall.out.mono ?_
  rintro e w3 ⟨x, rfl, ⟨n2, v2, l2, dv, dl, rfl, s1, s2, s3, s4, s5, s6, s7⟩, hf3⟩
  obtain ⟨a2, cc2, rfl⟩ := s1.form
  obtain ⟨a3, cc3, rfl⟩ := s5.form
  have hfa := fresh_trans H_r4.out hf3
  have b4 := row_fresh H_b2.out hfa
  have p0 := row_cell b4 0
  have p1 := row_cell b4 1
  have p2 := row_cell b4 2
  simp at p0 p1 p2
  have q0 : w3.frozen? ⟨g + 1, 0, none⟩ = false := frozen_of_row _ _ _ _ _ b4
  have q1 : w3.frozen? ⟨g + 1, 1, none⟩ = false := frozen_of_row _ _ _ _ _ b4
  have q2 : w3.frozen? ⟨g + 1, 2, none⟩ = false := frozen_of_row _ _ _ _ _ b4
  have H_s1 := Lib.hid s1; clear s1
  have H_s2 := Lib.hid s2; clear s2
  have H_s3 := Lib.hid s3; clear s3
  have H_s4 := Lib.hid s4; clear s4
  have H_s5 := Lib.hid s5; clear s5
  have H_s6 := Lib.hid s6; clear s6
  have H_s7 := Lib.hid s7; clear s7
  have H_hf3 := Lib.hid hf3; clear hf3
  have H_hfa := Lib.hid hfa; clear hfa
  have H_b4 := Lib.hid b4; clear b4
  go_wp2_with (fail)
  refine bodyPost_ret (results_cell_row rfl _ _ (g + 1) 34 #[.bool n2, .slice a2 l2.length cc2, .slice a3 dl.length cc3] (0, 0) _ rfl (row_set (row_set (row_set H_b4.out))) Tryz.underlying34 rfl (by kernel_rfl)) rfl ?_
  have f1 := H_s1.out.off p0 (fun n e => by simp at e)
  have f2 := H_s5.out.off p0 (fun n e => by simp at e)
  exact ⟨_, rfl, ⟨n2, _, l2, _, dl, rfl, ((H_s1.out.setOff f1).setOff f1).setOff f1, H_s2.out, H_s3.out, H_s4.out, ((H_s5.out.setOff f2).setOff f2).setOff f2, H_s6.out, H_s7.out⟩, (fresh_trans H_hf.out H_hfa.out).set3 (by have := H_hg.out; omega)⟩

theorem ten_spow {s : Nat} (hs : s ≤ 19) : 10 ^ s < spow 1000 := by
  have h1 : 10 ^ s ≤ 10 ^ 19 := Nat.pow_le_pow_right (by omega) hs
  have h2 := spow_mono (m := 3) (n := 1000) (by omega)
  have h3 : spow 3 = 1000000000000000000000000000 := rfl
  omega

theorem zfix_spow {neg : Bool} {c : Nat} (hc : c ≤ 9999999999999999999) : (zfix neg c).natAbs < spow 1000 := by
  have h1 : (zfix neg c).natAbs = c := by unfold zfix; split <;> simp
  have h2 := spow_mono (m := 3) (n := 1000) (by omega)
  have h3 : spow 3 = 1000000000000000000000000000 := rfl
  rw [h1]; omega

end Go.Proofs.YtjjolcjeiogdmabGreatDoor
