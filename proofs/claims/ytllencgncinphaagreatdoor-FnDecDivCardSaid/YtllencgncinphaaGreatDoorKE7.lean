/- Natural numbers as limbs of nine decimal digits: values, without a program. -/
import Derived.Test.YtllencgncinphaaGreatDoorRows
import Derived.ProofKit
import Derived.LaidMore
import Derived.OpenShut
import Derived.OpenVars
import Derived.Stop.Joined
import Derived.Stop.LaidErr
import Derived.Lib.LaidTab
import Derived.Lib.SmallJoins
import Derived.Test.YtllencgncinphaaGreatDoorProg
import Derived.Outline
import Derived.WalkLawsBesides
import Derived.WalkSpells
import Derived.OwnWalk
import Derived.Test.YtllencgncinphaaGreatDoorKE3
import Derived.Test.YtllencgncinphaaGreatDoorKE6
namespace Go.Proofs.YtllencgncinphaaGreatDoor
open Go.RowKit Go Go.ChangeShapes Go.WideShapes Go.ChangeAt Go.Lib Go.Joins
open Go.Lib (hid)
set_option maxRecDepth 100000
set_option maxHeartbeats 1000000

def sval : List Nat → Nat
 | [] => 0
 | x :: xs => x + 1000000000 * sval xs

def spow (n : Nat) : Nat := 1000000000 ^ n

theorem spow_zero : spow 0 = 1 := rfl
theorem spow_succ (n : Nat) : spow (n + 1) = 1000000000 * spow n := by unfold spow; rw [Nat.pow_succ, Nat.mul_comm]
theorem spow_add (m n : Nat) : spow (m + n) = spow m * spow n := by unfold spow; rw [Nat.pow_add]
theorem spow_pos (n : Nat) : 0 < spow n := by unfold spow; exact Nat.pow_pos (by omega)
theorem spow_mono {m n : Nat} (h : m ≤ n) : spow m ≤ spow n := by unfold spow; exact Nat.pow_le_pow_right (by omega) h
theorem spow_lt {m n : Nat} (h : m < n) : spow m < spow n := by unfold spow; exact Nat.pow_lt_pow_right (by omega) h
theorem spow_ten (n : Nat) : spow n = 10 ^ (9 * n) := by unfold spow; rw [Nat.pow_mul]

theorem sval_append (xs ys : List Nat) : sval (xs ++ ys) = sval xs + spow xs.length * sval ys := by
 induction xs with
 | nil => simp [sval, spow_zero]
 | cons x xs ih =>
   simp only [List.cons_append, sval, ih, List.length_cons, spow_succ, Nat.mul_add, Nat.mul_assoc]
   omega

def Lim (l : List Nat) : Prop := ∀ x ∈ l, x < 1000000000

theorem Lim.nil : Lim [] := fun x h => by cases h
theorem Lim.append {l m : List Nat} (h : Lim l) (k : Lim m) : Lim (l ++ m) := fun x hx => by
 rcases List.mem_append.1 hx with h1 | h1
 · exact h x h1
 · exact k x h1
theorem Lim.one {x : Nat} (h : x < 1000000000) : Lim [x] := fun y hy => by simp at hy; subst hy; exact h
theorem Lim.take {l : List Nat} (h : Lim l) (n : Nat) : Lim (l.take n) := fun x hx => h x (List.mem_of_mem_take hx)
theorem Lim.drop {l : List Nat} (h : Lim l) (n : Nat) : Lim (l.drop n) := fun x hx => h x (List.mem_of_mem_drop hx)
theorem Lim.getD {l : List Nat} (h : Lim l) (k : Nat) : l.getD k 0 < 1000000000 := getD_lt h (by omega) k

theorem sval_lt {xs : List Nat} (h : Lim xs) : sval xs < spow xs.length := by
 induction xs with
 | nil => simp [sval, spow_zero]
 | cons x xs ih =>
   have h1 := ih (fun a ha => h a (List.mem_cons_of_mem _ ha))
   have h2 := h x (List.mem_cons_self ..)
   simp only [sval, List.length_cons, spow_succ]
   omega

theorem sval_take_succ {l : List Nat} {k : Nat} (h : k < l.length) : sval (l.take (k + 1)) = sval (l.take k) + spow k * l.getD k 0 := by
 have e : l.take (k + 1) = l.take k ++ [l.getD k 0] := by
  rw [List.take_succ_eq_append_getElem h]; simp [List.getD, h]
 rw [e, sval_append]
 simp [sval, Nat.min_eq_left (Nat.le_of_lt h)]

theorem Norm.s_ge {l : List Nat} (h : Norm l) {k : Nat} (hk : l.length = k + 1) : spow k ≤ sval l := by
 have h1 := sval_take_succ (l := l) (k := k) (by omega)
 rw [← hk, List.take_length] at h1
 have h2 := h k hk
 have : spow k * 1 ≤ spow k * l.getD k 0 := Nat.mul_le_mul_left _ (by omega)
 omega

theorem Norm.s_len_le {l : List Nat} (h : Norm l) {k : Nat} (hv : sval l < spow k) : l.length ≤ k := by
 rcases Nat.lt_or_ge k l.length with hlt | hge
 · exfalso
   obtain ⟨j, hj⟩ : ∃ j, l.length = j + 1 := ⟨l.length - 1, by omega⟩
   have := h.s_ge hj
   have := spow_mono (m := k) (n := j) (by omega)
   omega
 · exact hge

theorem sval_nil_of {l : List Nat} (h : Norm l) (hv : sval l = 0) : l = [] := by
 have := h.s_len_le (k := 0) (by rw [hv]; exact spow_pos 0)
 exact List.eq_nil_of_length_eq_zero (by omega)

theorem sval_pos_iff {l : List Nat} (h : Norm l) : 0 < l.length ↔ 0 < sval l := by
 constructor
 · intro hl
   obtain ⟨j, hj⟩ : ∃ j, l.length = j + 1 := ⟨l.length - 1, by omega⟩
   have := h.s_ge hj
   have := spow_pos j
   omega
 · intro hv
   rcases Nat.eq_zero_or_pos l.length with h0 | h0
   · rw [List.eq_nil_of_length_eq_zero h0] at hv; simp [sval] at hv
   · exact h0

theorem sval_cmp_len {l m : List Nat} (hl : Norm l) (hm : Lim m) (h : m.length < l.length) : sval m < sval l := by
 obtain ⟨j, hj⟩ : ∃ j, l.length = j + 1 := ⟨l.length - 1, by omega⟩
 have h1 := hl.s_ge hj
 have h2 := sval_lt hm
 have h3 := spow_mono (m := m.length) (n := j) (by omega)
 omega

theorem sval_lt_at {xs ys : List Nat} (hx : Lim xs) {k : Nat} (hk : k < xs.length) (hl : xs.length = ys.length) (hd : ∀ j, k < j → j < xs.length → xs.getD j 0 = ys.getD j 0) (h : xs.getD k 0 < ys.getD k 0) : sval xs < sval ys := by
 have e : xs.drop (k + 1) = ys.drop (k + 1) := ext_getD (by simp [hl]) (fun i hi => by
  simp only [List.length_drop] at hi
  simp only [List.getD_eq_getElem?_getD, List.getElem?_drop]
  have := hd (k + 1 + i) (by omega) (by omega)
  simpa [List.getD_eq_getElem?_getD] using this)
 have ex : sval xs = sval (xs.take (k + 1)) + spow (k + 1) * sval (xs.drop (k + 1)) := by
  have := sval_append (xs.take (k + 1)) (xs.drop (k + 1))
  rwa [List.take_append_drop, List.length_take, Nat.min_eq_left (by omega)] at this
 have ey : sval ys = sval (ys.take (k + 1)) + spow (k + 1) * sval (ys.drop (k + 1)) := by
  have := sval_append (ys.take (k + 1)) (ys.drop (k + 1))
  rwa [List.take_append_drop, List.length_take, Nat.min_eq_left (by omega)] at this
 rw [ex, ey, e, sval_take_succ (by omega), sval_take_succ (by omega)]
 have h1 := sval_lt (hx.take k)
 rw [List.length_take, Nat.min_eq_left (by omega)] at h1
 have h2 : spow k * (xs.getD k 0) + spow k ≤ spow k * (ys.getD k 0) := by
  rw [← Nat.mul_succ]; exact Nat.mul_le_mul_left _ (by omega)
 omega

theorem scmp_at_lt {xs ys : List Nat} (hx : Lim xs) (hl : xs.length = ys.length) {k : Nat} (hk : k < xs.length) (hd : ∀ j, k < j → j < xs.length → xs.getD j 0 = ys.getD j 0) (h : xs.getD k 0 < ys.getD k 0) : cmpN (sval xs) (sval ys) = -1 :=
 cmpN_lt (sval_lt_at hx hk hl hd h)

theorem scmp_at_gt {xs ys : List Nat} (hy : Lim ys) (hl : xs.length = ys.length) {k : Nat} (hk : k < xs.length) (hd : ∀ j, k < j → j < xs.length → xs.getD j 0 = ys.getD j 0) (h : ys.getD k 0 < xs.getD k 0) : cmpN (sval xs) (sval ys) = 1 :=
 cmpN_gt (sval_lt_at hy (by omega) hl.symm (fun j h1 h2 => (hd j h1 (by omega)).symm) h)

theorem normK_sval (l : List Nat) : ∀ n, n ≤ l.length → sval (l.take (normL.normK l n)) = sval (l.take n)
 | 0, _ => rfl
 | n + 1, h => by
   simp only [normL.normK]; split
   · rename_i h0
     rw [normK_sval l n (by omega), sval_take_succ (by omega), h0]; simp
   · rfl

theorem normL_sval (l : List Nat) : sval (normL l) = sval l := by
 unfold normL; rw [normK_sval l _ (Nat.le_refl _), List.take_length]

theorem normL_norm (l : List Nat) : Norm (normL l) := normK_norm l _ (Nat.le_refl _)

def SNat (w : World) (v : Value) (l : List Nat) : Prop :=
 Lim l ∧ l.length ≤ 1000000 ∧ ((v = .slice none 0 0 ∧ l = []) ∨
  ∃ g cap cur T, v = .slice (some ⟨g, 0, none⟩) l.length cap ∧ w.heap[g]? = some (.cells cur T (0, 0)) ∧ l.length ≤ cap ∧ cap ≤ 9223372036854775807 ∧ cap ≤ cur.size ∧ cur.toList.take l.length = l.map (wd .u32))

theorem SNat.lim {w : World} {v : Value} {l : List Nat} (h : SNat w v l) : Lim l := h.1
theorem SNat.len {w : World} {v : Value} {l : List Nat} (h : SNat w v l) : l.length ≤ 1000000 := h.2.1
theorem SNat.nil (w : World) : SNat w (.slice none 0 0) [] := ⟨Lim.nil, by simp, .inl ⟨rfl, rfl⟩⟩

theorem SNat.form {w : World} {v : Value} {l : List Nat} (h : SNat w v l) : ∃ a cap, v = .slice a l.length cap := by
 rcases h.2.2 with ⟨rfl, rfl⟩ | ⟨g, cap, cur, T, rfl, _⟩
 · exact ⟨none, 0, rfl⟩
 · exact ⟨_, _, rfl⟩

theorem SNat.keep {S : Nat → Prop} {w w' : World} {v : Value} {l : List Nat} (h : SNat w v l) (hk : Keep S w w') (hs : ∀ g, v.ownBlock = some g → ¬ S g) : SNat w' v l := by
 refine ⟨h.1, h.2.1, ?_⟩
 rcases h.2.2 with h0 | ⟨g, cap, cur, T, rfl, hg, hr⟩
 · exact .inl h0
 · refine .inr ⟨g, cap, cur, T, rfl, ?_, hr⟩
   have hlt : g < w.heap.size := by
    rcases Nat.lt_or_ge g w.heap.size with hlt | hge
    · exact hlt
    · rw [Array.getElem?_eq_none hge] at hg; cases hg
   rw [hk.block g hlt (hs g rfl)]; exact hg

theorem SNat.fresh {w w' : World} {v : Value} {l : List Nat} (h : SNat w v l) (hk : Fresh w w') : SNat w' v l := h.keep hk (fun _ _ h => h)
theorem SNat.drewN {w : World} {v : Value} {l : List Nat} (h : SNat w v l) (n : Nat) : SNat (w.drewN n) v l := h
theorem SNat.drew {w : World} {v : Value} {l : List Nat} (h : SNat w v l) : SNat w.drew v l := h

theorem SNat.open_pos {w : World} {v : Value} {l : List Nat} (h : SNat w v l) (hn : 0 < l.length) :
 ∃ g cap, v = .slice (some ⟨g, 0, none⟩) l.length cap ∧ l.length ≤ cap ∧ cap ≤ 9223372036854775807 ∧ g < w.heap.size ∧ ∀ i, i < l.length → w.cell? ⟨g, i, none⟩ = some (wd .u32 (l.getD i 0)) := by
 rcases h.2.2 with ⟨_, rfl⟩ | ⟨g, cap, cur, T, rfl, hg, h1, h2, h3, h4⟩
 · simp at hn
 · refine ⟨g, cap, rfl, h1, h2, ?_, fun i hi => ?_⟩
   · rcases Nat.lt_or_ge g w.heap.size with hlt | hge
     · exact hlt
     · rw [Array.getElem?_eq_none hge] at hg; cases hg
   · rw [cell_of_row w g i cur T _ hg]
     have e := congrArg (fun L => L[i]?) h4
     simp only [List.getElem?_take, List.getElem?_map] at e
     rw [if_pos hi] at e
     rw [← Array.getElem?_toList, e, List.getElem?_eq_getElem hi]
     simp [List.getD, hi]

theorem SNat.cut {w : World} {g cap : Nat} {l : List Nat} (h : SNat w (.slice (some ⟨g, 0, none⟩) l.length cap) l) {n : Nat} (hn : n ≤ l.length) : SNat w (.slice (some ⟨g, 0, none⟩) n cap) (l.take n) := by
 have hl : (l.take n).length = n := by simp; omega
 refine ⟨h.1.take n, by have := h.2.1; omega, ?_⟩
 rcases h.2.2 with ⟨h0, _⟩ | ⟨g', cap', cur, T, he, hg, h1, h2, h3, h4⟩
 · cases h0
 · cases he
   refine .inr ⟨g, cap, cur, T, by rw [hl], hg, by omega, h2, h3, ?_⟩
   rw [hl]
   have := congrArg (fun L => L.take n) h4
   simp only [List.take_take, Nat.min_eq_left hn] at this
   rw [this, List.map_take]

theorem SNat.of_owns {w : World} {B T n : Nat} {v : Value} {l : List Nat} (h : w.ownsRow B T 1 v n (l.map (wd .u32))) (hl : Lim l) (hn : l.length ≤ 1000000) : SNat w v l := by
 obtain ⟨h1, h2⟩ := h
 simp only [List.length_map, Nat.mul_one] at h1
 refine ⟨hl, hn, ?_⟩
 rcases h2 with ⟨h0, hn0⟩ | ⟨g, cap, cur, rfl, _, hg, h3, h4, h5, h6⟩
 · exact .inl ⟨h0, List.eq_nil_of_length_eq_zero (by omega)⟩
 · refine .inr ⟨g, cap, cur, T, by rw [h1], hg, by omega, by unfold maxLen at h4; omega, by omega, ?_⟩
   rw [h1]; rw [Nat.mul_one] at h6; exact h6

theorem SNat.of_blk {w : World} {g : Nat} {l : List Nat} (h : Blk .u32 w g l) (hl : Lim l) (hn : l.length ≤ 1000000) : SNat w (.slice (some ⟨g, 0, none⟩) l.length l.length) l := by
 obtain ⟨T, hT⟩ := h
 exact ⟨hl, hn, .inr ⟨g, l.length, _, T, rfl, hT, Nat.le_refl _, by omega, by simp, List.take_of_length_le (by simp)⟩⟩

def SRet (w : World) (n : Nat) (e : Ending) (w' : World) : Prop := ∃ v l, e = .returned v ∧ SNat w' v l ∧ Norm l ∧ sval l = n ∧ Fresh w w'

def rdig (n : Nat) : List Nat := if n = 0 then [] else (48 + n % 10) :: rdig (n / 10)
termination_by n
decreasing_by omega

def dval : List Nat → Nat
 | [] => 0
 | c :: l => (c - 48) + 10 * dval l

def IsD (l : List Nat) : Prop := ∀ c ∈ l, 48 ≤ c ∧ c ≤ 57

theorem IsD.nil : IsD [] := fun _ h => by cases h
theorem IsD.append {l m : List Nat} (h : IsD l) (k : IsD m) : IsD (l ++ m) := fun x hx => by
 rcases List.mem_append.1 hx with h1 | h1
 · exact h x h1
 · exact k x h1
theorem IsD.one {x : Nat} (h1 : 48 ≤ x) (h2 : x ≤ 57) : IsD [x] := fun y hy => by simp at hy; subst hy; exact ⟨h1, h2⟩
theorem IsD.reverse {l : List Nat} (h : IsD l) : IsD l.reverse := fun x hx => h x (List.mem_reverse.1 hx)
theorem IsD.getD {l : List Nat} (h : IsD l) {k : Nat} (hk : k < l.length) : 48 ≤ l.getD k 0 ∧ l.getD k 0 ≤ 57 := by
 rw [show l.getD k 0 = l[k] by simp [List.getD, hk]]; exact h _ (List.getElem_mem hk)
theorem IsD.byte {l : List Nat} (h : IsD l) : ∀ c ∈ l, c < 256 := fun c hc => by have := (h c hc).2; omega
theorem IsD.take {l : List Nat} (h : IsD l) (n : Nat) : IsD (l.take n) := fun x hx => h x (List.mem_of_mem_take hx)
theorem IsD.drop {l : List Nat} (h : IsD l) (n : Nat) : IsD (l.drop n) := fun x hx => h x (List.mem_of_mem_drop hx)

theorem rdig_zero : rdig 0 = [] := by rw [rdig]; simp
theorem rdig_pos {n : Nat} (h : n ≠ 0) : rdig n = (48 + n % 10) :: rdig (n / 10) := by rw [rdig]; simp [h]

theorem rdig_isD (n : Nat) : IsD (rdig n) := by
 induction n using Nat.strongRecOn with
 | ind n ih =>
   by_cases h : n = 0
   · subst h; rw [rdig_zero]; exact IsD.nil
   · rw [rdig_pos h]
     intro c hc
     rcases List.mem_cons.1 hc with h1 | h1
     · omega
     · exact ih (n / 10) (by omega) c h1

theorem dval_rdig (n : Nat) : dval (rdig n) = n := by
 induction n using Nat.strongRecOn with
 | ind n ih =>
   by_cases h : n = 0
   · subst h; rw [rdig_zero]; rfl
   · rw [rdig_pos h]
     simp only [dval]
     rw [ih (n / 10) (by omega)]
     omega

theorem dval_append (a b : List Nat) : dval (a ++ b) = dval a + 10 ^ a.length * dval b := by
 induction a with
 | nil => simp [dval]
 | cons c a ih =>
   simp only [List.cons_append, dval, ih, List.length_cons, Nat.pow_succ, Nat.mul_add]
   rw [Nat.mul_comm (10 ^ a.length) 10, Nat.mul_assoc]
   omega

theorem dval_lt {l : List Nat} (h : IsD l) : dval l < 10 ^ l.length := by
 induction l with
 | nil => simp [dval]
 | cons c l ih =>
   have h1 := ih (fun x hx => h x (List.mem_cons_of_mem _ hx))
   have h2 := h c (List.mem_cons_self ..)
   simp only [dval, List.length_cons, Nat.pow_succ]
   omega

theorem rdig_of {l : List Nat} (h : IsD l) (hp : ∀ k, l.length = k + 1 → 10 ^ k ≤ dval l) : l = rdig (dval l) := by
 induction l with
 | nil => simp [dval, rdig_zero]
 | cons c l ih =>
   have hc := h c (List.mem_cons_self ..)
   have hl : IsD l := fun x hx => h x (List.mem_cons_of_mem _ hx)
   have h0 := hp l.length rfl
   have hpos : 0 < 10 ^ l.length := Nat.pow_pos (by omega)
   have hne : dval (c :: l) ≠ 0 := by omega
   rw [rdig_pos hne]
   have e1 : 48 + dval (c :: l) % 10 = c := by simp only [dval]; omega
   have e2 : dval (c :: l) / 10 = dval l := by simp only [dval]; omega
   rw [e1, e2]
   congr 1
   refine ih hl (fun k hk => ?_)
   rw [hk] at h0
   simp only [dval, Nat.pow_succ] at h0
   omega

theorem rdig_len (n : Nat) : n < 10 ^ (rdig n).length := by
 have := dval_lt (rdig_isD n)
 rwa [dval_rdig] at this

theorem rdig_ge (n : Nat) : ∀ k, (rdig n).length = k + 1 → 10 ^ k ≤ n := by
 induction n using Nat.strongRecOn with
 | ind n ih =>
   intro k hk
   by_cases h : n = 0
   · subst h; rw [rdig_zero] at hk; simp at hk
   · rw [rdig_pos h] at hk
     simp only [List.length_cons] at hk
     rcases Nat.eq_zero_or_pos k with h0 | h0
     · subst h0; simp; omega
     · obtain ⟨j, rfl⟩ : ∃ j, k = j + 1 := ⟨k - 1, by omega⟩
       have := ih (n / 10) (by omega) j (by omega)
       rw [Nat.pow_succ]; omega

theorem rdig_len_le {n p : Nat} (h : n < 10 ^ p) : (rdig n).length ≤ p := by
 rcases Nat.lt_or_ge p (rdig n).length with h1 | h1
 · obtain ⟨k, hk⟩ : ∃ k, (rdig n).length = k + 1 := ⟨(rdig n).length - 1, by omega⟩
   have h2 := rdig_ge n k hk
   have h3 : 10 ^ p ≤ 10 ^ k := Nat.pow_le_pow_right (by omega) (by omega)
   omega
 · exact h1

theorem rdig_pos_len {n : Nat} (h : 0 < n) : 0 < (rdig n).length := by rw [rdig_pos (by omega)]; simp

def hdig (n : Nat) : List Nat := if n = 0 then [48] else (rdig n).reverse

theorem hdig_zero : hdig 0 = [48] := rfl
theorem hdig_pos {n : Nat} (h : 0 < n) : hdig n = (rdig n).reverse := by unfold hdig; rw [if_neg (by omega)]

theorem hdig_isD (n : Nat) : IsD (hdig n) := by
 unfold hdig; split
 · exact IsD.one (by omega) (by omega)
 · exact (rdig_isD n).reverse

theorem hdig_pos_len (n : Nat) : 0 < (hdig n).length := by
 unfold hdig; split
 · simp
 · rw [List.length_reverse]; exact rdig_pos_len (by omega)

theorem hdig_val (n : Nat) : dval (hdig n).reverse = n := by
 unfold hdig; split
 · rename_i h; subst h; rfl
 · rw [List.reverse_reverse, dval_rdig]

theorem hdig_len_le {n p : Nat} (h : n < 10 ^ p) (hp : 0 < p) : (hdig n).length ≤ p := by
 unfold hdig; split
 · simp; omega
 · rw [List.length_reverse]; exact rdig_len_le h

theorem hdig_head {n : Nat} (h : 0 < n) : (hdig n).getD 0 0 ≠ 48 := by
 rw [hdig_pos h]
 obtain ⟨k, hk⟩ : ∃ k, (rdig n).length = k + 1 := ⟨(rdig n).length - 1, by have := rdig_pos_len h; omega⟩
 have h1 := rdig_ge n k hk
 have e : rdig n = (rdig n).take k ++ [(rdig n).getD k 0] := by
  have := List.take_succ_eq_append_getElem (l := rdig n) (i := k) (by omega)
  rw [List.take_of_length_le (by omega)] at this
  refine this.trans ?_
  congr 2
  simp [List.getD, hk]
 rw [show (rdig n).reverse.getD 0 0 = (rdig n).getD k 0 by
  simp [List.getD, hk]]
 intro h48
 have h2 : dval (rdig n) = dval ((rdig n).take k) + 10 ^ k * dval [(rdig n).getD k 0] := by
  conv => lhs; rw [e]
  rw [dval_append]; simp [Nat.min_eq_left (show k ≤ (rdig n).length by omega)]
 rw [h48, dval_rdig] at h2
 have h3 := dval_lt ((rdig_isD n).take k)
 simp [dval, hk, Nat.min_eq_left (Nat.le_succ k)] at h2 h3
 omega

theorem hdig_of {l : List Nat} (h : IsD l) (h0 : 0 < l.length) (hh : l.getD 0 0 ≠ 48) : l = hdig (dval l.reverse) ∧ 0 < dval l.reverse := by
 have hge : ∀ k, l.reverse.length = k + 1 → 10 ^ k ≤ dval l.reverse := by
  intro k hk
  obtain ⟨c, m, rfl⟩ : ∃ c m, l = c :: m := by cases l with | nil => simp at h0 | cons c m => exact ⟨c, m, rfl⟩
  simp at hk hh
  have hc := h c (List.mem_cons_self ..)
  rw [List.reverse_cons, dval_append, List.length_reverse, hk]
  have : 10 ^ k * 1 ≤ 10 ^ k * dval [c] := Nat.mul_le_mul_left _ (by simp [dval]; omega)
  omega
 have hpos : 0 < dval l.reverse := by
  obtain ⟨k, hk⟩ : ∃ k, l.reverse.length = k + 1 := ⟨l.reverse.length - 1, by simp; omega⟩
  have := hge k hk
  have : 0 < 10 ^ k := Nat.pow_pos (by omega)
  omega
 refine ⟨?_, hpos⟩
 rw [hdig_pos hpos]
 have := rdig_of h.reverse hge
 rw [← this, List.reverse_reverse]

def wdig (z : Int) : List Nat := (if z < 0 then [45] else []) ++ hdig z.natAbs

theorem wdig_nonneg {z : Int} (h : 0 ≤ z) : wdig z = hdig z.natAbs := by unfold wdig; rw [if_neg (by omega)]; rfl
theorem wdig_neg {z : Int} (h : z < 0) : wdig z = 45 :: hdig z.natAbs := by unfold wdig; rw [if_pos h]; rfl

theorem wdig_pos_len (z : Int) : 0 < (wdig z).length := by
 unfold wdig; rw [List.length_append]; have := hdig_pos_len z.natAbs; omega

theorem wdig_byte (z : Int) : ∀ c ∈ wdig z, c < 256 := fun c hc => by
 unfold wdig at hc
 rcases List.mem_append.1 hc with h | h
 · split at h
   · simp at h; omega
   · cases h
 · exact (hdig_isD _).byte c h

theorem wdig_len_le {z : Int} {p : Nat} (h : z.natAbs < 10 ^ p) (hp : 0 < p) : (wdig z).length ≤ p + 1 := by
 have := hdig_len_le h hp
 unfold wdig; rw [List.length_append]; split <;> simp <;> omega

def bstr (l : List Nat) : ByteArray := ⟨(l.map UInt8.ofNat).toArray⟩

theorem bstr_size (l : List Nat) : (bstr l).size = l.length := by simp [bstr, ByteArray.size]

theorem bstr_get {l : List Nat} (hl : ∀ c ∈ l, c < 256) {i : Nat} (hi : i < (bstr l).size) : ((bstr l)[i]'hi).toNat = l.getD i 0 := by
 have h1 : i < l.length := by rwa [bstr_size] at hi
 have e : (bstr l)[i]'hi = UInt8.ofNat l[i] := by
  show (bstr l).data[i]'_ = _
  simp [bstr]
 rw [e, UInt8.toNat_ofNat', Nat.mod_eq_of_lt (hl _ (List.getElem_mem h1))]
 simp [List.getD, h1]

theorem bstr_extract (l : List Nat) (a b : Nat) : (bstr l).extract a b = bstr ((l.take b).drop a) := by
 apply ByteArray.ext
 rw [List.drop_take]
 simp [bstr, ByteArray.extract_mk, ← List.map_drop, ← List.map_take]

theorem bstr_append (l m : List Nat) : bstr l ++ bstr m = bstr (l ++ m) := by
 apply ByteArray.ext
 simp [bstr, ByteArray.data_append]

theorem bstr_toList (l : List Nat) : (bstr l).toList = l.map UInt8.ofNat := by
 unfold bstr; rw [ByteArray.toList_mk]

theorem bstr_any (s : ByteArray) : ∃ l : List Nat, s = bstr l ∧ ∀ c ∈ l, c < 256 := by
 refine ⟨s.data.toList.map UInt8.toNat, ?_, fun c hc => ?_⟩
 · apply ByteArray.ext
   simp [bstr, Function.comp_def]
 · obtain ⟨b, _, rfl⟩ := List.mem_map.1 hc
   exact UInt8.toNat_lt b

structure Rev (L M : List Nat) (i : Nat) : Prop where
 len : M.length = L.length
 lo : ∀ t, t < i → M.getD t 0 = L.getD (L.length - 1 - t) 0 ∧ M.getD (L.length - 1 - t) 0 = L.getD t 0
 mid : ∀ t, i ≤ t → t + i < L.length → M.getD t 0 = L.getD t 0

theorem Rev.start (L : List Nat) : Rev L L 0 := ⟨rfl, fun _ h => by omega, fun _ _ _ => rfl⟩

theorem tx_getD_set {l : List Nat} {i t x : Nat} (h : i < l.length) : (l.set i x).getD t 0 = if t = i then x else l.getD t 0 := by
 simp only [List.getD, List.getElem?_set]
 by_cases e : i = t
 · subst e; simp [h]
 · rw [if_neg e, if_neg (fun e' => e e'.symm)]

theorem Rev.step {L M : List Nat} {i j : Nat} (h : Rev L M i) (hij : i + j + 1 = L.length) (hlt : i < j) : Rev L ((M.set i (M.getD j 0)).set j (M.getD i 0)) (i + 1) := by
 have hl := h.len
 refine ⟨by simp [hl], fun t ht => ?_, fun t h1 h2 => ?_⟩
 · rw [tx_getD_set (by simp; omega), tx_getD_set (by omega), tx_getD_set (by simp; omega), tx_getD_set (by omega)]
   rcases Nat.lt_or_ge t i with h1 | h1
   · have := h.lo t h1
     rw [if_neg (by omega), if_neg (by omega), if_neg (by omega), if_neg (by omega)]
     exact this
   · have e : t = i := by omega
     subst e
     have h3 := h.mid t (Nat.le_refl _) (by omega)
     have h4 := h.mid j (by omega) (by omega)
     rw [if_neg (by omega), if_pos rfl, if_pos (by omega), h3, h4]
     exact ⟨by congr 1; omega, rfl⟩
 · rw [tx_getD_set (by simp; omega), tx_getD_set (by omega), if_neg (by omega), if_neg (by omega)]
   exact h.mid t (by omega) (by omega)

theorem Rev.step' {L M : List Nat} {i j : Nat} (h : Rev L M i) (hij : i + j + 1 = L.length) (hlt : i < j) : Rev L ((M.set j (M.getD i 0)).set i (M.getD j 0)) (i + 1) := by
 rw [List.set_comm _ _ (by omega)]
 exact h.step hij hlt

theorem Rev.done {L M : List Nat} {i j : Nat} (h : Rev L M i) (hij : i + j + 1 = L.length) (hge : j ≤ i) : M = L.reverse := by
 have hl := h.len
 apply List.ext_getElem
 · simp [hl]
 · intro t h1 h2
   have e1 : M[t] = M.getD t 0 := by simp [List.getD, h1]
   have e2 : L.reverse[t] = L.getD (L.length - 1 - t) 0 := by
    simp only [List.getElem_reverse, List.getD]
    rw [List.getElem?_eq_getElem (by omega)]; rfl
   rw [e1, e2]
   rcases Nat.lt_or_ge t i with h3 | h3
   · exact (h.lo t h3).1
   · rcases Nat.lt_or_ge j t with h5 | h5
     · have h6 := (h.lo (L.length - 1 - t) (by omega)).2
       rw [show L.length - 1 - (L.length - 1 - t) = t by omega] at h6
       exact h6
     · rw [h.mid t h3 (by omega)]
       congr 1; omega

theorem rw_own : ownKnob Tryz.prog.godebug = none := by kernel_rfl
theorem rw_laidOut : laidOutB Tryz.prog = true := by kernel_rfl

theorem i64_wf {n : Int} (h : (Lit.int .i64 n).wf = true) : -9223372036854775808 ≤ n ∧ n ≤ 9223372036854775807 := by
 have e1 : IntKind.i64.min = -9223372036854775808 := by decide
 have e2 : IntKind.i64.max = 9223372036854775807 := by decide
 simp only [Lit.wf, Bool.and_eq_true, decide_eq_true_eq, e1, e2] at h
 exact h

theorem int_of_laid {W : World} {name : String} {n : Int} {rest : List (String × DataW Unit)} {g : Nat} {t : TypeId} (hg : Tryz.prog.globalNamed name = some g) (hty : (Tryz.prog.globals[g]?).map (·.type) = some t) (ht : Tryz.prog.underlying t = some (.int .i64))
 (h : laidMet Tryz.prog ((name, .lit (.int .i64 n)) :: rest) W) : W.cell? ⟨g, 0, none⟩ = some (.int .i64 n) := by
 obtain ⟨ps, ⟨g', t', cs, fuel, p, q, hg', ht', hvar, hd, _, _⟩, _⟩ := h
 obtain rfl := Option.some.inj (hg.symm.trans hg')
 obtain rfl := Option.some.inj (hty.symm.trans ht')
 obtain ⟨k, e1, e2, _⟩ := DataW.trod_int ht hd
 have hk : n = k := by simpa using congrArg Prod.fst e2
 subst hk
 have := World.var?_cell hg hvar 0
 rw [Array.eq_one_of_toList e1] at this
 simpa using this

theorem size_of_cell {w : World} {g : Nat} {v : Value} (h : w.cell? ⟨g, 0, none⟩ = some v) : g < w.heap.size := World.block_lt_of_cell? w _ h

theorem glob_of {W : World} (h1 : W.cell? ⟨5, 0, none⟩ = some (.int .i64 40)) (h2 : W.cell? ⟨3, 0, none⟩ = some (.int .i64 12))
 (h3 : W.cell? ⟨4, 0, none⟩ = some (.int .i64 80)) (h4 : W.cell? ⟨2, 0, none⟩ = some (.int .i64 40)) : Glob W := by
 have s1 := size_of_cell h1
 have s2 := size_of_cell h2
 have s3 := size_of_cell h3
 have s4 := size_of_cell h4
 exact ⟨by unfold NG; omega, h1, h2, h3, h4⟩

section
variable {H : Type} {enc : TypeId × Value → H}

theorem open_dec {w : World} {r : Reach} {b0 base : Nat} {spare : Nat → Bool} {held : Bool} {v : Value} {d : DataW H} {p : List MemPlace} (hv : Value.okWide Tryz.prog w r b0 23 v) (h : DataW.Trod enc Tryz.prog w base spare held 23 v d p) :
 ∃ (s : ByteArray) (x : Int), v = .agg #[.string s, .int .i64 x] ∧ d = .agg [.lit (.string s.data.toList), .lit (.int .i64 x)] ∧ p = [] ∧ s.size ≤ maxLen ∧ (Lit.int .i64 x).wf = true := by
 obtain ⟨v0, v1, y0, y1, n, rfl, rfl, rfl, h0, h1⟩ := open_agg2 Tryz.underlying23 (by kernel_rfl) (by kernel_rfl) hv h
 obtain ⟨s, e0, rfl, w1⟩ := DataW.trod_string Tryz.underlying9 h0
 obtain ⟨x, e1, rfl, w2⟩ := DataW.trod_int Tryz.underlying3 h1
 simp at e0 e1
 subst e0 e1
 exact ⟨s, x, rfl, rfl, rfl, w1, w2⟩

theorem shut_dec {w : World} {base : Nat} {spare : Nat → Bool} {held : Bool} {s : ByteArray} {x : Int} (h1 : s.size ≤ maxLen) (h2 : (Lit.int .i64 x).wf = true) :
 DataW.Trod enc Tryz.prog w base spare held 23 (.agg #[.string s, .int .i64 x]) (.agg [.lit (.string s.data.toList), .lit (.int .i64 x)]) [] :=
 shut_agg2 (y0 := (.lit (.string s.data.toList), [])) (y1 := (.lit (.int .i64 x), [])) Tryz.underlying23 (by kernel_rfl) (by kernel_rfl) ⟨1, by simp [DataW.trod, Tryz.underlying9, h1]⟩ (shut_int Tryz.underlying3 h2)

theorem trodVars_length {P : Program} {w : World} {sp : Nat → Bool} : ∀ {ns : List String} {gs : List (DataW H)} {ps : List MemPlace}, DataW.TrodVars enc P w sp ns gs ps → gs.length = ns.length
 | [], [], _, _ => rfl
 | [], _ :: _, _, h => h.elim
 | _ :: _, [], _, h => h.elim
 | _ :: ns, _ :: gs, _, h => by
   obtain ⟨_, _, _, _, _, _, _, _, _, _, h, _⟩ := h
   simp [trodVars_length h]

end

theorem info_u32 : (Tryz.prog.info? 75).map (fun i => (i.zero, i.size, i.bytes)) = some (some (.int .u32 0), 1, 4) := by kernel_rfl

theorem natTrim_any (v : Value) (l : List Nat) (w : World) (h : SNat w v l) : Calls Tryz.prog 101 #[v] w (SRet w (sval l)) := by
 by_cases h0 : l.length = 0
 · obtain rfl : l = [] := List.eq_nil_of_length_eq_zero h0
   obtain ⟨a, c, rfl⟩ := h.form
   have H_h := hid h
   clear h h0
   go_enter Tryz.func101, Tryz.ntmps101
   go_wp2
   refine wp_loop_rounds 1 ?_
   rw [rounds_succ]
   go_wp2
   go_ret
   exact ⟨_, [], rfl, H_h.out, Norm.nil, rfl, Keep.refl _ _⟩
 · obtain ⟨g, cap, rfl, h1, h2, h3, h4⟩ := h.open_pos (by omega)
   have hlen := h.len
   generalize hn : l.length = n at *
   have H_h := hid h; have H_h4 := hid h4; clear h h4
   go_enter Tryz.func101, Tryz.ntmps101
   go_wp2
   go_loop [0] (fun v => ∃ k : Nat, k ≤ n ∧ v = .slice (some ⟨g, 0, none⟩) k cap ∧ Hid (normL.normK l n = normL.normK l k)) (fun v => match v with | .slice _ m _ => m | _ => 0)
   case atStart => exact ⟨n, Nat.le_refl _, rfl, rfl⟩
   case round =>
    obtain ⟨k, hk, rfl, he⟩ := hrel
    cases k with
    | zero =>
      go_wp2
      go_ret
      have hc := SNat.cut (w := w) (l := l) (by rw [hn]; exact H_h.out) (n := 0) (by omega)
      have hv : sval (normL l) = sval l := normL_sval l
      have hz : normL l = l.take 0 := by unfold normL; rw [hn, he.out]; rfl
      exact ⟨_, l.take 0, rfl, hc, by rw [← hz]; exact normL_norm l, by rw [← hz]; exact hv, Keep.refl _ _⟩
    | succ k =>
      have hc := H_h4.out k (by omega)
      generalize hx : l.getD k 0 = x at *
      have H_hx := hid hx
      clear hx
      have e1 : ((k : Int) + 1 - 1) = (k : Int) := by omega
      have e2 : ((k : Int) + 1 - 1).toNat = k := by omega
      by_cases hx0 : x = 0
      · have ht : ((x : Int) == 0) = true := by subst hx0; rfl
        have H_hx0 := hid hx0
        clear hx0
        go_wp2
        go_round
        case rel =>
         refine ⟨k, by omega, by simp, ?_⟩
         have := he.out
         simp only [normL.normK] at this
         rw [if_pos (by rw [H_hx.out]; exact H_hx0.out)] at this
         exact this
        case measure => simp
      · have ht : ((x : Int) == 0) = false := by rw [beq_eq_false_iff_ne]; omega
        have H_hx0 := hid hx0
        clear hx0
        go_wp2
        go_ret
        have hc := SNat.cut (w := w) (l := l) (by rw [hn]; exact H_h.out) (n := k + 1) (by omega)
        have hz : normL l = l.take (k + 1) := by
         unfold normL; rw [hn, he.out]; simp only [normL.normK]; rw [if_neg (by rw [H_hx.out]; exact H_hx0.out)]
        exact ⟨_, l.take (k + 1), rfl, hc, by rw [← hz]; exact normL_norm l, by rw [← hz]; exact normL_sval l, Keep.refl _ _⟩

theorem scmp_eq {xs ys : List Nat} (hl : xs.length = ys.length) (hd : ∀ j, j < xs.length → xs.getD j 0 = ys.getD j 0) : cmpN (sval xs) (sval ys) = 0 := by
 have : xs = ys := ext_getD hl hd
 rw [this]; exact cmpN_eq _

theorem NatCmp_any (xv yv : Value) (xs ys : List Nat) (w : World) (hx : SNat w xv xs) (hy : SNat w yv ys) (hnx : Norm xs) (hny : Norm ys) :
 Calls Tryz.prog 53 #[xv, yv] w (Quiet w (.int .i64 (cmpN (sval xs) (sval ys)))) := by
 have hlx := hx.len
 have hly := hy.len
 rcases Nat.lt_trichotomy xs.length ys.length with hlt | heq | hgt
 · rw [cmpN_lt (sval_cmp_len hny hx.lim hlt)]
   obtain ⟨ax, cx, hxv⟩ := hx.form
   obtain ⟨ay, cy, hyv⟩ := hy.form
   generalize xs.length = m at *
   generalize ys.length = n at *
   subst hxv hyv
   have H_hx := hid hx; have H_hy := hid hy; have H_hnx := hid hnx; have H_hny := hid hny; clear hx hy hnx hny
   have t1 : ((m : Int) == (n : Int)) = false := by rw [beq_eq_false_iff_ne]; omega
   go_enter Tryz.func53, Tryz.ntmps53
   go_wp2
   go_ret
   exact ⟨rfl, 0, rfl⟩
 · by_cases h0 : xs.length = 0
   · have h1 : ys.length = 0 := by omega
     obtain rfl : xs = [] := List.eq_nil_of_length_eq_zero h0
     obtain rfl : ys = [] := List.eq_nil_of_length_eq_zero h1
     obtain ⟨ax, cx, rfl⟩ := hx.form
     obtain ⟨ay, cy, rfl⟩ := hy.form
     rw [cmpN_eq]
     clear hx hy hnx hny heq h0 h1 hlx hly
     go_enter Tryz.func53, Tryz.ntmps53
     go_wp2
     refine wp_loop_rounds 1 ?_
     rw [rounds_succ]
     go_wp2
     go_ret
     exact ⟨rfl, 0, rfl⟩
   · obtain ⟨gx, cx, rfl, hx1, hx2, hx3, hcx⟩ := hx.open_pos (by omega)
     obtain ⟨gy, cy, rfl, hy1, hy2, hy3, hcy⟩ := hy.open_pos (by omega)
     have limx := hx.lim
     have limy := hy.lim
     rw [← heq] at hcy hy1 hly ⊢
     have e1 := heq
     generalize hm : xs.length = m at *
     have hm0 : ((m : Int) == (m : Int)) = true := by simp
     have H_hx := hid hx; have H_hy := hid hy; have H_hnx := hid hnx; have H_hny := hid hny; have H_hcx := hid hcx; have H_hcy := hid hcy; have H_limx := hid limx; have H_limy := hid limy; have H_hm := hid hm; have H_e1 := hid e1; clear hx hy hnx hny hcx hcy limx limy hm e1
     clear heq
     go_enter Tryz.func53, Tryz.ntmps53
     go_wp2_with (fail)
     go_loopw [5] (fun i wr => ∃ k : Nat, k ≤ m ∧ i = .int .i64 ((k : Int) - 1) ∧ Hid (∀ j, k ≤ j → j < m → xs.getD j 0 = ys.getD j 0) ∧ ∃ nd, wr = w.drewN nd) (fun i _ => (intOf i + 1).toNat)
     case atStart => exact ⟨m, by omega, by simp, fun j h1 h2 => by omega, 0, rfl⟩
     case round =>
      obtain ⟨k, hk, rfl, hag, nd, rfl⟩ := hrel
      cases k with
      | zero =>
        have hres : cmpN (sval xs) (sval ys) = 0 := scmp_eq (by rw [H_hm.out]; exact H_e1.out) (fun j hj => hag.out j (by omega) (by rw [H_hm.out] at hj; exact hj))
        have H_hres := hid hres; clear hres
        go_wp2_with (fail)
        go_ret
        exact ⟨by rw [H_hres.out]; rfl, nd, rfl⟩
      | succ k =>
        have ek : (((k + 1 : Nat) : Int) - 1) = (k : Int) := by omega
        rw [ek]
        have hcx := H_hcx.out k (by omega)
        have hcy := H_hcy.out k (by omega)
        generalize hx : xs.getD k 0 = x at *
        generalize hy : ys.getD k 0 = y at *
        have H_hx := hid hx; have H_hy := hid hy; clear hx hy
        have hk0 : (0 : Int) ≤ (k : Int) := by omega
        have hkm : (k : Int) < (m : Int) := by omega
        rcases Nat.lt_trichotomy x y with hlt | heq | hgt
        · have res := scmp_at_lt H_limx.out (by rw [H_hm.out]; exact H_e1.out) (k := k) (by rw [H_hm.out]; omega) (fun j h1 h2 => hag.out j h1 (by rw [H_hm.out] at h2; exact h2)) (by rw [H_hx.out, H_hy.out]; exact hlt)
          have t1 : ((x : Int) == (y : Int)) = false := by rw [beq_eq_false_iff_ne]; omega
          have t2 : decide (x < y) = true := by simpa using hlt
          have H_res := hid res; clear res
          go_wp2_with (go_quiet (fail))
          go_ret
          exact ⟨by rw [H_res.out]; rfl, _, by simp only [World.drewN_drewN]; rfl⟩
        · subst heq
          have t1 : ((x : Int) == (x : Int)) = true := by simp
          go_wp2_with (go_quiet (fail))
          go_roundw
          case rel =>
           refine ⟨k, by omega, rfl, fun j h1 h2 => ?_, _, rfl⟩
           by_cases e : j = k
           · subst e; rw [H_hx.out, H_hy.out]
           · exact hag.out j (by omega) h2
          case measure => simp [intOf]
        · have res := scmp_at_gt H_limy.out (by rw [H_hm.out]; exact H_e1.out) (k := k) (by rw [H_hm.out]; omega) (fun j h1 h2 => hag.out j h1 (by rw [H_hm.out] at h2; exact h2)) (by rw [H_hx.out, H_hy.out]; exact hgt)
          have t1 : ((x : Int) == (y : Int)) = false := by rw [beq_eq_false_iff_ne]; omega
          have t2 : decide (x < y) = false := by simp; omega
          have t3 : decide (y < x) = true := by simpa using hgt
          have H_res := hid res; clear res
          go_wp2_with (go_quiet (fail))
          go_ret
          exact ⟨by rw [H_res.out]; rfl, _, by simp only [World.drewN_drewN]; rfl⟩
 · rw [cmpN_gt (sval_cmp_len hnx hy.lim hgt)]
   obtain ⟨ax, cx, hxv⟩ := hx.form
   obtain ⟨ay, cy, hyv⟩ := hy.form
   generalize xs.length = m at *
   generalize ys.length = n at *
   subst hxv hyv
   have H_hx := hid hx; have H_hy := hid hy; have H_hnx := hid hnx; have H_hny := hid hny; clear hx hy hnx hny
   have t1 : ((m : Int) == (n : Int)) = false := by rw [beq_eq_false_iff_ne]; omega
   go_enter Tryz.func53, Tryz.ntmps53
   go_wp2
   go_ret
   exact ⟨rfl, 0, rfl⟩

theorem norm_snoc {l : List Nat} {x : Nat} (h : 0 < x) : Norm (l ++ [x]) := by
 intro k hk
 have : k = l.length := by simp at hk; omega
 subst this
 rw [getD_append]; simp; omega

theorem Fresh.owns {w wr w1 : World} {B T n : Nat} {v : Value} {xs : List Value} (h : Fresh w wr) (ho : wr.ownsRow B T 1 v n xs) (hB : w.heap.size ≤ B) (hg : wr.grownBy w1 v.ownBlock) : Fresh w w1 := by
 refine h.trans (T := fun k => v.ownBlock = some k) ⟨hg.os, hg.tape, hg.output, hg.size, fun k hk hs => hg.block k hk (fun e => hs e.symm)⟩ (fun _ _ h => h) (fun k hk hs => ?_)
 have := (ho.lt k hs).1
 omega

theorem NatFrom_any (n : Nat) (w : World) (hn : n < 18446744073709551616) : Calls Tryz.prog 103 #[.int .u64 n] w (SRet w n) := by
 obtain ⟨i0, hi, hz0, hz1, hz2⟩ := info_parts info_u32
 go_enter Tryz.func103, Tryz.ntmps103
 go_wp2
 go_loopw [0, 3] (fun i v wr => ∃ (k : Nat) (l : List Nat), k < 18446744073709551616 ∧ i = .int .u64 k ∧ wr.ownsRow w.heap.size 75 1 v l.length (l.map (wd .u32)) ∧ Hid (Lim l) ∧ Hid (l.length ≤ 1000) ∧ Hid (sval l + spow l.length * k = n) ∧ Hid (k = 0 → Norm l) ∧ Hid (Fresh w wr)) (fun i _ _ => (intOf i).toNat)
 case atStart => exact ⟨n, [], hn, rfl, World.ownsRow_nil _ _ _ _, Lim.nil, hid (by simp), hid (by simp [sval, spow_zero]), fun _ => Norm.nil, Keep.refl _ _⟩
 case round =>
  obtain ⟨k, l, hk, rfl, hown, hlim, hlen, hval, hnorm, hf⟩ := hrel
  have H_hown := hid hown
  by_cases hk0 : k = 0
  · have t1 : decide (0 < k) = false := by simp [hk0]
    have H_hk0 := hid hk0
    clear hk0 hown
    go_wp2_with (fail)
    go_ret
    refine ⟨_, l, rfl, SNat.of_owns H_hown.out hlim.out (by have := hlen.out; omega), hnorm.out H_hk0.out, ?_, hf.out⟩
    have := hval.out
    rw [H_hk0.out] at this; simpa using this
  · have t1 : decide (0 < k) = true := by simp; omega
    have hlb : l.length ≤ 3 := by
     have h1 := hval.out
     rcases Nat.lt_or_ge 3 l.length with h2 | h2
     · have h3 := spow_mono (m := 3) (n := l.length) (by omega)
       have h4 : spow 3 = 1000000000000000000000000000 := rfl
       have h5 : spow l.length * 1 ≤ spow l.length * k := Nat.mul_le_mul_left _ (by omega)
       omega
     · exact h2
    have hsz := hf.out.size
    go_wp2_with (at_builtin; refine wpList_append_own _ rfl _ _ 26 rfl w.heap.size 75 i0 (.int .u32 0) 1 4 Tryz.underlying26 hi hz0 hz1 hz2 rfl (by decide) _ _ _ rfl (hown.alloc _) ⟨wr.heap.size, 0, none⟩ 1 1 [wd .u32 (k % 1000000000)] rfl rfl ?c1 ?c2 ?c3 ?c4 ?c5 ?_)
    case c1 =>
     intro j u hj
     match j, hj with
     | 0, hj => simp at hj; subst hj; simp [Addr.add, wd]
    case c2 => intro u hu; simp at hu; subst hu; rfl
    case c3 => unfold maxLen; omega
    case c4 => omega
    case c5 => simp; omega
    · intro v' w1 hown' hgrow _
      have hf1 : Fresh w w1 := Fresh.owns (hf.out.alloc _) (H_hown.out.alloc _) (Nat.le_refl _) hgrow
      have hL : (l ++ [k % 1000000000]).length = l.length + 1 := by simp
      have hown1 : w1.ownsRow w.heap.size 75 1 v' (l ++ [k % 1000000000]).length ((l ++ [k % 1000000000]).map (wd .u32)) := by
       rw [hL, List.map_append]; exact hown'
      have H_hown1 := hid hown1; have H_hf1 := hid hf1; clear hown1 hf1
      clear hown' hgrow hown
      go_wp2_with (fail)
      go_roundw
      case rel =>
       refine ⟨k / 1000000000, l ++ [k % 1000000000], by omega, by simp, H_hown1.out, hlim.out.append (Lim.one (by omega)), hid (by rw [hL]; omega), ?_, ?_, H_hf1.out⟩
       · refine hid ?_
         have h1 := hval.out
         have h2 := Nat.div_add_mod k 1000000000
         rw [sval_append, hL, spow_succ, ← h1]
         simp only [sval, Nat.mul_zero, Nat.add_zero]
         generalize k / 1000000000 = q at *
         generalize k % 1000000000 = r at *
         subst h2
         grind
       · refine hid (fun h0 => norm_snoc (by omega))
      case measure => simp [intOf]; omega

abbrev swh (neg : Bool) (v : Value) : Value := .agg #[.bool neg, v]

theorem wholeOf_any (neg : Bool) (v : Value) (l : List Nat) (w : World) (h : SNat w v l) :
 Calls Tryz.prog 56 #[.bool neg, v] w (fun e w' => e = .returned (swh (neg && decide (0 < l.length)) v) ∧ Fresh w w') := by
 obtain ⟨a, c, rfl⟩ := h.form
 generalize l.length = n at *
 clear h
 cases neg
 · go_enter Tryz.func56, Tryz.ntmps56
   go_wp2
   refine bodyPost_ret (results_cell_row rfl _ _ w.heap.size 28 #[.bool false, .slice a n c] (0, 0) _ rfl (heap_alloc_new w _) Tryz.underlying28 rfl (by kernel_rfl)) rfl ?_
   exact ⟨rfl, (Keep.refl _ _).alloc _⟩
 · go_enter Tryz.func56, Tryz.ntmps56
   go_wp2
   refine bodyPost_ret (results_cell_row rfl _ _ w.heap.size 28 #[.bool (decide (0 < n)), .slice a n c] (0, 0) _ rfl (heap_alloc_new w _) Tryz.underlying28 rfl (by kernel_rfl)) rfl ?_
   exact ⟨rfl, (Keep.refl _ _).alloc _⟩

theorem Blk.lit {k : IntKind} {w : World} {L : List Nat} {T : TypeId} : Blk k (w.alloc (.cells (L.map (wd k)).toArray T)) w.heap.size L := ⟨T, heap_alloc_new w _⟩

theorem one_any (w : World) : Calls Tryz.prog 55 #[] w (SRet w 1) := by
 go_enter Tryz.func55, Tryz.ntmps55
 go_wp2
 go_ret
 exact ⟨_, [1], rfl, SNat.of_blk (Blk.lit (L := [1])) (Lim.one (by omega)) (by simp), norm_snoc (l := []) (by omega), rfl, (Keep.refl _ _).alloc _⟩

theorem Blk.made32 {w : World} {n : Nat} {T : TypeId} : Blk .u32 (w.alloc (.cells (madeCells #[Value.int .u32 0] n) T)) w.heap.size (List.replicate n 0) := by
 refine ⟨T, ?_⟩
 rw [heap_alloc_new]
 congr 2
 apply Array.ext'
 rw [toList_madeCells_one]
 simp

theorem make_u32 (n : Nat) (w : World) (hn : n ≤ 2000000) : ∃ o, Hid (Blk .u32 (w.alloc o) w.heap.size (List.replicate n 0)) ∧
 (Instr.makeSlice 26 (.int .i64 n) (.int .i64 n)).run Tryz.prog w = .ok (.slice (some ⟨w.heap.size, 0, none⟩) n n) (w.alloc o) := by
 obtain ⟨i0, hi, hz0, hz1, hz2⟩ := info_parts info_u32
 have := run_make (P := Tryz.prog) w 26 75 i0 _ Tryz.underlying26 hi hz0 .i64 .i64 (n : Int) (n : Int) (by omega) (by omega) (by rw [hz2]; omega) (by omega)
 rw [show ((n : Int)).toNat = n from by omega] at this
 exact ⟨_, Blk.made32 (T := 75), by simpa [hz1, Value.cells] using this⟩

theorem sval_rep (n : Nat) : sval (List.replicate n 0) = 0 := by
 induction n with
 | zero => rfl
 | succ n ih => simp [List.replicate_succ, sval, ih]

theorem Lim.rep (n : Nat) : Lim (List.replicate n 0) := fun x hx => by rw [List.eq_of_mem_replicate hx]; omega

theorem rep_set (q x : Nat) : (List.replicate (q + 1) 0).set q x = List.replicate q 0 ++ [x] := by
 rw [List.replicate_succ', List.set_append]; simp

theorem Pow10_any (n : Nat) (w : World) (hn : n ≤ 1000000) : Calls Tryz.prog 50 #[.int .i64 n] w (SRet w (10 ^ n)) := by
 obtain ⟨q, hq⟩ : ∃ q, q = n / 9 := ⟨_, rfl⟩
 obtain ⟨r, hr⟩ : ∃ r, r = n % 9 := ⟨_, rfl⟩
 have hqr : n = 9 * q + r := by omega
 have hq1 : Int.tdiv (n : Int) 9 = (q : Int) := by rw [Int.tdiv_eq_ediv_of_nonneg (by omega)]; omega
 have hr1 : Int.tmod (n : Int) 9 = (r : Int) := by rw [Int.tmod_eq_emod_of_nonneg (by omega)]; omega
 have hr8 : r ≤ 8 := by omega
 have hqn : q ≤ 200000 := by omega
 obtain ⟨o, ho, mk⟩ := make_u32 (q + 1) w (by omega)
 rw [show ((q + 1 : Nat) : Int) = (q : Int) + 1 from by omega] at mk
 have hneg : decide ((n : Int) < 0) = false := by simp
 have H_hqr := hid hqr
 clear hq hr hqr
 go_enter Tryz.func50, Tryz.ntmps50
 go_wp2
 go_loop [4, 5] (fun x i => ∃ k : Nat, k ≤ r ∧ i = .int .i64 k ∧ x = .int .u32 ((10 ^ k : Nat) : Int)) (fun _ i => r - (intOf i).toNat)
 case atStart => exact ⟨0, by omega, rfl, rfl⟩
 case round =>
  obtain ⟨k, hk, rfl, rfl⟩ := hrel
  by_cases hlt : k < r
  · have hp : 10 ^ k ≤ 10 ^ 7 := Nat.pow_le_pow_right (by omega) (by omega)
    have hp2 : 10 ^ (k + 1) = 10 ^ k * 10 := Nat.pow_succ ..
    generalize 10 ^ k = x at *
    have t1 : decide ((k : Int) < (r : Int)) = true := by simp; omega
    have H_hp2 := hid hp2
    clear hp2
    go_wp2_with (fail)
    go_round
    case rel => exact ⟨k + 1, by omega, by simp, by rw [H_hp2.out]; simp⟩
    case measure => simp [intOf]; omega
  · obtain rfl : k = r := by omega
    have t1 : decide ((k : Int) < (k : Int)) = false := by simp
    have hp : 10 ^ k ≤ 10 ^ 8 := Nat.pow_le_pow_right (by omega) (by omega)
    have hp0 : 0 < 10 ^ k := Nat.pow_pos (by omega)
    obtain ⟨x, hx⟩ : ∃ x, x = 10 ^ k := ⟨_, rfl⟩
    rw [← hx] at hp hp0 ⊢
    have c1 := ho.out.cell (o := q) (by simp)
    have c2 := ho.out.frozen q
    have H_hx := hid hx
    clear hx
    go_wp2_with (fail)
    go_ret
    have hb := ho.out.set q x
    rw [rep_set] at hb
    have hL : (List.replicate q 0 ++ [x]).length = q + 1 := by simp
    have hs := SNat.of_blk hb ((Lim.rep q).append (Lim.one (by omega))) (by rw [hL]; omega)
    rw [hL] at hs
    refine ⟨_, _, rfl, hs, norm_snoc hp0, ?_, ((Keep.refl _ _).alloc o).setCell (fun h => absurd h (Nat.lt_irrefl _)) _⟩
    rw [sval_append, sval_rep, List.length_replicate, spow_ten, H_hqr.out, Nat.pow_add, H_hx.out]
    simp [sval]

end Go.Proofs.YtllencgncinphaaGreatDoor
