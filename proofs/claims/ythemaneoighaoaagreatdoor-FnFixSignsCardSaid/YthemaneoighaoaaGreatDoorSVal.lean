/- Natural numbers as limbs of nine decimal digits: values, without a program. -/
import Derived.Test.YthemaneoighaoaaGreatDoorBase
namespace Go.Proofs.YthemaneoighaoaaGreatDoor
open Go.RowKit

/-- the number of limbs of nine digits, the lowest ones first -/
def sval : List Nat → Nat
  | [] => 0
  | x :: xs => x + 1000000000 * sval xs

/-- a power of the limb -/
def spow (n : Nat) : Nat := 1000000000 ^ n

theorem spow_zero : spow 0 = 1 := rfl
theorem spow_succ (n : Nat) : spow (n + 1) = 1000000000 * spow n := by unfold spow; rw [Nat.pow_succ, Nat.mul_comm]
theorem spow_add (m n : Nat) : spow (m + n) = spow m * spow n := by unfold spow; rw [Nat.pow_add]
theorem spow_pos (n : Nat) : 0 < spow n := by unfold spow; exact Nat.pow_pos (by omega)
theorem spow_mono {m n : Nat} (h : m ≤ n) : spow m ≤ spow n := by unfold spow; exact Nat.pow_le_pow_right (by omega) h
theorem spow_lt {m n : Nat} (h : m < n) : spow m < spow n := by unfold spow; exact Nat.pow_lt_pow_right (by omega) h
theorem spow_ten (n : Nat) : spow n = 10 ^ (9 * n) := by unfold spow; rw [Nat.pow_mul]

theorem sval_append (xs ys : List Nat) : sval (xs ++ ys) = sval xs + spow xs.length * sval ys := by
  induction xs with
  | nil => simp [sval, spow_zero]
  | cons x xs ih =>
    simp only [List.cons_append, sval, ih, List.length_cons, spow_succ, Nat.mul_add, Nat.mul_assoc]
    omega

/-- all limbs are less than ten to the power of nine -/
def Lim (l : List Nat) : Prop := ∀ x ∈ l, x < 1000000000

theorem Lim.nil : Lim [] := fun x h => by cases h
theorem Lim.append {l m : List Nat} (h : Lim l) (k : Lim m) : Lim (l ++ m) := fun x hx => by
  rcases List.mem_append.1 hx with h1 | h1
  · exact h x h1
  · exact k x h1
theorem Lim.one {x : Nat} (h : x < 1000000000) : Lim [x] := fun y hy => by simp at hy; subst hy; exact h
theorem Lim.take {l : List Nat} (h : Lim l) (n : Nat) : Lim (l.take n) := fun x hx => h x (List.mem_of_mem_take hx)
theorem Lim.drop {l : List Nat} (h : Lim l) (n : Nat) : Lim (l.drop n) := fun x hx => h x (List.mem_of_mem_drop hx)
theorem Lim.getD {l : List Nat} (h : Lim l) (k : Nat) : l.getD k 0 < 1000000000 := getD_lt h (by omega) k

theorem sval_lt {xs : List Nat} (h : Lim xs) : sval xs < spow xs.length := by
  induction xs with
  | nil => simp [sval, spow_zero]
  | cons x xs ih =>
    have h1 := ih (fun a ha => h a (List.mem_cons_of_mem _ ha))
    have h2 := h x (List.mem_cons_self ..)
    simp only [sval, List.length_cons, spow_succ]
    omega

theorem sval_take_succ {l : List Nat} {k : Nat} (h : k < l.length) : sval (l.take (k + 1)) = sval (l.take k) + spow k * l.getD k 0 := by
  have e : l.take (k + 1) = l.take k ++ [l.getD k 0] := by
    rw [List.take_succ_eq_append_getElem h]; simp [List.getD, h]
  rw [e, sval_append]
  simp [sval, Nat.min_eq_left (Nat.le_of_lt h)]

theorem Norm.s_ge {l : List Nat} (h : Norm l) {k : Nat} (hk : l.length = k + 1) : spow k ≤ sval l := by
  have h1 := sval_take_succ (l := l) (k := k) (by omega)
  rw [← hk, List.take_length] at h1
  have h2 := h k hk
  have : spow k * 1 ≤ spow k * l.getD k 0 := Nat.mul_le_mul_left _ (by omega)
  omega

theorem Norm.s_len_le {l : List Nat} (h : Norm l) {k : Nat} (hv : sval l < spow k) : l.length ≤ k := by
  rcases Nat.lt_or_ge k l.length with hlt | hge
  · exfalso
    obtain ⟨j, hj⟩ : ∃ j, l.length = j + 1 := ⟨l.length - 1, by omega⟩
    have := h.s_ge hj
    have := spow_mono (m := k) (n := j) (by omega)
    omega
  · exact hge

theorem sval_nil_of {l : List Nat} (h : Norm l) (hv : sval l = 0) : l = [] := by
  have := h.s_len_le (k := 0) (by rw [hv]; exact spow_pos 0)
  exact List.eq_nil_of_length_eq_zero (by omega)

theorem sval_pos_iff {l : List Nat} (h : Norm l) : 0 < l.length ↔ 0 < sval l := by
  constructor
  · intro hl
    obtain ⟨j, hj⟩ : ∃ j, l.length = j + 1 := ⟨l.length - 1, by omega⟩
    have := h.s_ge hj
    have := spow_pos j
    omega
  · intro hv
    rcases Nat.eq_zero_or_pos l.length with h0 | h0
    · rw [List.eq_nil_of_length_eq_zero h0] at hv; simp [sval] at hv
    · exact h0

theorem sval_cmp_len {l m : List Nat} (hl : Norm l) (hm : Lim m) (h : m.length < l.length) : sval m < sval l := by
  obtain ⟨j, hj⟩ : ∃ j, l.length = j + 1 := ⟨l.length - 1, by omega⟩
  have h1 := hl.s_ge hj
  have h2 := sval_lt hm
  have h3 := spow_mono (m := m.length) (n := j) (by omega)
  omega

theorem sval_lt_at {xs ys : List Nat} (hx : Lim xs) {k : Nat} (hk : k < xs.length) (hl : xs.length = ys.length) (hd : ∀ j, k < j → j < xs.length → xs.getD j 0 = ys.getD j 0) (h : xs.getD k 0 < ys.getD k 0) : sval xs < sval ys := by
  have e : xs.drop (k + 1) = ys.drop (k + 1) := ext_getD (by simp [hl]) (fun i hi => by
    simp only [List.length_drop] at hi
    simp only [List.getD_eq_getElem?_getD, List.getElem?_drop]
    have := hd (k + 1 + i) (by omega) (by omega)
    simpa [List.getD_eq_getElem?_getD] using this)
  have ex : sval xs = sval (xs.take (k + 1)) + spow (k + 1) * sval (xs.drop (k + 1)) := by
    have := sval_append (xs.take (k + 1)) (xs.drop (k + 1))
    rwa [List.take_append_drop, List.length_take, Nat.min_eq_left (by omega)] at this
  have ey : sval ys = sval (ys.take (k + 1)) + spow (k + 1) * sval (ys.drop (k + 1)) := by
    have := sval_append (ys.take (k + 1)) (ys.drop (k + 1))
    rwa [List.take_append_drop, List.length_take, Nat.min_eq_left (by omega)] at this
  rw [ex, ey, e, sval_take_succ (by omega), sval_take_succ (by omega)]
  have h1 := sval_lt (hx.take k)
  rw [List.length_take, Nat.min_eq_left (by omega)] at h1
  have h2 : spow k * (xs.getD k 0) + spow k ≤ spow k * (ys.getD k 0) := by
    rw [← Nat.mul_succ]; exact Nat.mul_le_mul_left _ (by omega)
  omega

theorem scmp_at_lt {xs ys : List Nat} (hx : Lim xs) (hl : xs.length = ys.length) {k : Nat} (hk : k < xs.length) (hd : ∀ j, k < j → j < xs.length → xs.getD j 0 = ys.getD j 0) (h : xs.getD k 0 < ys.getD k 0) : cmpN (sval xs) (sval ys) = -1 :=
  cmpN_lt (sval_lt_at hx hk hl hd h)

theorem scmp_at_gt {xs ys : List Nat} (hy : Lim ys) (hl : xs.length = ys.length) {k : Nat} (hk : k < xs.length) (hd : ∀ j, k < j → j < xs.length → xs.getD j 0 = ys.getD j 0) (h : ys.getD k 0 < xs.getD k 0) : cmpN (sval xs) (sval ys) = 1 :=
  cmpN_gt (sval_lt_at hy (by omega) hl.symm (fun j h1 h2 => (hd j h1 (by omega)).symm) h)

theorem normK_sval (l : List Nat) : ∀ n, n ≤ l.length → sval (l.take (normL.normK l n)) = sval (l.take n)
  | 0, _ => rfl
  | n + 1, h => by
    simp only [normL.normK]; split
    · rename_i h0
      rw [normK_sval l n (by omega), sval_take_succ (by omega), h0]; simp
    · rfl

theorem normL_sval (l : List Nat) : sval (normL l) = sval l := by
  unfold normL; rw [normK_sval l _ (Nat.le_refl _), List.take_length]

theorem normL_norm (l : List Nat) : Norm (normL l) := normK_norm l _ (Nat.le_refl _)

/-- slices of limbs: what the slice v reads as -/
def SNat (w : World) (v : Value) (l : List Nat) : Prop :=
  Lim l ∧ l.length ≤ 1000000 ∧ ((v = .slice none 0 0 ∧ l = []) ∨
    ∃ g cap cur T, v = .slice (some ⟨g, 0, none⟩) l.length cap ∧ w.heap[g]? = some (.cells cur T (0, 0)) ∧ l.length ≤ cap ∧ cap ≤ 9223372036854775807 ∧ cap ≤ cur.size ∧ cur.toList.take l.length = l.map (wd .u32))

theorem SNat.lim {w : World} {v : Value} {l : List Nat} (h : SNat w v l) : Lim l := h.1
theorem SNat.len {w : World} {v : Value} {l : List Nat} (h : SNat w v l) : l.length ≤ 1000000 := h.2.1
theorem SNat.nil (w : World) : SNat w (.slice none 0 0) [] := ⟨Lim.nil, by simp, .inl ⟨rfl, rfl⟩⟩

theorem SNat.form {w : World} {v : Value} {l : List Nat} (h : SNat w v l) : ∃ a cap, v = .slice a l.length cap := by
  rcases h.2.2 with ⟨rfl, rfl⟩ | ⟨g, cap, cur, T, rfl, _⟩
  · exact ⟨none, 0, rfl⟩
  · exact ⟨_, _, rfl⟩

theorem SNat.keep {S : Nat → Prop} {w w' : World} {v : Value} {l : List Nat} (h : SNat w v l) (hk : Keep S w w') (hs : ∀ g, v.ownBlock = some g → ¬ S g) : SNat w' v l := by
  refine ⟨h.1, h.2.1, ?_⟩
  rcases h.2.2 with h0 | ⟨g, cap, cur, T, rfl, hg, hr⟩
  · exact .inl h0
  · refine .inr ⟨g, cap, cur, T, rfl, ?_, hr⟩
    have hlt : g < w.heap.size := by
      rcases Nat.lt_or_ge g w.heap.size with hlt | hge
      · exact hlt
      · rw [Array.getElem?_eq_none hge] at hg; cases hg
    rw [hk.block g hlt (hs g rfl)]; exact hg

theorem SNat.fresh {w w' : World} {v : Value} {l : List Nat} (h : SNat w v l) (hk : Fresh w w') : SNat w' v l := h.keep hk (fun _ _ h => h)
theorem SNat.drewN {w : World} {v : Value} {l : List Nat} (h : SNat w v l) (n : Nat) : SNat (w.drewN n) v l := h
theorem SNat.drew {w : World} {v : Value} {l : List Nat} (h : SNat w v l) : SNat w.drew v l := h

theorem SNat.open_pos {w : World} {v : Value} {l : List Nat} (h : SNat w v l) (hn : 0 < l.length) :
    ∃ g cap, v = .slice (some ⟨g, 0, none⟩) l.length cap ∧ l.length ≤ cap ∧ cap ≤ 9223372036854775807 ∧ g < w.heap.size ∧ ∀ i, i < l.length → w.cell? ⟨g, i, none⟩ = some (wd .u32 (l.getD i 0)) := by
  rcases h.2.2 with ⟨_, rfl⟩ | ⟨g, cap, cur, T, rfl, hg, h1, h2, h3, h4⟩
  · simp at hn
  · refine ⟨g, cap, rfl, h1, h2, ?_, fun i hi => ?_⟩
    · rcases Nat.lt_or_ge g w.heap.size with hlt | hge
      · exact hlt
      · rw [Array.getElem?_eq_none hge] at hg; cases hg
    · rw [cell_of_row w g i cur T _ hg]
      have e := congrArg (fun L => L[i]?) h4
      simp only [List.getElem?_take, List.getElem?_map] at e
      rw [if_pos hi] at e
      rw [← Array.getElem?_toList, e, List.getElem?_eq_getElem hi]
      simp [List.getD, hi]

/-- a shorter slice of the same row -/
theorem SNat.cut {w : World} {g cap : Nat} {l : List Nat} (h : SNat w (.slice (some ⟨g, 0, none⟩) l.length cap) l) {n : Nat} (hn : n ≤ l.length) : SNat w (.slice (some ⟨g, 0, none⟩) n cap) (l.take n) := by
  have hl : (l.take n).length = n := by simp; omega
  refine ⟨h.1.take n, by have := h.2.1; omega, ?_⟩
  rcases h.2.2 with ⟨h0, _⟩ | ⟨g', cap', cur, T, he, hg, h1, h2, h3, h4⟩
  · cases h0
  · cases he
    refine .inr ⟨g, cap, cur, T, by rw [hl], hg, by omega, h2, h3, ?_⟩
    rw [hl]
    have := congrArg (fun L => L.take n) h4
    simp only [List.take_take, Nat.min_eq_left hn] at this
    rw [this, List.map_take]

/-- a row that was filled by append -/
theorem SNat.of_owns {w : World} {B T n : Nat} {v : Value} {l : List Nat} (h : w.ownsRow B T 1 v n (l.map (wd .u32))) (hl : Lim l) (hn : l.length ≤ 1000000) : SNat w v l := by
  obtain ⟨h1, h2⟩ := h
  simp only [List.length_map, Nat.mul_one] at h1
  refine ⟨hl, hn, ?_⟩
  rcases h2 with ⟨h0, hn0⟩ | ⟨g, cap, cur, rfl, _, hg, h3, h4, h5, h6⟩
  · exact .inl ⟨h0, List.eq_nil_of_length_eq_zero (by omega)⟩
  · refine .inr ⟨g, cap, cur, T, by rw [h1], hg, by omega, by unfold maxLen at h4; omega, by omega, ?_⟩
    rw [h1]; rw [Nat.mul_one] at h6; exact h6

/-- a block that was made and written -/
theorem SNat.of_blk {w : World} {g : Nat} {l : List Nat} (h : Blk .u32 w g l) (hl : Lim l) (hn : l.length ≤ 1000000) : SNat w (.slice (some ⟨g, 0, none⟩) l.length l.length) l := by
  obtain ⟨T, hT⟩ := h
  exact ⟨hl, hn, .inr ⟨g, l.length, _, T, rfl, hT, Nat.le_refl _, by omega, by simp, List.take_of_length_le (by simp)⟩⟩

/-- the call returns a natural number, in canonical form; nothing that was there is changed -/
def SRet (w : World) (n : Nat) (e : Ending) (w' : World) : Prop := ∃ v l, e = .returned v ∧ SNat w' v l ∧ Norm l ∧ sval l = n ∧ Fresh w w'

end Go.Proofs.YthemaneoighaoaaGreatDoor
