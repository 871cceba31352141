/- What vectors of words are worth, and what the sums, differences and products of vectors are worth. No program is in sight. -/
import Derived.Test.YtllencgncinphaaGreatDoorKE3
namespace Go.Proofs.YtllencgncinphaaGreatDoor
open Go.RowKit
open Go.Lib (hid)
set_option maxRecDepth 20000
set_option maxHeartbeats 400000

def val : List Nat → Nat
 | [] => 0
 | x :: xs => x + 18446744073709551616 * val xs

def wpow (n : Nat) : Nat := 18446744073709551616 ^ n

theorem wpow_zero : wpow 0 = 1 := rfl
theorem wpow_succ (n : Nat) : wpow (n + 1) = 18446744073709551616 * wpow n := by unfold wpow; rw [Nat.pow_succ, Nat.mul_comm]
theorem wpow_add (m n : Nat) : wpow (m + n) = wpow m * wpow n := by unfold wpow; rw [Nat.pow_add]
theorem wpow_pos (n : Nat) : 0 < wpow n := by unfold wpow; exact Nat.pow_pos (by omega)
theorem wpow_mono {m n : Nat} (h : m ≤ n) : wpow m ≤ wpow n := by unfold wpow; exact Nat.pow_le_pow_right (by omega) h
theorem wpow_lt {m n : Nat} (h : m < n) : wpow m < wpow n := by unfold wpow; exact Nat.pow_lt_pow_right (by omega) h

theorem val_append (xs ys : List Nat) : val (xs ++ ys) = val xs + wpow xs.length * val ys := by
 induction xs with
 | nil => simp [val, wpow_zero]
 | cons x xs ih =>
   simp only [List.cons_append, val, List.length_cons, wpow_succ, ih]
   grind

theorem val_lt {xs : List Nat} (h : ∀ a ∈ xs, a < 18446744073709551616) : val xs < wpow xs.length := by
 induction xs with
 | nil => simp [val, wpow_zero]
 | cons x xs ih =>
   have h1 := h x (by simp)
   have h2 := ih (fun a ha => h a (by simp [ha]))
   simp only [val, List.length_cons, wpow_succ]
   omega

theorem addVs_val : ∀ (xs ys : List Nat) (c : Nat), xs.length = ys.length → val (addVs xs ys c).1 + wpow xs.length * (addVs xs ys c).2 = val xs + val ys + c
 | [], [], c, _ => by simp [addVs, val, wpow_zero]
 | x :: xs, y :: ys, c, h => by
   have ih := addVs_val xs ys (addC x y c) (by simpa using h)
   have e : addS x y c + 18446744073709551616 * addC x y c = x + y + c := by unfold addS addC; omega
   simp only [addVs, val, List.length_cons, wpow_succ]
   grind

theorem subVs_val : ∀ (xs ys : List Nat) (c : Nat), xs.length = ys.length → (∀ a ∈ xs, a < 18446744073709551616) → (∀ a ∈ ys, a < 18446744073709551616) → c ≤ 1 →
 val (subVs xs ys c).1 + val ys + c = val xs + wpow xs.length * (subVs xs ys c).2
 | [], [], c, _, _, _, _ => by simp [subVs, val, wpow_zero]
 | x :: xs, y :: ys, c, h, hx, hy, hc => by
   have ih := subVs_val xs ys (subC x y c) (by simpa using h) (fun a ha => hx a (by simp [ha])) (fun a ha => hy a (by simp [ha])) (subC_le _ _ _)
   have h1 := hx x (by simp)
   have h2 := hy y (by simp)
   have e : subS x y c + y + c = x + 18446744073709551616 * subC x y c := by unfold subS subC; split <;> omega
   simp only [subVs, val, List.length_cons, wpow_succ]
   grind

theorem mulVs_val : ∀ (xs : List Nat) (y c : Nat), val (mulVs xs y c).1 + wpow xs.length * (mulVs xs y c).2 = val xs * y + c
 | [], y, c => by simp [mulVs, val, wpow_zero]
 | x :: xs, y, c => by
   have ih := mulVs_val xs y (maH x y c)
   have e : maL x y c + 18446744073709551616 * maH x y c = x * y + c := by unfold maL maH; omega
   simp only [mulVs, val, List.length_cons, wpow_succ]
   grind

theorem amVs_val : ∀ (xs ys : List Nat) (m c : Nat), xs.length = ys.length → val (amVs xs ys m c).1 + wpow xs.length * (amVs xs ys m c).2 = val xs + val ys * m + c
 | [], [], m, c, _ => by simp [amVs, val, wpow_zero]
 | x :: xs, y :: ys, m, c, h => by
   have ih := amVs_val xs ys m (maH y m x + addC (maL y m x) c 0) (by simpa using h)
   have e : maL y m x + 18446744073709551616 * maH y m x = y * m + x := by unfold maL maH; omega
   have e2 : addS (maL y m x) c 0 + 18446744073709551616 * addC (maL y m x) c 0 = maL y m x + c := by unfold addS addC; omega
   simp only [amVs, val, List.length_cons, wpow_succ]
   grind

theorem addWs_val : ∀ (xs : List Nat) (c : Nat), val (addWs xs c).1 + wpow xs.length * (addWs xs c).2 = val xs + c
 | [], c => by simp [addWs, val, wpow_zero]
 | x :: xs, c => by
   have ih := addWs_val xs (addC x c 0)
   have e : addS x c 0 + 18446744073709551616 * addC x c 0 = x + c := by unfold addS addC; omega
   simp only [addWs, val, List.length_cons, wpow_succ]
   grind

theorem subWs_val : ∀ (xs : List Nat) (c : Nat), (∀ a ∈ xs, a < 18446744073709551616) → c < 18446744073709551616 → val (subWs xs c).1 + c = val xs + wpow xs.length * (subWs xs c).2
 | [], c, _, _ => by simp [subWs, val, wpow_zero]
 | x :: xs, c, hx, hc => by
   have ih := subWs_val xs (subC x c 0) (fun a ha => hx a (by simp [ha])) (by have := subC_le x c 0; omega)
   have h1 := hx x (by simp)
   have e : subS x c 0 + c = x + 18446744073709551616 * subC x c 0 := by unfold subS subC; split <;> omega
   simp only [subWs, val, List.length_cons, wpow_succ]
   grind

theorem subWs_carry : ∀ (xs : List Nat) (c : Nat), c ≤ 1 → (subWs xs c).2 ≤ 1
 | [], _, h => h
 | _ :: xs, _, _ => subWs_carry xs _ (subC_le _ _ _)

theorem addWs_carry : ∀ (xs : List Nat) (c : Nat), (∀ a ∈ xs, a < 18446744073709551616) → c ≤ 1 → (addWs xs c).2 ≤ 1
 | [], _, _, h => h
 | a :: xs, c, hx, h => addWs_carry xs _ (fun a ha => hx a (by simp [ha])) (addC_le (hx a (by simp)) (by omega) (by omega))

theorem val_take_succ {l : List Nat} {k : Nat} (h : k < l.length) : val (l.take (k + 1)) = val (l.take k) + wpow k * l.getD k 0 := by
 rw [List.take_succ_eq_append_getElem h, val_append]
 simp [val, List.getD, h, Nat.min_eq_left (Nat.le_of_lt h)]

theorem Norm.ge {l : List Nat} (h : Norm l) {k : Nat} (hk : l.length = k + 1) : wpow k ≤ val l := by
 have e := val_take_succ (l := l) (k := k) (by omega)
 rw [List.take_of_length_le (by omega)] at e
 rw [e]
 have := h k hk
 have : wpow k * 1 ≤ wpow k * l.getD k 0 := Nat.mul_le_mul_left _ (by omega)
 omega

theorem Norm.len_le {l : List Nat} (h : Norm l) {k : Nat} (hv : val l < wpow k) : l.length ≤ k := by
 rcases Nat.lt_or_ge k l.length with hk | hk
 · obtain ⟨m, hm⟩ : ∃ m, l.length = m + 1 := ⟨l.length - 1, by omega⟩
   have := h.ge hm
   have := wpow_mono (show k ≤ m by omega)
   omega
 · exact hk

theorem val_nil_of {l : List Nat} (h : Norm l) (hv : val l = 0) : l = [] := by
 have := h.len_le (k := 0) (by rw [hv, wpow_zero]; omega)
 exact List.eq_nil_of_length_eq_zero (by omega)

theorem val_cmp_len {l m : List Nat} (hl : Norm l) (hm : ∀ a ∈ m, a < 18446744073709551616) (h : m.length < l.length) : val m < val l := by
 obtain ⟨k, hk⟩ : ∃ k, l.length = k + 1 := ⟨l.length - 1, by omega⟩
 have h1 := hl.ge hk
 have h2 := val_lt hm
 have := wpow_mono (show m.length ≤ k by omega)
 omega

def CapOK : Value → Prop
 | .slice _ _ c => c ≤ 9223372036854775807
 | _ => True

def NatAt (w : World) (v : Value) (l : List Nat) : Prop :=
 ((∀ x ∈ l, x < 18446744073709551616) ∧ CapOK v) ∧ ((v = .slice none 0 0 ∧ l = []) ∨
   ∃ g off cap L, v = .slice (some ⟨g, off, none⟩) l.length cap ∧ Blk .u64 w g L ∧ l.length ≤ cap ∧ off + cap ≤ L.length ∧ l = seg L off l.length ∧ (∀ x ∈ L, x < 18446744073709551616))

theorem NatAt.bnd {w : World} {v : Value} {l : List Nat} (h : NatAt w v l) : ∀ x ∈ l, x < 18446744073709551616 := h.1.1

theorem NatAt.cap {w : World} {a : Option Addr} {n c : Nat} {l : List Nat} (h : NatAt w (.slice a n c) l) : c ≤ 9223372036854775807 := h.1.2

theorem NatAt.nil (w : World) : NatAt w (.slice none 0 0) [] := ⟨⟨by simp, by simp [CapOK]⟩, .inl ⟨rfl, rfl⟩⟩

theorem NatAt.mk {w : World} {g off n cap : Nat} {L : List Nat} (hc : cap ≤ 9223372036854775807) (h : Blk .u64 w g L) (h1 : n ≤ cap) (h2 : off + cap ≤ L.length) (hL : ∀ x ∈ L, x < 18446744073709551616) :
 NatAt w (.slice (some ⟨g, off, none⟩) n cap) (seg L off n) :=
 ⟨⟨fun x hx => hL x (seg_mem hx), hc⟩, .inr ⟨g, off, cap, L, by rw [sgL (by omega)], h, by rw [sgL (by omega)]; exact h1, h2, by rw [sgL (by omega)], hL⟩⟩

theorem NatAt.keep {S : Nat → Prop} {w w' : World} {v : Value} {l : List Nat} (h : NatAt w v l) (hk : Keep S w w') (hs : ∀ g, v.ownBlock = some g → ¬ S g) : NatAt w' v l := by
 obtain ⟨hb, h⟩ := h
 refine ⟨hb, ?_⟩
 rcases h with h | ⟨g, off, cap, L, rfl, bk, h1, h2, h3, h4⟩
 · exact .inl h
 · exact .inr ⟨g, off, cap, L, rfl, bk.keep hk (hs g rfl), h1, h2, h3, h4⟩

theorem NatAt.drewN {w : World} {v : Value} {l : List Nat} (h : NatAt w v l) (n : Nat) : NatAt (w.drewN n) v l := h
theorem NatAt.drew {w : World} {v : Value} {l : List Nat} (h : NatAt w v l) : NatAt w.drew v l := h

theorem NatAt.lt {w : World} {v : Value} {l : List Nat} (h : NatAt w v l) {g : Nat} (hg : v.ownBlock = some g) : g < w.heap.size := by
 rcases h.2 with ⟨rfl, _⟩ | ⟨g', off, cap, L, rfl, bk, _⟩
 · exact absurd hg (by simp [Value.ownBlock])
 · simp only [Value.ownBlock, Option.some.injEq] at hg; subst hg; exact bk.lt

theorem NatAt.form {w : World} {v : Value} {l : List Nat} (h : NatAt w v l) : ∃ a cap, v = .slice a l.length cap := by
 rcases h.2 with ⟨rfl, rfl⟩ | ⟨g', off, cap, L, rfl, _⟩
 · exact ⟨none, 0, rfl⟩
 · exact ⟨_, _, rfl⟩

theorem NatAt.open_pos {w : World} {v : Value} {l : List Nat} (h : NatAt w v l) (hn : 0 < l.length) :
 ∃ g off cap L, v = .slice (some ⟨g, off, none⟩) l.length cap ∧ Blk .u64 w g L ∧ l.length ≤ cap ∧ off + cap ≤ L.length ∧ l = seg L off l.length ∧ (∀ x ∈ L, x < 18446744073709551616) := by
 rcases h.2 with ⟨_, rfl⟩ | h
 · simp at hn
 · exact h

def SafeZ (zv xv : Value) : Prop := ∀ gz oz nz cz gx ox nx cx, zv = .slice (some ⟨gz, oz, none⟩) nz cz → xv = .slice (some ⟨gx, ox, none⟩) nx cx → gx ≠ gz ∨ oz = ox

theorem SafeZ.nil (v : Value) (n c : Nat) : SafeZ (.slice none n c) v := by
 intro gz oz nz cz gx ox nx cx h1 _; simp at h1

theorem SafeZ.ne {zv xv : Value} (h : ∀ g, zv.ownBlock = some g → xv.ownBlock ≠ some g) : SafeZ zv xv := by
 intro gz oz nz cz gx ox nx cx h1 h2
 subst h1 h2
 have := h gz rfl
 simp [Value.ownBlock] at this
 exact .inl this

structure NatOp (w : World) (zv rv : Value) (l : List Nat) (w' : World) : Prop where
 nat : NatAt w' rv l
 keep : Keep (fun k => zv.ownBlock = some k) w w'
 own : ∀ k, rv.ownBlock = some k → zv.ownBlock = some k ∨ w.heap.size ≤ k

def NatRet (w : World) (zv : Value) (n : Nat) (e : Ending) (w' : World) : Prop := ∃ rv l, e = .returned rv ∧ NatOp w zv rv l w' ∧ Norm l ∧ val l = n

theorem normK_val (l : List Nat) : ∀ n, n ≤ l.length → val (l.take (normL.normK l n)) = val (l.take n)
 | 0, _ => rfl
 | n + 1, h => by
   simp only [normL.normK]; split
   · rename_i h0
     rw [normK_val l n (by omega), val_take_succ (by omega), h0]; simp
   · rfl

theorem norm_pos (g off cap n : Nat) (L : List Nat) (w : World) (hn : n ≤ 1000000) (bz : Blk .u64 w g L) (h1 : n ≤ cap) (h2 : off + cap ≤ L.length) :
 Calls Tryz.prog 152 #[.slice (some ⟨g, off, none⟩) n cap] w fun e w' => e = .returned (.slice (some ⟨g, off, none⟩) (normL.normK (seg L off n) n) cap) ∧ w = w' := by
 have H_bz := hid bz; have H_h2 := hid h2; clear bz h2
 go_enter Tryz.func152, Tryz.ntmps152
 go_wp2
 go_loop [3] (fun i => ∃ k : Nat, k ≤ n ∧ i = .int .i64 k ∧ Hid (normL.normK (seg L off n) n = normL.normK (seg L off n) k)) (fun i => (intOf i).toNat)
 case atStart => exact ⟨n, Nat.le_refl _, rfl, rfl⟩
 case round =>
  obtain ⟨k, hk, rfl, he⟩ := hrel
  cases k with
  | zero =>
    go_wp2
    go_ret
    refine ⟨?_, rfl⟩
    rw [he.out]; rfl
  | succ k =>
    have hc := H_bz.out.cell (o := off + k) (by have := H_h2.out; omega)
    have hs := seg_getD (L := L) (off := off) (n := n) (j := k) (by omega)
    generalize hx : L.getD (off + k) 0 = x at *
    have H_hs := hid hs; have H_hx := hid hx; clear hs hx
    have e1 : ((k : Int) + 1 - 1) = (k : Int) := by omega
    have e2 : ((k : Int) + 1 - 1).toNat = k := by omega
    by_cases hx0 : x = 0
    · have ht : ((x : Int) == 0) = true := by subst hx0; rfl
      have H_hx0 := hid hx0; clear hx0
      go_wp2
      go_round
      case rel => 
       refine ⟨k, by omega, by simp, ?_⟩
       have := he.out
       simp only [normL.normK] at this
       rw [if_pos (by rw [H_hs.out]; exact H_hx0.out)] at this
       exact this
      case measure => simp [intOf]
    · have ht : ((x : Int) == 0) = false := by rw [beq_eq_false_iff_ne]; omega
      have H_hx0 := hid hx0; clear hx0
      go_wp2
      go_ret
      refine ⟨?_, rfl⟩
      rw [he.out]; simp only [normL.normK]; rw [if_neg (by rw [H_hs.out]; exact H_hx0.out)]
      rfl

def NormRet (w : World) (v : Value) (n : Nat) (e : Ending) (w' : World) : Prop := ∃ rv l, e = .returned rv ∧ NatAt w rv l ∧ Norm l ∧ val l = n ∧ (∀ k, rv.ownBlock = some k → v.ownBlock = some k) ∧ w = w'

theorem norm_any (v : Value) (l : List Nat) (w : World) (hn : l.length ≤ 1000000) (h : NatAt w v l) : Calls Tryz.prog 152 #[v] w (NormRet w v (val l)) := by
 rcases h.2 with ⟨rfl, rfl⟩ | ⟨g, off, cap, L, rfl, bk, h1, h2, h3, h4⟩
 · clear h hn
   go_enter Tryz.func152, Tryz.ntmps152
   go_wp2
   refine wp_loop_rounds 1 ?_
   rw [rounds_succ]
   go_wp2
   go_ret
   exact ⟨_, [], rfl, NatAt.nil w, Norm.nil, rfl, fun _ h => h, rfl⟩
 · refine (norm_pos g off cap l.length L w hn bk h1 h2).mono ?_
   rintro e w' ⟨rfl, rfl⟩
   have hk := normK_le (seg L off l.length) l.length
   have e1 : (seg L off l.length).take (normL.normK (seg L off l.length) l.length) = seg L off (normL.normK (seg L off l.length) l.length) := seg_take hk
   refine ⟨_, seg L off (normL.normK (seg L off l.length) l.length), rfl, NatAt.mk h.cap bk (by omega) h2 h4, ?_, ?_, fun _ h => h, rfl⟩
   · rw [← e1]; exact normK_norm _ _ (by rw [sgL (by omega)]; exact Nat.le_refl _)
   · rw [← e1, normK_val _ _ (by rw [sgL (by omega)]; exact Nat.le_refl _), List.take_of_length_le (by rw [sgL (by omega)]; exact Nat.le_refl _), ← h3]

def Made (w : World) (zv : Value) (n : Nat) (e : Ending) (w' : World) : Prop :=
 ∃ g off cap L, e = .returned (.slice (some ⟨g, off, none⟩) n cap) ∧ Blk .u64 w' g L ∧ n ≤ cap ∧ off + cap ≤ L.length ∧ (∀ x ∈ L, x < 18446744073709551616) ∧ Fresh w w' ∧ cap ≤ 9223372036854775807 ∧
  ((w' = w ∧ ∃ n0 c0, zv = .slice (some ⟨g, off, none⟩) n0 c0) ∨ g = w.heap.size)

theorem Blk.made {w : World} {n : Nat} {T : TypeId} : Blk .u64 (w.alloc (.cells (madeCells #[Value.int .u64 0] n) T)) w.heap.size (List.replicate n 0) := by
 refine ⟨T, ?_⟩
 rw [heap_alloc_new]
 congr 2
 apply Array.ext'
 rw [toList_madeCells_one]
 simp

theorem rep_lt {n B : Nat} (hB : 0 < B) : ∀ x ∈ List.replicate n 0, x < B := by
 intro x hx
 rw [List.eq_of_mem_replicate hx]; exact hB

theorem make_any (zv : Value) (zl : List Nat) (n : Nat) (w : World) (hn : 0 < n) (hn2 : n ≤ 1000000) (h : NatAt w zv zl) :
 Calls Tryz.prog 158 #[zv, .int .i64 n] w (Made w zv n) := by
 have hn0 : ((n : Int) == 0) = false := by rw [beq_eq_false_iff_ne]; omega
 obtain ⟨i0, hi, hz0, hz1, hz2⟩ := info_parts (show (Tryz.prog.info? 123).map (fun i => (i.zero, i.size, i.bytes)) = some (some (.int .u64 0), 1, 8) from by kernel_rfl)
 obtain ⟨o1, ho1, mk1⟩ : ∃ o, Hid (Blk .u64 (w.alloc o) w.heap.size (List.replicate 1 0)) ∧ (Instr.makeSlice 108 (.int .i64 1) (.int .i64 1)).run Tryz.prog w = .ok (.slice (some ⟨w.heap.size, 0, none⟩) 1 1) (w.alloc o) := by
  have := run_make (P := Tryz.prog) w 108 123 i0 _ Tryz.underlying108 hi hz0 .i64 .i64 1 1 (by omega) (by omega) (by rw [hz2]; omega) (by omega)
  exact ⟨_, Blk.made (T := 123), by simpa [hz1, Value.cells] using this⟩
 obtain ⟨o2, ho2, mk2⟩ : ∃ o, Hid (Blk .u64 (w.alloc o) w.heap.size (List.replicate (n + 4) 0)) ∧ (Instr.makeSlice 108 (.int .i64 (n : Int)) (.int .i64 ((n : Int) + 4))).run Tryz.prog w = .ok (.slice (some ⟨w.heap.size, 0, none⟩) n (n + 4)) (w.alloc o) := by
  have := run_make (P := Tryz.prog) w 108 123 i0 _ Tryz.underlying108 hi hz0 .i64 .i64 (n : Int) ((n : Int) + 4) (by omega) (by omega) (by rw [hz2]; omega) (by omega)
  rw [show ((n : Int) + 4).toNat = n + 4 from by omega] at this
  exact ⟨_, Blk.made (T := 123), by simpa [hz1, Value.cells] using this⟩
 rcases h.2 with ⟨rfl, rfl⟩ | ⟨g, off, cap, L, rfl, bk, h1, h2, h3, h4⟩
 · clear h hi hz0 hz1 hz2
   by_cases h1 : n = 1
   · subst h1
     clear mk2
     go_enter Tryz.func158, Tryz.ntmps158
     go_wp2
     go_ret
     exact ⟨_, _, _, _, rfl, ho1.out, by omega, by simp, rep_lt (by omega), (Keep.refl _ _).alloc _, by omega, .inr rfl⟩
   · have h1b : ((n : Int) == 1) = false := by rw [beq_eq_false_iff_ne]; omega
     clear mk1
     go_enter Tryz.func158, Tryz.ntmps158
     go_wp2
     go_ret
     exact ⟨_, _, _, _, rfl, ho2.out, by omega, by simp, rep_lt (by omega), (Keep.refl _ _).alloc _, by omega, .inr rfl⟩
 · have hcap := h.cap
   clear h hi hz0 hz1 hz2
   have H_bk := hid bk; have H_h2 := hid h2; have H_h3 := hid h3; have H_h4 := hid h4; clear bk h2 h3 h4
   by_cases hc : n ≤ cap
   · clear mk1 mk2
     go_enter Tryz.func158, Tryz.ntmps158
     go_wp2
     go_ret
     exact ⟨_, _, _, _, rfl, H_bk.out, hc, H_h2.out, H_h4.out, Keep.refl _ _, hcap, .inl ⟨rfl, _, _, rfl⟩⟩
   · by_cases h1 : n = 1
     · subst h1
       clear mk2
       go_enter Tryz.func158, Tryz.ntmps158
       go_wp2
       go_ret
       exact ⟨_, _, _, _, rfl, ho1.out, by omega, by simp, rep_lt (by omega), (Keep.refl _ _).alloc _, by omega, .inr rfl⟩
     · have h1b : ((n : Int) == 1) = false := by rw [beq_eq_false_iff_ne]; omega
       clear mk1
       go_enter Tryz.func158, Tryz.ntmps158
       go_wp2
       go_ret
       exact ⟨_, _, _, _, rfl, ho2.out, by omega, by simp, rep_lt (by omega), (Keep.refl _ _).alloc _, by omega, .inr rfl⟩

def Sep (zv xv : Value) : Prop := zv = xv ∨ ∀ g, zv.ownBlock = some g → xv.ownBlock ≠ some g

theorem Sep.nil (xv : Value) : Sep (.slice none 0 0) xv := .inr (fun g h => by simp [Value.ownBlock] at h)

def At (w : World) (zv : Value) (g off : Nat) : Prop := (∃ n0 c0, zv = .slice (some ⟨g, off, none⟩) n0 c0) ∨ g = w.heap.size

theorem Made.split {w w' : World} {zv : Value} {n : Nat} {e : Ending} (h : Made w zv n e w') :
 ∃ g off cap L, e = .returned (.slice (some ⟨g, off, none⟩) n cap) ∧ Hid (Blk .u64 w' g L) ∧ n ≤ cap ∧ Hid (off + cap ≤ L.length) ∧ Hid (∀ x ∈ L, x < 18446744073709551616) ∧ Hid (Fresh w w') ∧ Hid (At w zv g off) ∧ cap ≤ 9223372036854775807 := by
 obtain ⟨g, off, cap, L, he, hb, h1, h2, h3, h4, h6, h5⟩ := h
 refine ⟨g, off, cap, L, he, hb, h1, h2, h3, h4, ?_, h6⟩
 rcases h5 with ⟨_, h⟩ | h
 · exact .inl h
 · exact .inr h

theorem NatOp.of {w w1 w2 : World} {zv rv : Value} {l : List Nat} {g off : Nat} (ha : At w zv g off) (hf : Fresh w w1) (hk : Keep (· = g) w1 w2) (hn : NatAt w2 rv l) (hr : ∀ k, rv.ownBlock = some k → k = g) : NatOp w zv rv l w2 := by
 have hz : ∀ k, k < w.heap.size → k = g → zv.ownBlock = some k := by
  rintro k hk rfl
  rcases ha with ⟨n0, c0, rfl⟩ | h
  · rfl
  · omega
 refine ⟨hn, hf.trans hk (fun _ _ h => h.elim) hz, fun k hk => ?_⟩
 obtain rfl := hr k hk
 by_cases h : k < w.heap.size
 · exact .inl (hz k h rfl)
 · exact .inr (by omega)

theorem At.apart {w : World} {zv : Value} {g off : Nat} (ha : At w zv g off) {gx ox nx cx : Nat} (hs : Sep zv (.slice (some ⟨gx, ox, none⟩) nx cx)) (hx : gx < w.heap.size) : gx ≠ g ∨ ox = off := by
 rcases ha with ⟨n0, c0, rfl⟩ | h
 · rcases hs with h | h
   · simp only [Value.slice.injEq, Option.some.injEq, Addr.mk.injEq] at h
     exact .inr h.1.2.1.symm
   · exact .inl (fun e => by subst e; exact h gx rfl rfl)
 · exact .inl (by omega)

theorem NatAt.slice0 {w : World} {v : Value} {l : List Nat} {a : Option Addr} {n c : Nat} (h : NatAt w v l) (hv : v = .slice a n c) : NatAt w (.slice a 0 c) [] := by
 refine ⟨⟨by simp, by subst hv; exact h.cap⟩, ?_⟩
 rcases h.2 with ⟨rfl, rfl⟩ | ⟨g, off, cap, L, rfl, bk, h1, h2, h3, h4⟩
 · simp only [Value.slice.injEq] at hv
   obtain ⟨rfl, rfl, rfl⟩ := hv
   exact .inl ⟨rfl, rfl⟩
 · simp only [Value.slice.injEq] at hv
   obtain ⟨rfl, rfl, rfl⟩ := hv
   exact .inr ⟨g, off, cap, L, rfl, bk, by simp, h2, by simp [seg_zero], h4⟩

theorem NatRet.empty {w : World} {zv : Value} {zl : List Nat} {a : Option Addr} {n c : Nat} (h : NatAt w zv zl) (hv : zv = .slice a n c) : NatRet w zv 0 (.returned (.slice a 0 c)) w :=
 ⟨_, [], rfl, ⟨h.slice0 hv, Keep.refl _ _, fun k hk => .inl (by rw [hv]; cases a <;> exact hk)⟩, Norm.nil, rfl⟩

theorem setWord_any (zv : Value) (zl : List Nat) (x : Nat) (w : World) (hx : x < 18446744073709551616) (h : NatAt w zv zl) :
 Calls Tryz.prog 166 #[zv, .int .u64 x] w (NatRet w zv x) := by
 by_cases hx0 : x = 0
 · have ht : ((x : Int) == 0) = true := by subst hx0; rfl
   obtain ⟨a, c, hv⟩ := h.form
   have hr : NatRet w zv x (.returned (.slice a 0 c)) w := by rw [hx0]; exact NatRet.empty h hv
   generalize zl.length = n at *
   subst hv
   have H_hx0 := hid hx0; have H_h := hid h; have H_hr := hid hr; clear hx0 h hr
   go_enter Tryz.func166, Tryz.ntmps166
   go_wp2
   go_ret
   exact H_hr.out
 · have ht : ((x : Int) == 0) = false := by rw [beq_eq_false_iff_ne]; omega
   have hm := make_any zv zl 1 w (by omega) (by omega) h
   have H_hx0 := hid hx0; have H_h := hid h; have H_hm := hid hm; clear hx0 h hm
   go_enter Tryz.func166, Tryz.ntmps166
   go_wp2_with (fail)
   refine H_hm.out.mono ?_
   intro e w1 hm
   obtain ⟨g, off, cap, L, rfl, hb, h1, h2, h3, h4, h5, hcap⟩ := hm.split
   clear hm
   have c1 := hb.out.cell (o := off) (by have := h2.out; omega)
   have c2 := hb.out.frozen off
   go_wp2
   go_ret
   have p := (Puts.refl hb.out).set off x
   have hn : ∀ y ∈ L.set off x, y < 18446744073709551616 := fun y hy => by
    rcases List.mem_or_eq_of_mem_set hy with h | h
    · exact h3.out y h
    · omega
   have hna := NatAt.mk (n := 1) hcap p.blk h1 (by rw [List.length_set]; exact h2.out) hn
   have e1 : seg (L.set off x) off 1 = [x] := by
    have := h2.out
    rw [seg_head (by rw [List.length_set]; omega), seg_zero, getD_set _ _ _ _ (by omega), if_pos rfl]
   rw [e1] at hna
   refine ⟨_, [x], rfl, NatOp.of h5.out h4.out p.keep hna (fun k hk => by simpa [Value.ownBlock] using hk.symm), ?_, by simp [val]⟩
   intro k hk
   simp at hk; subst hk
   exact H_hx0.out

theorem make_zero (a : Option Addr) (n c : Nat) (w : World) :
 Calls Tryz.prog 158 #[.slice a n c, .int .i64 0] w fun e w' => e = .returned (.slice a 0 c) ∧ w = w' := by
 go_enter Tryz.func158, Tryz.ntmps158
 go_wp2
 go_ret
 exact ⟨rfl, rfl⟩

theorem set_any (zv xv : Value) (zl xl : List Nat) (w : World) (hn : xl.length ≤ 1000000) (h : NatAt w zv zl) (hx : NatAt w xv xl) (hs : Sep zv xv) :
 Calls Tryz.prog 153 #[zv, xv] w fun e w' => ∃ rv, e = .returned rv ∧ NatOp w zv rv xl w' := by
 by_cases h0 : xl.length = 0
 · obtain ⟨a, c, hv⟩ := h.form
   obtain ⟨ax, cx, hxv⟩ := hx.form
   obtain rfl : xl = [] := List.eq_nil_of_length_eq_zero h0
   generalize zl.length = n at *
   subst hv hxv
   have hr := h.slice0 rfl
   have H_h := hid h; have H_hx := hid hx; have H_hs := hid hs; have H_hr := hid hr; clear h hx hs hr
   go_enter Tryz.func153, Tryz.ntmps153
   go_wp2_with (first
    | (go_at_call 158; refine (make_zero _ _ _ _).mono ?_; rintro e w' ⟨rfl, rfl⟩)
    | (refine wpList_copy_nothing (o := ⟨some 11, _, _, _, _, _⟩) rfl (.tmp 9) (.tmp 10) 108 108 rfl 123 Tryz.underlying108 (by kernel_rfl) _ _ _ _ _ _ (by rfl) (by rfl) (by simp) ?_))
   go_ret
   exact ⟨_, rfl, H_hr.out, Keep.refl _ _, fun k hk => .inl (by cases a <;> exact hk)⟩
 · obtain ⟨gx, ox, cx, M, rfl, bx, hx1, hx2, hx3, hx4⟩ := hx.open_pos (by omega)
   have hm := make_any zv zl xl.length w (by omega) (by omega) h
   have hgx := bx.lt
   have H_h0 := hid h0; have H_h := hid h; have H_hm := hid hm; have H_hx := hid hx; have H_hs := hid hs; have H_bx := hid bx; have H_hx3 := hid hx3; have H_hx4 := hid hx4; have H_hx2 := hid hx2; clear h0 h hm hx hs bx hx3 hx4 hx2
   go_enter Tryz.func153, Tryz.ntmps153
   go_wp2_with (fail)
   refine H_hm.out.mono ?_
   intro e w1 hm
   obtain ⟨g, off, cap, L, rfl, hb, h1, h2, h3, h4, h5, hcap⟩ := hm.split
   clear hm
   have bx1 := H_bx.out.keep h4.out (fun h => h)
   have l1 := h2.out
   have l2 := H_hx2.out
   have H_bx1 := hid bx1; clear bx1
   go_wp2_with (refine wpList_copy_puts (o := ⟨some 11, _, _, _, _, _⟩) rfl (.tmp 9) (.tmp 10) 108 108 rfl 123 Tryz.underlying108 (by kernel_rfl) _ _ _ _ _ _ (by rfl) (by rfl) g off L hb.out gx ox M H_bx1.out xl.length (by simp) (fun _ => ⟨rfl, rfl⟩) (by omega) (by omega) ?_; intro w2 hp)
   go_ret
   have hk : ∀ y ∈ spl L off (seg M ox xl.length), y < 18446744073709551616 := fun y hy => by
    rcases spl_mem hy with h | h
    · exact h3.out y h
    · exact H_hx4.out y (seg_mem h)
   have hl : (seg M ox xl.length).length = xl.length := sgL (by omega)
   have hna := NatAt.mk (n := xl.length) hcap hp.blk h1 (by rw [sgl (by omega)]; exact l1) hk
   have e1 : seg (spl L off (seg M ox xl.length)) off xl.length = xl := by
    have := seg_spl (L := L) (off := off) (l := seg M ox xl.length) (by omega)
    rw [hl] at this
    rw [this, ← H_hx3.out]
   rw [e1] at hna
   exact ⟨_, rfl, NatOp.of h5.out h4.out hp.keep hna (fun k hk => by simpa [Value.ownBlock] using hk.symm)⟩

end Go.Proofs.YtllencgncinphaaGreatDoor
