/- The contracts of the reference's natural numbers: Pow10. -/
import Derived.Test.YthemaneoighaoaaGreatDoorSWh
namespace Go.Proofs.YthemaneoighaoaaGreatDoor
open Go.RowKit

theorem Blk.made32 {w : World} {n : Nat} {T : TypeId} : Blk .u32 (w.alloc (.cells (madeCells #[Value.int .u32 0] n) T)) w.heap.size (List.replicate n 0) := by
  refine ⟨T, ?_⟩
  rw [heap_alloc_new]
  congr 2
  apply Array.ext'
  rw [toList_madeCells_one]
  simp

theorem make_u32 (n : Nat) (w : World) (hn : n ≤ 2000000) : ∃ o, Hid (Blk .u32 (w.alloc o) w.heap.size (List.replicate n 0)) ∧
    (Instr.makeSlice 27 (.int .i64 n) (.int .i64 n)).run Tryz.prog w = .ok (.slice (some ⟨w.heap.size, 0, none⟩) n n) (w.alloc o) := by
  obtain ⟨i0, hi, hz0, hz1, hz2⟩ := info_parts info_u32
  have := run_make (P := Tryz.prog) w 27 66 i0 _ Tryz.underlying27 hi hz0 .i64 .i64 (n : Int) (n : Int) (by omega) (by omega) (by rw [hz2]; omega) (by omega)
  rw [show ((n : Int)).toNat = n from by omega] at this
  exact ⟨_, Blk.made32 (T := 66), by simpa [hz1, Value.cells] using this⟩

theorem sval_rep (n : Nat) : sval (List.replicate n 0) = 0 := by
  induction n with
  | zero => rfl
  | succ n ih => simp [List.replicate_succ, sval, ih]

theorem Lim.rep (n : Nat) : Lim (List.replicate n 0) := fun x hx => by rw [List.eq_of_mem_replicate hx]; omega

theorem rep_set (q x : Nat) : (List.replicate (q + 1) 0).set q x = List.replicate q 0 ++ [x] := by
  rw [List.replicate_succ', List.set_append]; simp

set_option maxRecDepth 20000 in
set_option maxHeartbeats 1000000 in
theorem Pow10_any (n : Nat) (w : World) (hn : n ≤ 1000000) : Calls Tryz.prog 65 #[.int .i64 n] w (SRet w (10 ^ n)) := by
  obtain ⟨q, hq⟩ : ∃ q, q = n / 9 := ⟨_, rfl⟩
  obtain ⟨r, hr⟩ : ∃ r, r = n % 9 := ⟨_, rfl⟩
  have hqr : n = 9 * q + r := by omega
  have hq1 : Int.tdiv (n : Int) 9 = (q : Int) := by rw [Int.tdiv_eq_ediv_of_nonneg (by omega)]; omega
  have hr1 : Int.tmod (n : Int) 9 = (r : Int) := by rw [Int.tmod_eq_emod_of_nonneg (by omega)]; omega
  have hr8 : r ≤ 8 := by omega
  have hqn : q ≤ 200000 := by omega
  obtain ⟨o, ho, mk⟩ := make_u32 (q + 1) w (by omega)
  rw [show ((q + 1 : Nat) : Int) = (q : Int) + 1 from by omega] at mk
  have hneg : decide ((n : Int) < 0) = false := by simp
  have H_hqr := Lib.hid hqr
  clear hq hr hqr
  go_enter Tryz.func65, Tryz.ntmps65
  go_wp2
  go_loop [4, 5] (fun x i => ∃ k : Nat, k ≤ r ∧ i = .int .i64 k ∧ x = .int .u32 ((10 ^ k : Nat) : Int)) (fun _ i => r - (intOf i).toNat)
  case atStart => exact ⟨0, by omega, rfl, rfl⟩
  case round =>
    obtain ⟨k, hk, rfl, rfl⟩ := hrel
    by_cases hlt : k < r
    · have hp : 10 ^ k ≤ 10 ^ 7 := Nat.pow_le_pow_right (by omega) (by omega)
      have hp2 : 10 ^ (k + 1) = 10 ^ k * 10 := Nat.pow_succ ..
      generalize 10 ^ k = x at *
      have t1 : decide ((k : Int) < (r : Int)) = true := by simp; omega
      have H_hp2 := Lib.hid hp2
      clear hp2
      go_wp2_with (fail)
      go_round
      case rel => exact ⟨k + 1, by omega, by simp, by rw [H_hp2.out]; simp⟩
      case measure => simp [intOf]; omega
    · obtain rfl : k = r := by omega
      have t1 : decide ((k : Int) < (k : Int)) = false := by simp
      have hp : 10 ^ k ≤ 10 ^ 8 := Nat.pow_le_pow_right (by omega) (by omega)
      have hp0 : 0 < 10 ^ k := Nat.pow_pos (by omega)
      obtain ⟨x, hx⟩ : ∃ x, x = 10 ^ k := ⟨_, rfl⟩
      rw [← hx] at hp hp0 ⊢
      have c1 := ho.out.cell (o := q) (by simp)
      have c2 := ho.out.frozen q
      have H_hx := Lib.hid hx
      clear hx
      go_wp2_with (fail)
      go_ret
      have hb := ho.out.set q x
      rw [rep_set] at hb
      have hL : (List.replicate q 0 ++ [x]).length = q + 1 := by simp
      have hs := SNat.of_blk hb ((Lim.rep q).append (Lim.one (by omega))) (by rw [hL]; omega)
      rw [hL] at hs
      refine ⟨_, _, rfl, hs, norm_snoc hp0, ?_, ((Keep.refl _ _).alloc o).setCell (fun h => absurd h (Nat.lt_irrefl _)) _⟩
      rw [sval_append, sval_rep, List.length_replicate, spow_ten, H_hqr.out, Nat.pow_add, H_hx.out]
      simp [sval]

end Go.Proofs.YthemaneoighaoaaGreatDoor
