/- big: the stack of temporary numbers, as long as it is small. -/
import Derived.Lib.AppendZerosOnto
import Derived.Laws.AppendOwn
import Derived.Test.YtmgidnjpkbgmgabGreatDoorKB81
namespace Go.Proofs.YtmgidnjpkbgmgabGreatDoor
open Go.RowKit Go.Lib

/-- a stack that has taken no room yet -/
def Stk0 (w : World) (b : Nat) : Prop := w.cell? ⟨b, 0, none⟩ = some (.pointer none)

theorem getStack_any (w : World) : Calls Tryz.prog 172 #[] w (fun e w' => e = .returned (.pointer (some ⟨w.heap.size, 0, none⟩)) ∧ Hid (Stk0 w' w.heap.size ∧ Fresh w w')) := by
  go_enter Tryz.func172, Tryz.ntmps172
  go_wp2
  go_ret
  exact ⟨rfl, Lib.hid ⟨(row_cell (heap_alloc_new w _) 0).trans rfl, (Keep.refl _ _).alloc _⟩⟩

theorem save_nil (b : Nat) (w : World) (h : Stk0 w b) : Calls Tryz.prog 194 #[.pointer (some ⟨b, 0, none⟩)] w (fun e w' => e = .returned (.int .i64 0) ∧ w = w') := by
  unfold Stk0 at h
  go_enter Tryz.func194, Tryz.ntmps194
  go_wp2
  go_ret
  exact ⟨rfl, rfl⟩

theorem restore_nil (b : Nat) (w : World) (h : Stk0 w b) : CallsD Tryz.prog 193 #[.pointer (some ⟨b, 0, none⟩), .int .i64 0] .returning w (fun e u' w' => u' = .returning ∧ (e = .returned (.tuple #[]) ∧ w' = w)) := by
  unfold Stk0 at h
  go_enter_d Tryz.func193, Tryz.ntmps193
  go_wp2
  first
    | (go_end0; exact ⟨rfl, rfl⟩)
    | (refine ⟨rfl, .tuple #[], by simp [results, Tryz.results193], rfl, rfl⟩)

theorem free_nil (b : Nat) (w : World) (h : Stk0 w b) : CallsD Tryz.prog 173 #[.pointer (some ⟨b, 0, none⟩)] .returning w (fun e u' w' => u' = .returning ∧ (e = .returned (.tuple #[]) ∧ w' = w)) := by
  unfold Stk0 at h
  go_enter_d Tryz.func173, Tryz.ntmps173
  go_wp2
  go_end0
  exact ⟨rfl, rfl⟩

theorem zero_cells (n : Nat) : (Builtin.zeroCells #[Value.int .u64 0] n).toList = List.replicate n (Value.int .u64 0) := by
  simp [Builtin.zeroCells]
  apply List.ext_getElem
  · simp
  · intro i h1 h2
    simp [Nat.mod_one]

set_option maxRecDepth 20000 in
theorem Grow_nil (n : Nat) (w : World) (h0 : 0 < n) (hn : n ≤ 1000) :
    Calls Tryz.prog 223 #[.slice none 0 0, .int .i64 n] w (fun e w' => ∃ G, e = .returned (.slice (some ⟨w.heap.size, 0, none⟩) 0 G) ∧ n ≤ G ∧ G ≤ 9223372036854775807 ∧ Hid (Blk .u64 w' w.heap.size (List.replicate G 0) ∧ Fresh w w')) := by
  obtain ⟨i0, hi, hz0, hz1, hz2⟩ := info_parts (show (Tryz.prog.info? 164).map (fun i => (i.zero, i.size, i.bytes)) = some (some (.int .u64 0), 1, 8) from by kernel_rfl)
  have h1 : ¬ ((n : Int) < 0) := by omega
  have h4 : decide ((0 : Int) < (n : Int)) = true := by simp; omega
  have hold : (Builtin.firstCells i0.size 0 (.slice none 0 0)).run Tryz.prog w.drew = .ok (#[] : Array Value) w.drew := run_firstCells_none w.drew i0.size 0 0 0
  have hG0 := grownCap_ge w n 0 164
  have hG1 := grownCap_le_maxLen w n 0 164 (by unfold maxLen; omega)
  have hrz : ∀ ty, (Builtin.append_ #[134, 3] ty #[.slice none 0 0, .int .i64 (n : Int)]).run Tryz.prog w =
      .ok (.slice (some ⟨w.heap.size, 0, none⟩) n (grownCap w n 0 164)) (w.drew.alloc (.cells ((#[] : Array Value) ++ Builtin.zeroCells (Value.int .u64 0).cells n ++ Builtin.zeroCells (Value.int .u64 0).cells (grownCap w n 0 164 - n)) 164)) := fun ty => by
    have h := Lib.run_append_grow_zeros w 134 3 ty 164 i0 (.int .u64 0) .i64 .i64 Tryz.underlying134 Tryz.underlying3 hi hz0 none 0 0 [] hold n (by omega) (by omega) (by omega) (by omega)
      (by rw [hz2]; omega)
      (by rw [Nat.zero_add]; exact growslice_fits (by omega) (by rw [hz2]; omega))
    rw [Nat.zero_add] at h
    exact h
  obtain ⟨G, hG⟩ : ∃ G, G = grownCap w n 0 164 := ⟨_, rfl⟩
  rw [← hG] at hrz hG0 hG1
  unfold maxLen at hG1
  have hblk : ∀ cs : Array Value, cs.toList = List.replicate G (Value.int .u64 0) → Hid (Blk .u64 (w.alloc (.cells cs 164)).drew w.heap.size (List.replicate G 0) ∧ Fresh w (w.alloc (.cells cs 164)).drew) := by
    intro cs hcs
    refine Lib.hid ⟨⟨164, ?_⟩, ((Keep.refl _ _).alloc _).drew⟩
    rw [show (w.alloc (.cells cs 164)).drew.heap = (w.alloc (.cells cs 164)).heap from rfl, heap_alloc_new]
    congr 2
    apply Array.ext'
    rw [hcs]
    simp
  clear hold hi hz0 hz1 hz2 hG
  go_enter Tryz.func223, Tryz.ntmps223
  go_wp2_with (at_builtin; refine Lib.wpList_append_run _ rfl _ _ _ _ rfl _ _ rfl rfl _ _ (hrz _) ?_)
  all_goals (go_ret; exact ⟨G, rfl, hG0, by omega, hblk _ (by simp only [Array.toList_append, zero_cells, List.replicate_append_replicate]; rw [show n + (G - n) = G by omega])⟩)

/-- what the stack hands out: room of its own -/
theorem stkNat_nil (b n : Nat) (w : World) (h : Stk0 w b) (h0 : 0 < n) (hn : n ≤ 4) :
    Calls Tryz.prog 196 #[.pointer (some ⟨b, 0, none⟩), .int .i64 n] w (fun e w' => ∃ G L, e = .returned (.slice (some ⟨w.heap.size, 0, none⟩) n G) ∧ n ≤ G ∧ G ≤ 9223372036854775807 ∧
      Hid (Blk .u64 w' w.heap.size L ∧ L.length = G ∧ (∀ a ∈ L, a < 18446744073709551616) ∧ Fresh w w')) := by
  unfold Stk0 at h
  have t1 : decide ((n : Int) ≤ 4) = true := by simp; omega
  have t2 : decide ((0 : Int) < (n : Int)) = true := by simp; omega
  have hg := Grow_nil n w h0 (by omega)
  have H_hg := Lib.hid hg; clear hg
  go_enter Tryz.func196, Tryz.ntmps196
  go_wp2_with (fail)
  refine H_hg.out.mono ?_
  rintro e w1 ⟨G, rfl, hG1, hG2, hb⟩
  have hc0 := hb.out.1.cell (o := 0) (by simp; omega)
  have hf0 := hb.out.1.frozen 0
  have hs := hb.out.1.set 0 11259375
  have hfr := hb.out.2
  have lnG : (n : Int) ≤ (G : Int) := by omega
  have ln0 : (0 : Int) < (n : Int) := by omega
  generalize (List.replicate G 0).getD 0 0 = z0 at *
  have H_hs := Lib.hid hs; clear hs
  have H_hfr := Lib.hid hfr; clear hfr
  go_wp2_with (fail)
  go_ret
  refine ⟨G, (List.replicate G 0).set 0 11259375, rfl, hG1, hG2, Lib.hid ⟨H_hs.out, by simp, ?_, ?_⟩⟩
  · intro a ha
    rcases List.mem_or_eq_of_mem_set ha with ha | rfl
    · rw [List.eq_of_mem_replicate ha]; omega
    · omega
  · exact H_hfr.out.setCell (fun h => absurd h (by show ¬ w.heap.size < w.heap.size; omega)) _

end Go.Proofs.YtmgidnjpkbgmgabGreatDoor
