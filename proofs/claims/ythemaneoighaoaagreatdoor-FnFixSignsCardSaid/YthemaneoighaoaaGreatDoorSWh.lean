/- The contracts of the reference's whole numbers: wholeOf, one. -/
import Derived.Test.YthemaneoighaoaaGreatDoorSNatC
namespace Go.Proofs.YthemaneoighaoaaGreatDoor
open Go.RowKit

/-- a whole number, as the pair of its sign and its amount -/
abbrev swh (neg : Bool) (v : Value) : Value := .agg #[.bool neg, v]

set_option maxHeartbeats 400000 in
theorem wholeOf_any (neg : Bool) (v : Value) (l : List Nat) (w : World) (h : SNat w v l) :
    Calls Tryz.prog 29 #[.bool neg, v] w (fun e w' => e = .returned (swh (neg && decide (0 < l.length)) v) ∧ Fresh w w') := by
  obtain ⟨a, c, rfl⟩ := h.form
  generalize l.length = n at *
  clear h
  cases neg
  · go_enter Tryz.func29, Tryz.ntmps29
    go_wp2
    refine bodyPost_ret (results_cell_row rfl _ _ w.heap.size 29 #[.bool false, .slice a n c] (0, 0) _ rfl (heap_alloc_new w _) Tryz.underlying29 rfl (by kernel_rfl)) rfl ?_
    exact ⟨rfl, (Keep.refl _ _).alloc _⟩
  · go_enter Tryz.func29, Tryz.ntmps29
    go_wp2
    refine bodyPost_ret (results_cell_row rfl _ _ w.heap.size 29 #[.bool (decide (0 < n)), .slice a n c] (0, 0) _ rfl (heap_alloc_new w _) Tryz.underlying29 rfl (by kernel_rfl)) rfl ?_
    exact ⟨rfl, (Keep.refl _ _).alloc _⟩

theorem Blk.lit {k : IntKind} {w : World} {L : List Nat} {T : TypeId} : Blk k (w.alloc (.cells (L.map (wd k)).toArray T)) w.heap.size L := ⟨T, heap_alloc_new w _⟩

set_option maxHeartbeats 400000 in
theorem one_any (w : World) : Calls Tryz.prog 57 #[] w (SRet w 1) := by
  go_enter Tryz.func57, Tryz.ntmps57
  go_wp2
  go_ret
  exact ⟨_, [1], rfl, SNat.of_blk (Blk.lit (L := [1])) (Lim.one (by omega)) (by simp), norm_snoc (l := []) (by omega), rfl, (Keep.refl _ _).alloc _⟩

end Go.Proofs.YthemaneoighaoaaGreatDoor
