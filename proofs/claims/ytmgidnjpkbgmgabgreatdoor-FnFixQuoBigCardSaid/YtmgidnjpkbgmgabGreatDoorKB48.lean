/- Inside addBint and mulBint: what lies where. -/
import Derived.Test.YtmgidnjpkbgmgabGreatDoorKB17
import Derived.Test.YtmgidnjpkbgmgabGreatDoorKB40
namespace Go.Proofs.YtmgidnjpkbgmgabGreatDoor
open Go.RowKit

/-- inside addBint and mulBint: the two decimals, the result's place, the two whole numbers -/
structure BS (w V : World) (g : Nat) (m1 m2 : Bool) (c1 s1 c2 s2 : Nat) (v u : Value) (a e : Nat) : Prop where
  r1 : V.heap[g]? = some (.cells #[.bool m1, .int .i8 s1, .int .u64 c1] 60 (0, 0))
  r2 : V.heap[g + 1]? = some (.cells #[.bool m2, .int .i8 s2, .int .u64 c2] 60 (0, 0))
  r3 : V.heap[g + 1 + 1]? = some (.cells #[.bool false, .int .i8 0, .int .u64 0] 60 (0, 0))
  z : BI V (g + 3) v a
  y : BI V (g + 4) u e
  ov : ∀ k, v.ownBlock = some k → g + 5 ≤ k
  ou : ∀ k, u.ownBlock = some k → g + 5 ≤ k
  od : ∀ k, v.ownBlock = some k → u.ownBlock ≠ some k
  f : Fresh w V
  hg : g = w.heap.size
  hs : g + 5 ≤ V.heap.size

section
variable {w V V' : World} {g : Nat} {m1 m2 : Bool} {c1 s1 c2 s2 : Nat} {v u : Value} {a e m : Nat}

theorem BS.cells (h : BS w V g m1 m2 c1 s1 c2 s2 v u a e) : V.cell? ⟨g, 0, none⟩ = some (.bool m1) ∧ V.cell? ⟨g, 1, none⟩ = some (.int .i8 s1) ∧ V.cell? ⟨g, 2, none⟩ = some (.int .u64 c1) ∧
    V.cell? ⟨g + 1, 0, none⟩ = some (.bool m2) ∧ V.cell? ⟨g + 1, 1, none⟩ = some (.int .i8 s2) ∧ V.cell? ⟨g + 1, 2, none⟩ = some (.int .u64 c2) :=
  ⟨row_cell h.r1 0, row_cell h.r1 1, row_cell h.r1 2, row_cell h.r2 0, row_cell h.r2 1, row_cell h.r2 2⟩

theorem BS.fresh (h : BS w V g m1 m2 c1 s1 c2 s2 v u a e) (hf : Fresh V V') : BS w V' g m1 m2 c1 s1 c2 s2 v u a e :=
  ⟨row_fresh h.r1 hf, row_fresh h.r2 hf, row_fresh h.r3 hf, h.z.fresh hf, h.y.fresh hf, h.ov, h.ou, h.od, fresh_trans h.f hf, h.hg, Nat.le_trans h.hs hf.size⟩

theorem BS.setP (h : BS w V g m1 m2 c1 s1 c2 s2 v u a e) (hb : BSet V (g + 3) v m V') : ∃ v', BS w V' g m1 m2 c1 s1 c2 s2 v' u m e := by
  obtain ⟨v', h1, h2, h3⟩ := hb
  have no : ∀ k, k ≤ g + 2 → ¬ (k = g + 3 ∨ v.ownBlock = some k) := fun k hk hh => by
    rcases hh with hh | hh
    · omega
    · have := h.ov k hh; omega
  refine ⟨v', row_keep h.r1 h2 (no _ (by omega)), row_keep h.r2 h2 (no _ (by omega)), row_keep h.r3 h2 (no _ (by omega)), h1, h.y.keep h2 ?_ ?_, ?_, h.ou, ?_, h.f.trans h2 (fun _ _ h => h) ?_, h.hg, Nat.le_trans h.hs h2.size⟩
  · rintro (hh | hh)
    · omega
    · have := h.ov _ hh; omega
  · rintro k hk (hh | hh)
    · have := h.ou k hk; omega
    · exact h.od k hh hk
  · intro k hk
    rcases h3 k hk with hh | hh
    · exact h.ov k hh
    · have := h.hs; omega
  · intro k hk hh
    rcases h3 k hk with h' | h'
    · exact h.od k h' hh
    · have := h.y.own_lt hh; omega
  · intro k hk hh
    have := h.hg
    rcases hh with rfl | hh
    · omega
    · have := h.ov k hh; omega

theorem BS.setQ (h : BS w V g m1 m2 c1 s1 c2 s2 v u a e) (hb : BSet V (g + 4) u m V') : ∃ u', BS w V' g m1 m2 c1 s1 c2 s2 v u' a m := by
  obtain ⟨u', h1, h2, h3⟩ := hb
  have no : ∀ k, k ≤ g + 2 → ¬ (k = g + 4 ∨ u.ownBlock = some k) := fun k hk hh => by
    rcases hh with hh | hh
    · omega
    · have := h.ou k hh; omega
  refine ⟨u', row_keep h.r1 h2 (no _ (by omega)), row_keep h.r2 h2 (no _ (by omega)), row_keep h.r3 h2 (no _ (by omega)), h.z.keep h2 ?_ ?_, h1, h.ov, ?_, ?_, h.f.trans h2 (fun _ _ h => h) ?_, h.hg, Nat.le_trans h.hs h2.size⟩
  · rintro (hh | hh)
    · omega
    · have := h.ou _ hh; omega
  · rintro k hk (hh | hh)
    · have := h.ov k hk; omega
    · exact h.od k hk hh
  · intro k hk
    rcases h3 k hk with hh | hh
    · exact h.ou k hh
    · have := h.hs; omega
  · intro k hk hh
    rcases h3 k hh with h' | h'
    · exact h.od k hk h'
    · have := h.z.own_lt hk; omega
  · intro k hk hh
    have := h.hg
    rcases hh with rfl | hh
    · omega
    · have := h.ou k hh; omega

end

end Go.Proofs.YtmgidnjpkbgmgabGreatDoor
