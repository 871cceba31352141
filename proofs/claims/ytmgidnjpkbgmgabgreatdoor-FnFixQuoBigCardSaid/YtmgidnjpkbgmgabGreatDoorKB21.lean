/- What the laid variables of math/big, and the sentinel errors, hold. -/
import Derived.Test.YtmgidnjpkbgmgabGreatDoorKB15
import Derived.Test.YtmgidnjpkbgmgabGreatDoorKB20
namespace Go.Proofs.YtmgidnjpkbgmgabGreatDoor
open Go Go.ChangeShapes Go.WideShapes Go.ChangeAt Go.RowKit Go.Lib Go.Joins

theorem int_of_laid {W : World} {name : String} {n : Int} {rest : List (String × DataW Unit)} {g : Nat} {t : TypeId} (hg : Tryz.prog.globalNamed name = some g) (hty : (Tryz.prog.globals[g]?).map (·.type) = some t) (ht : Tryz.prog.underlying t = some (.int .i64))
    (h : laidMet Tryz.prog ((name, .lit (.int .i64 n)) :: rest) W) : W.cell? ⟨g, 0, none⟩ = some (.int .i64 n) := by
  obtain ⟨ps, ⟨g', t', cs, fuel, p, q, hg', ht', hvar, hd, _, _⟩, _⟩ := h
  obtain rfl := Option.some.inj (hg.symm.trans hg')
  obtain rfl := Option.some.inj (hty.symm.trans ht')
  obtain ⟨k, e1, e2, _⟩ := DataW.trod_int ht hd
  have hk : n = k := by simpa using congrArg Prod.fst e2
  subst hk
  have := World.var?_cell hg hvar 0
  rw [Array.eq_one_of_toList e1] at this
  simpa using this

theorem size_of_cell {w : World} {g : Nat} {v : Value} (h : w.cell? ⟨g, 0, none⟩ = some v) : g < w.heap.size := World.block_lt_of_cell? w _ h

theorem glob_of {W : World} (h1 : W.cell? ⟨8, 0, none⟩ = some (.int .i64 40)) (h2 : W.cell? ⟨6, 0, none⟩ = some (.int .i64 12))
    (h3 : W.cell? ⟨7, 0, none⟩ = some (.int .i64 80)) (h4 : W.cell? ⟨5, 0, none⟩ = some (.int .i64 40)) : Glob W := by
  have s1 := size_of_cell h1
  have s2 := size_of_cell h2
  have s3 := size_of_cell h3
  have s4 := size_of_cell h4
  exact ⟨by unfold NG; omega, h1, h2, h3, h4⟩

end Go.Proofs.YtmgidnjpkbgmgabGreatDoor
