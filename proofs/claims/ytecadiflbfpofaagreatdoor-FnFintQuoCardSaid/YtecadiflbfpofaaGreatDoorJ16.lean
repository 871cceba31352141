/- The quotient of two whole numbers of at most 19 digits is told if it is whole: for all whole numbers of 64 bits. The condition: the listed package variables hold what the program's text lays. -/
import Derived.Test.YtecadiflbfpofaaGreatDoorJ6
import Derived.Test.YtecadiflbfpofaaGreatDoorJ15
namespace Go.Proofs.YtecadiflbfpofaaGreatDoor
open Go Go.ChangeShapes Go.WideShapes Go.ChangeAt Go.RowKit Go.Lib Go.Joins

/-- the world that the door lays meets the row's condition -/
theorem fnFintQuo_door (os : Os) (args : Array Value) : laidMetH Tryz.prog Rows.fnFintQuoRow.laid ((World.doorLaid Tryz.prog 82 os).forCall (fun _ _ => 0) ⟨#[], args, []⟩).memory :=
  laidMetH_of_parts3 (fuel := 8) (laidMet_of_run' 8 (by kernel_rfl) (by kernel_rfl)) (by kernel_rfl) (by kernel_rfl)

set_option maxRecDepth 100000 in
theorem open_u64 {H : Type} {enc : TypeId × Value → H} {w : World} {base : Nat} {spare : Nat → Bool} {held : Bool} {v : Value} {d : DataW H} {p : List MemPlace} {r : Reach} {b0 : Nat} (hv : Value.okWide Tryz.prog w r b0 22 v) (h : DataW.Trod enc Tryz.prog w base spare held 22 v d p) :
    ∃ c : Nat, v = .int .u64 c ∧ d = .lit (.int .u64 c) ∧ p = [] ∧ (Lit.int .u64 (c : Int)).wf = true := by
  obtain ⟨c, rfl, rfl, rfl, w1⟩ := open_int Tryz.underlying22 hv h
  have hc := u64_wf w1
  obtain ⟨c', rfl⟩ := Int.eq_ofNat_of_zero_le hc.1
  exact ⟨c', rfl, rfl, rfl, w1⟩

theorem FnFintQuo_any (x y : Nat) (w : World) : Calls Tryz.prog 4 #[.int .u64 x, .int .u64 y] w (VRet w (.bool true)) := by
  by_cases h : x ≤ 9999999999999999999 ∧ 0 < y ∧ y ≤ 9999999999999999999
  · exact FnFintQuo_main x y w h.1 h.2.1 h.2.2
  · exact FnFintQuo_out x y w h

set_option maxRecDepth 100000 in
theorem fnFintQuo_lifted (os : Os) (started : os.Started) (H : Type) (enc : TypeId × Value → H) :
    ReturnsInHanded {} Tryz.checked os 4 .any (fun w args => (Rows.fnFintQuoSpec.pre enc Tryz.prog Tryz.f4 [] false w args ∧ laidMetH Tryz.prog Rows.fnFintQuoRow.laid w) ∧ sizedMet enc Tryz.prog Tryz.f4 (OpenSpec.ofChange Rows.fnFintQuoSpec) false w args)
      (Rows.fnFintQuoSpec.post enc Tryz.prog Tryz.f4 false true false false) := by
  refine returnsInHanded_of_change_and (C := Tryz.checked) (X := fun w _ => laidMetH Tryz.prog Rows.fnFintQuoRow.laid w) (fun _ _ _ hh h => h.of_heap hh) rw_own started (by kernel_rfl) Tryz.func4
    (ChangeSpec.witness_shaped (enc := enc) (C := Tryz.checked) (os := os) (X := fun w _ => laidMetH Tryz.prog Rows.fnFintQuoRow.laid w) false (World.doorLaid Tryz.prog 82 os) #[.int .u64 0, .int .u64 0] 8 rfl (World.shaped_of_RefB (by kernel_rfl) (by kernel_rfl)) (by kernel_rfl) (by kernel_rfl) (by kernel_rfl) (fnFintQuo_door os _)) ?_
  intro W base args ds gs before hval0 hW _ _ hL _
  have hval : ∀ (j : Nat) t v, Tryz.f4.params[j]? = some t → args[j]? = some v → Value.okWide Tryz.prog W .any base t v := hval0
  have hW' := hW
  obtain ⟨p, q, hA0, hV, rfl, hfz, hnd⟩ := hW
  have hA : DataW.TrodAll enc Tryz.prog W 0 (fun _ => true) true Tryz.f4.params.toList args.toList ds p := hA0
  rw [Tryz.params4] at hA hval
  obtain ⟨v0, v1, d0, d1, p0, p1, hv, rfl, rfl, h0, h1⟩ := trodAll_two hA
  subst hv
  obtain ⟨x0, rfl, rfl, rfl, wx0⟩ := open_u64 (hval 0 22 v0 rfl rfl) h0
  obtain ⟨x1, rfl, rfl, rfl, wx1⟩ := open_u64 (hval 1 22 v1 rfl rfl) h1
  obtain ⟨g1, g2, g3, g4, g5, g6, g7, g8, rfl⟩ : ∃ g1 g2 g3 g4 g5 g6 g7 g8, gs = [g1, g2, g3, g4, g5, g6, g7, g8] := by
    have hl := trodVars_length hV
    match gs, hl with
    | [g1, g2, g3, g4, g5, g6, g7, g8], _ => exact ⟨g1, g2, g3, g4, g5, g6, g7, g8, rfl⟩
  clear hA0 hval0
  refine (FnFintQuo_any x0 x1 W ).mono fun e W' ⟨he, hf⟩ => ?_
  subst he
  have hb : Below W.heap.size W W' := hf.below
  refine ⟨_, rfl, _, _, _, [], [], q, hW', trodAll_mk1 (shut_bool Tryz.underlying4 true), ⟨[], [], (shut_int Tryz.underlying22 wx0), trodAll_mk1 (shut_int Tryz.underlying22 wx1), rfl⟩, Below.trodVars rw_laidOut hb (by kernel_rfl) hV, hb.frame _, fun h => by cases h⟩

end Go.Proofs.YtecadiflbfpofaaGreatDoor
