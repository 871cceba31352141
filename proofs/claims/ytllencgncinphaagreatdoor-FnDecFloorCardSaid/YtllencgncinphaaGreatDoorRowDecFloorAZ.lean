/- The greatest whole number not above a decimal and the least one not below it are those of its number: for all decimals of at most 60 digits, with exponents from -60 to 60. The condition: the listed package variables hold what the program's text lays. -/
import Derived.Test.YtllencgncinphaaGreatDoorKF7
import Derived.Test.YtllencgncinphaaGreatDoorKF48
namespace Go.Proofs.YtllencgncinphaaGreatDoor
open Go Go.ChangeShapes Go.WideShapes Go.ChangeAt Go.RowKit Go.Lib Go.Joins

/-- the world that the door lays meets the row's condition -/
theorem fnDecFloor_door (os : Os) (args : Array Value) : laidMetH Tryz.prog Rows.fnDecFloorRow.laid ((World.doorLaid Tryz.prog 39 os).forCall (fun _ _ => 0) ⟨#[], args, []⟩).memory :=
  laidMetH_of_parts3 (fuel := 8) (laidMet_of_run' 8 (by kernel_rfl) (by kernel_rfl)) (by kernel_rfl) (by kernel_rfl)

theorem fnDecFloor_glob {W : World} (h : laidMetH Tryz.prog Rows.fnDecFloorRow.laid W) : Glob W := by
  rw [MakeChecks.laidMetH_plain _ _ _ (by kernel_rfl)] at h
  exact glob_of (int_of_laid (by kernel_rfl) (by kernel_rfl) Tryz.underlying3 h.tail.tail.tail) (int_of_laid (by kernel_rfl) (by kernel_rfl) Tryz.underlying3 h.tail.tail.tail.tail) (int_of_laid (by kernel_rfl) (by kernel_rfl) Tryz.underlying3 h.tail.tail.tail.tail.tail) (int_of_laid (by kernel_rfl) (by kernel_rfl) Tryz.underlying3 h.tail.tail)

theorem FnDecFloor_any (t0 : ByteArray) (x0 : Int) (w : World) (hG : Glob w) (h0 : t0.size ≤ maxLen) (k0 : -9223372036854775808 ≤ x0 ∧ x0 ≤ 9223372036854775807) :
    Calls Tryz.prog 7 #[.agg #[.string t0, .int .i64 x0]] w (VRet w (.bool true)) := by
  unfold maxLen at h0
  by_cases h : t0.size ≤ 2147483647
  · obtain ⟨S0, rfl, hS0⟩ := bstr_any t0
    rw [bstr_size] at h
    exact FnDecFloor_main S0 x0  w hG hS0 h k0
  · exact FnDecFloor_out t0 x0  w (by omega) h

set_option maxRecDepth 100000 in
theorem fnDecFloor_lifted (os : Os) (started : os.Started) (H : Type) (enc : TypeId × Value → H) :
    ReturnsInHanded {} Tryz.checked os 7 .any (fun w args => (Rows.fnDecFloorSpec.pre enc Tryz.prog Tryz.f7 [] false w args ∧ laidMetH Tryz.prog Rows.fnDecFloorRow.laid w) ∧ sizedMet enc Tryz.prog Tryz.f7 (OpenSpec.ofChange Rows.fnDecFloorSpec) false w args)
      (Rows.fnDecFloorSpec.post enc Tryz.prog Tryz.f7 false true false false) := by
  refine returnsInHanded_of_change_and (C := Tryz.checked) (X := fun w _ => laidMetH Tryz.prog Rows.fnDecFloorRow.laid w) (fun _ _ _ hh h => h.of_heap hh) rw_own started (by kernel_rfl) Tryz.func7
    (ChangeSpec.witness_shaped (enc := enc) (C := Tryz.checked) (os := os) (X := fun w _ => laidMetH Tryz.prog Rows.fnDecFloorRow.laid w) false (World.doorLaid Tryz.prog 39 os) #[.agg #[.string ⟨#[]⟩, .int .i64 0]] 8 rfl (World.shaped_of_RefB (by kernel_rfl) (by kernel_rfl)) (by kernel_rfl) (by kernel_rfl) (by kernel_rfl) (fnDecFloor_door os _)) ?_
  intro W base args ds gs before hval0 hW _ _ hL _
  have hval : ∀ (j : Nat) t v, Tryz.f7.params[j]? = some t → args[j]? = some v → Value.okWide Tryz.prog W .any base t v := hval0
  have hW' := hW
  obtain ⟨p, q, hA0, hV, rfl, hfz, hnd⟩ := hW
  have hA : DataW.TrodAll enc Tryz.prog W 0 (fun _ => true) true Tryz.f7.params.toList args.toList ds p := hA0
  rw [Tryz.params7] at hA hval
  obtain ⟨v0, d0, hv, rfl, h0⟩ := trodAll_one hA
  subst hv
  obtain ⟨t0, x0, rfl, rfl, rfl, wt0, wx0⟩ := open_dec (hval 0 23 v0 rfl rfl) h0
  obtain ⟨g1, g2, g3, g4, rfl⟩ : ∃ g1 g2 g3 g4, gs = [g1, g2, g3, g4] := by
    have hl := trodVars_length hV
    match gs, hl with
    | [g1, g2, g3, g4], _ => exact ⟨g1, g2, g3, g4, rfl⟩
  clear hA0 hval0
  refine (FnDecFloor_any t0 x0 W (fnDecFloor_glob hL) wt0 (i64_wf wx0)).mono fun e W' ⟨he, hf⟩ => ?_
  subst he
  have hb : Below W.heap.size W W' := hf.below
  refine ⟨_, rfl, _, _, _, [], [], q, hW', trodAll_mk1 (shut_bool Tryz.underlying4 true), trodAll_mk1 (shut_dec wt0 wx0), Below.trodVars rw_laidOut hb (by kernel_rfl) hV, hb.frame _, fun h => by cases h⟩

end Go.Proofs.YtllencgncinphaaGreatDoor
