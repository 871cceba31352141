/- A decimal with another exponent is cut off: for all decimals of at most 60 digits, with exponents from -60 to 60, and exponents from -100 to 100. The condition: the listed package variables hold what the program's text lays. -/
import Derived.Test.YtllencgncinphaaGreatDoorK7
import Derived.Test.YtllencgncinphaaGreatDoorK41
namespace Go.Proofs.YtllencgncinphaaGreatDoor
open Go Go.ChangeShapes Go.WideShapes Go.ChangeAt Go.RowKit Go.Lib Go.Joins

/-- the world that the door lays meets the row's condition -/
theorem fnDecRescale_door (os : Os) (args : Array Value) : laidMetH Tryz.prog Rows.fnDecRescaleRow.laid ((World.doorLaid Tryz.prog 39 os).forCall (fun _ _ => 0) ⟨#[], args, []⟩).memory :=
  laidMetH_of_parts3 (fuel := 8) (laidMet_of_run' 8 (by kernel_rfl) (by kernel_rfl)) (by kernel_rfl) (by kernel_rfl)

theorem fnDecRescale_glob {W : World} (h : laidMetH Tryz.prog Rows.fnDecRescaleRow.laid W) : Glob W := by
  rw [MakeChecks.laidMetH_plain _ _ _ (by kernel_rfl)] at h
  exact glob_of (int_of_laid (by kernel_rfl) (by kernel_rfl) Tryz.underlying3 h.tail.tail.tail) (int_of_laid (by kernel_rfl) (by kernel_rfl) Tryz.underlying3 h.tail.tail.tail.tail) (int_of_laid (by kernel_rfl) (by kernel_rfl) Tryz.underlying3 h.tail.tail.tail.tail.tail) (int_of_laid (by kernel_rfl) (by kernel_rfl) Tryz.underlying3 h.tail.tail)

theorem FnDecRescale_any (t0 : ByteArray) (x0 : Int) (x1 : Int) (w : World) (hG : Glob w) (h0 : t0.size ≤ maxLen) (k0 : -9223372036854775808 ≤ x0 ∧ x0 ≤ 9223372036854775807) (k1 : -9223372036854775808 ≤ x1 ∧ x1 ≤ 9223372036854775807) :
    Calls Tryz.prog 3 #[.agg #[.string t0, .int .i64 x0], .int .i64 x1] w (VRet w (.bool true)) := by
  unfold maxLen at h0
  by_cases h : t0.size ≤ 2147483647
  · obtain ⟨S0, rfl, hS0⟩ := bstr_any t0
    rw [bstr_size] at h
    exact FnDecRescale_main S0 x0 x1 w hG hS0 h k0 k1
  · exact FnDecRescale_out t0 x0 x1 w (by omega) h

set_option maxRecDepth 100000 in
theorem fnDecRescale_lifted (os : Os) (started : os.Started) (H : Type) (enc : TypeId × Value → H) :
    ReturnsInHanded {} Tryz.checked os 3 .any (fun w args => (Rows.fnDecRescaleSpec.pre enc Tryz.prog Tryz.f3 [] false w args ∧ laidMetH Tryz.prog Rows.fnDecRescaleRow.laid w) ∧ sizedMet enc Tryz.prog Tryz.f3 (OpenSpec.ofChange Rows.fnDecRescaleSpec) false w args)
      (Rows.fnDecRescaleSpec.post enc Tryz.prog Tryz.f3 false true false false) := by
  refine returnsInHanded_of_change_and (C := Tryz.checked) (X := fun w _ => laidMetH Tryz.prog Rows.fnDecRescaleRow.laid w) (fun _ _ _ hh h => h.of_heap hh) rw_own started (by kernel_rfl) Tryz.func3
    (ChangeSpec.witness_shaped (enc := enc) (C := Tryz.checked) (os := os) (X := fun w _ => laidMetH Tryz.prog Rows.fnDecRescaleRow.laid w) false (World.doorLaid Tryz.prog 39 os) #[.agg #[.string ⟨#[]⟩, .int .i64 0], .int .i64 0] 8 rfl (World.shaped_of_RefB (by kernel_rfl) (by kernel_rfl)) (by kernel_rfl) (by kernel_rfl) (by kernel_rfl) (fnDecRescale_door os _)) ?_
  intro W base args ds gs before hval0 hW _ _ hL _
  have hval : ∀ (j : Nat) t v, Tryz.f3.params[j]? = some t → args[j]? = some v → Value.okWide Tryz.prog W .any base t v := hval0
  have hW' := hW
  obtain ⟨p, q, hA0, hV, rfl, hfz, hnd⟩ := hW
  have hA : DataW.TrodAll enc Tryz.prog W 0 (fun _ => true) true Tryz.f3.params.toList args.toList ds p := hA0
  rw [Tryz.params3] at hA hval
  obtain ⟨v0, v1, d0, d1, p0, p1, hv, rfl, rfl, h0, h1⟩ := trodAll_two hA
  subst hv
  obtain ⟨t0, x0, rfl, rfl, rfl, wt0, wx0⟩ := open_dec (hval 0 23 v0 rfl rfl) h0
  obtain ⟨x1, rfl, rfl, rfl, wx1⟩ := open_int Tryz.underlying3 (hval 1 3 v1 rfl rfl) h1
  obtain ⟨g1, g2, g3, g4, rfl⟩ : ∃ g1 g2 g3 g4, gs = [g1, g2, g3, g4] := by
    have hl := trodVars_length hV
    match gs, hl with
    | [g1, g2, g3, g4], _ => exact ⟨g1, g2, g3, g4, rfl⟩
  clear hA0 hval0
  refine (FnDecRescale_any t0 x0 x1 W (fnDecRescale_glob hL) wt0 (i64_wf wx0) (i64_wf wx1)).mono fun e W' ⟨he, hf⟩ => ?_
  subst he
  have hb : Below W.heap.size W W' := hf.below
  refine ⟨_, rfl, _, _, _, [], [], q, hW', trodAll_mk1 (shut_bool Tryz.underlying4 true), ⟨[], [], (shut_dec wt0 wx0), trodAll_mk1 (shut_int Tryz.underlying3 wx1), rfl⟩, Below.trodVars rw_laidOut hb (by kernel_rfl) hV, hb.frame _, fun h => by cases h⟩

end Go.Proofs.YtllencgncinphaaGreatDoor
