/- A quotient is the nearest one with 16 places: for all decimals of at most 60 digits, with exponents from -60 to 60. The condition: the listed package variables hold what the program's text lays. -/
import Derived.Test.YtllencgncinphaaGreatDoorKE7
import Derived.Test.YtllencgncinphaaGreatDoorKE48
namespace Go.Proofs.YtllencgncinphaaGreatDoor
open Go Go.ChangeShapes Go.WideShapes Go.ChangeAt Go.RowKit Go.Lib Go.Joins

/-- the world that the door lays meets the row's condition -/
theorem fnDecDiv_door (os : Os) (args : Array Value) : laidMetH Tryz.prog Rows.fnDecDivRow.laid ((World.doorLaid Tryz.prog 39 os).forCall (fun _ _ => 0) ⟨#[], args, []⟩).memory :=
  laidMetH_of_parts3 (fuel := 8) (laidMet_of_run' 8 (by kernel_rfl) (by kernel_rfl)) (by kernel_rfl) (by kernel_rfl)

theorem fnDecDiv_glob {W : World} (h : laidMetH Tryz.prog Rows.fnDecDivRow.laid W) : Glob W := by
  rw [MakeChecks.laidMetH_plain _ _ _ (by kernel_rfl)] at h
  exact glob_of (int_of_laid (by kernel_rfl) (by kernel_rfl) Tryz.underlying3 h.tail.tail.tail) (int_of_laid (by kernel_rfl) (by kernel_rfl) Tryz.underlying3 h.tail.tail.tail.tail) (int_of_laid (by kernel_rfl) (by kernel_rfl) Tryz.underlying3 h.tail.tail.tail.tail.tail) (int_of_laid (by kernel_rfl) (by kernel_rfl) Tryz.underlying3 h.tail.tail)

theorem fnDecDiv_divp {W : World} (h : laidMetH Tryz.prog Rows.fnDecDivRow.laid W) : DivP W := by
  rw [MakeChecks.laidMetH_plain _ _ _ (by kernel_rfl)] at h
  exact int_of_laid (by kernel_rfl) (by kernel_rfl) Tryz.underlying3 h.tail.tail.tail.tail.tail.tail

theorem FnDecDiv_any (t0 : ByteArray) (x0 : Int) (t1 : ByteArray) (x1 : Int) (w : World) (hG : Glob w) (hV : DivP w) (h0 : t0.size ≤ maxLen) (h1 : t1.size ≤ maxLen) (k0 : -9223372036854775808 ≤ x0 ∧ x0 ≤ 9223372036854775807) (k1 : -9223372036854775808 ≤ x1 ∧ x1 ≤ 9223372036854775807) :
    Calls Tryz.prog 9 #[.agg #[.string t0, .int .i64 x0], .agg #[.string t1, .int .i64 x1]] w (VRet w (.bool true)) := by
  unfold maxLen at h0 h1
  by_cases h : t0.size ≤ 2147483647 ∧ t1.size ≤ 2147483647
  · obtain ⟨S0, rfl, hS0⟩ := bstr_any t0
    obtain ⟨S1, rfl, hS1⟩ := bstr_any t1
    rw [bstr_size, bstr_size] at h
    exact FnDecDiv_main S0 S1 x0 x1  w hG hV hS0 hS1 h.1 h.2 k0 k1
  · exact FnDecDiv_out t0 t1 x0 x1  w (by omega) (by omega) h

set_option maxRecDepth 100000 in
theorem fnDecDiv_lifted (os : Os) (started : os.Started) (H : Type) (enc : TypeId × Value → H) :
    ReturnsInHanded {} Tryz.checked os 9 .any (fun w args => (Rows.fnDecDivSpec.pre enc Tryz.prog Tryz.f9 [] false w args ∧ laidMetH Tryz.prog Rows.fnDecDivRow.laid w) ∧ sizedMet enc Tryz.prog Tryz.f9 (OpenSpec.ofChange Rows.fnDecDivSpec) false w args)
      (Rows.fnDecDivSpec.post enc Tryz.prog Tryz.f9 false true false false) := by
  refine returnsInHanded_of_change_and (C := Tryz.checked) (X := fun w _ => laidMetH Tryz.prog Rows.fnDecDivRow.laid w) (fun _ _ _ hh h => h.of_heap hh) rw_own started (by kernel_rfl) Tryz.func9
    (ChangeSpec.witness_shaped (enc := enc) (C := Tryz.checked) (os := os) (X := fun w _ => laidMetH Tryz.prog Rows.fnDecDivRow.laid w) false (World.doorLaid Tryz.prog 39 os) #[.agg #[.string ⟨#[]⟩, .int .i64 0], .agg #[.string ⟨#[]⟩, .int .i64 0]] 8 rfl (World.shaped_of_RefB (by kernel_rfl) (by kernel_rfl)) (by kernel_rfl) (by kernel_rfl) (by kernel_rfl) (fnDecDiv_door os _)) ?_
  intro W base args ds gs before hval0 hW _ _ hL _
  have hval : ∀ (j : Nat) t v, Tryz.f9.params[j]? = some t → args[j]? = some v → Value.okWide Tryz.prog W .any base t v := hval0
  have hW' := hW
  obtain ⟨p, q, hA0, hV, rfl, hfz, hnd⟩ := hW
  have hA : DataW.TrodAll enc Tryz.prog W 0 (fun _ => true) true Tryz.f9.params.toList args.toList ds p := hA0
  rw [Tryz.params9] at hA hval
  obtain ⟨v0, v1, d0, d1, p0, p1, hv, rfl, rfl, h0, h1⟩ := trodAll_two hA
  subst hv
  obtain ⟨t0, x0, rfl, rfl, rfl, wt0, wx0⟩ := open_dec (hval 0 23 v0 rfl rfl) h0
  obtain ⟨t1, x1, rfl, rfl, rfl, wt1, wx1⟩ := open_dec (hval 1 23 v1 rfl rfl) h1
  obtain ⟨g1, g2, g3, g4, g5, rfl⟩ : ∃ g1 g2 g3 g4 g5, gs = [g1, g2, g3, g4, g5] := by
    have hl := trodVars_length hV
    match gs, hl with
    | [g1, g2, g3, g4, g5], _ => exact ⟨g1, g2, g3, g4, g5, rfl⟩
  clear hA0 hval0
  refine (FnDecDiv_any t0 x0 t1 x1 W (fnDecDiv_glob hL) (fnDecDiv_divp hL) wt0 wt1 (i64_wf wx0) (i64_wf wx1)).mono fun e W' ⟨he, hf⟩ => ?_
  subst he
  have hb : Below W.heap.size W W' := hf.below
  refine ⟨_, rfl, _, _, _, [], [], q, hW', trodAll_mk1 (shut_bool Tryz.underlying4 true), ⟨[], [], (shut_dec wt0 wx0), trodAll_mk1 (shut_dec wt1 wx1), rfl⟩, Below.trodVars rw_laidOut hb (by kernel_rfl) hV, hb.frame _, fun h => by cases h⟩

end Go.Proofs.YtllencgncinphaaGreatDoor
