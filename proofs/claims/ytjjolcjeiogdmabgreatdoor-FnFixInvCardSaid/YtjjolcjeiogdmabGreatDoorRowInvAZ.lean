/- The inverse of a decimal is the nearest decimal, or an error; of 0 there is an error: for all decimals. The condition: the listed package variables hold what the program's text lays. -/
import Derived.Test.YtjjolcjeiogdmabGreatDoorK3
import Derived.Test.YtjjolcjeiogdmabGreatDoorK40
namespace Go.Proofs.YtjjolcjeiogdmabGreatDoor
open Go Go.ChangeShapes Go.WideShapes Go.ChangeAt Go.RowKit Go.Lib Go.Joins

/-- the world that the door lays meets the row's condition -/
theorem fnFixInv_door (os : Os) (args : Array Value) : laidMetH Tryz.prog Rows.fnFixInvRow.laid ((World.doorLaid Tryz.prog 101 os).forCall (fun _ _ => 0) ⟨#[], args, []⟩).memory :=
  laidMetH_of_parts3 (fuel := 8) (laidMet_of_run' 8 (by kernel_rfl) (by kernel_rfl)) (by kernel_rfl) (by kernel_rfl)

theorem fnFixInv_pow {W : World} (h : laidMetH Tryz.prog Rows.fnFixInvRow.laid W) : Pow10s W := by
  rw [MakeChecks.laidMetH_plain _ _ _ (by kernel_rfl)] at h
  exact pow10s_of h.tail.tail.tail.tail.tail.tail.tail.tail.tail.tail

theorem fnFixInv_glob {W : World} (h : laidMetH Tryz.prog Rows.fnFixInvRow.laid W) : Glob W := by
  rw [MakeChecks.laidMetH_plain _ _ _ (by kernel_rfl)] at h
  exact glob_of (int_of_laid (by kernel_rfl) (by kernel_rfl) Tryz.underlying3 h.tail.tail.tail.tail) (int_of_laid (by kernel_rfl) (by kernel_rfl) Tryz.underlying3 h.tail.tail.tail.tail.tail) (int_of_laid (by kernel_rfl) (by kernel_rfl) Tryz.underlying3 h.tail.tail.tail.tail.tail.tail) (int_of_laid (by kernel_rfl) (by kernel_rfl) Tryz.underlying3 h.tail.tail.tail)

set_option maxRecDepth 100000 in
theorem fnFixInv_err {W : World} (h : laidMetH Tryz.prog Rows.fnFixInvRow.laid W) : ErrIs W := by
  rw [MakeChecks.laidMetH_plain _ _ _ (by kernel_rfl)] at h
  have hg : Tryz.prog.globalNamed "given.example/pub-alexandrine/pub/govalues.errDecimalOverflow" = some 1 := by kernel_rfl
  obtain ⟨a, _, hv, _⟩ := laid_sentinel h.tail.tail.tail.tail.tail.tail.tail hg (by kernel_rfl) Tryz.underlying44 row_errorString Tryz.underlying71 Tryz.underlying73 rfl rfl Tryz.underlying9 (by kernel_rfl) (by kernel_rfl)
  exact ⟨a, by simpa using World.var?_cell hg hv 0⟩

set_option maxRecDepth 100000 in
theorem fnFixInv_errj {W : World} (h : laidMetH Tryz.prog Rows.fnFixInvRow.laid W) : ErrJs W := by
  rw [MakeChecks.laidMetH_plain _ _ _ (by kernel_rfl)] at h
  have hg : Tryz.prog.globalNamed "given.example/pub-alexandrine/pub/govalues.errInexactDivision" = some 2 := by kernel_rfl
  obtain ⟨a, _, hv, _⟩ := laid_sentinel h.tail.tail.tail.tail.tail.tail.tail.tail.tail hg (by kernel_rfl) Tryz.underlying44 row_errorString Tryz.underlying71 Tryz.underlying73 rfl rfl Tryz.underlying9 (by kernel_rfl) (by kernel_rfl)
  exact ⟨a, by simpa using World.var?_cell hg hv 0⟩

theorem fixIs_iff {c : Nat} {s : Int} : fixIs c s = true ↔ c ≤ 9999999999999999999 ∧ 0 ≤ s ∧ s ≤ 19 := by
  unfold fixIs
  simp only [Bool.and_eq_true, decide_eq_true_eq]

theorem FnFixInv_any (n1 : Bool) (c1 : Nat) (s1 : Int) (w : World) (hG : Glob w) (hP : Pow10s w) (hE : ErrIs w) (hJ : ErrJs w) :
    Calls Tryz.prog 3 #[.agg #[.bool n1, .int .u64 c1, .int .i64 s1]] w (VRet w (.bool true)) := by
  by_cases h : fixIs c1 s1 = true
  · obtain ⟨k1, k2, k3⟩ := fixIs_iff.1 h
    obtain ⟨a, rfl⟩ := Int.eq_ofNat_of_zero_le k2
    exact FnFixInv_main n1 c1 a w hG hP hE hJ (by omega) k1
  · exact FnFixInv_out n1 c1 s1 w (by simpa using h)

set_option maxRecDepth 100000 in
theorem fnFixInv_lifted (os : Os) (started : os.Started) (H : Type) (enc : TypeId × Value → H) :
    ReturnsInHanded {} Tryz.checked os 3 .any (fun w args => (Rows.fnFixInvSpec.pre enc Tryz.prog Tryz.f3 [] false w args ∧ laidMetH Tryz.prog Rows.fnFixInvRow.laid w) ∧ sizedMet enc Tryz.prog Tryz.f3 (OpenSpec.ofChange Rows.fnFixInvSpec) false w args)
      (Rows.fnFixInvSpec.post enc Tryz.prog Tryz.f3 false true false false) := by
  refine returnsInHanded_of_change_and (C := Tryz.checked) (X := fun w _ => laidMetH Tryz.prog Rows.fnFixInvRow.laid w) (fun _ _ _ hh h => h.of_heap hh) rw_own started (by kernel_rfl) Tryz.func3
    (ChangeSpec.witness_shaped (enc := enc) (C := Tryz.checked) (os := os) (X := fun w _ => laidMetH Tryz.prog Rows.fnFixInvRow.laid w) false (World.doorLaid Tryz.prog 101 os) #[.agg #[.bool false, .int .u64 0, .int .i64 0]] 8 rfl (World.shaped_of_RefB (by kernel_rfl) (by kernel_rfl)) (by kernel_rfl) (by kernel_rfl) (by kernel_rfl) (fnFixInv_door os _)) ?_
  intro W base args ds gs before hval0 hW _ _ hL _
  have hval : ∀ (j : Nat) t v, Tryz.f3.params[j]? = some t → args[j]? = some v → Value.okWide Tryz.prog W .any base t v := hval0
  have hW' := hW
  obtain ⟨p, q, hA0, hV, rfl, hfz, hnd⟩ := hW
  have hA : DataW.TrodAll enc Tryz.prog W 0 (fun _ => true) true Tryz.f3.params.toList args.toList ds p := hA0
  rw [Tryz.params3] at hA hval
  obtain ⟨v0, d0, hv, rfl, h0⟩ := trodAll_one hA
  subst hv
  obtain ⟨n0, c0, s0, rfl, hc0, rfl, rfl, wc0, ws0⟩ := open_fix (hval 0 24 v0 rfl rfl) h0
  obtain ⟨g1, g2, g3, g4, g5, g6, g7, g8, g9, rfl⟩ : ∃ g1 g2 g3 g4 g5 g6 g7 g8 g9, gs = [g1, g2, g3, g4, g5, g6, g7, g8, g9] := by
    have hl := trodVars_length hV
    match gs, hl with
    | [g1, g2, g3, g4, g5, g6, g7, g8, g9], _ => exact ⟨g1, g2, g3, g4, g5, g6, g7, g8, g9, rfl⟩
  clear hA0 hval0
  refine (FnFixInv_any n0 c0 s0 W (fnFixInv_glob hL) (fnFixInv_pow hL) (fnFixInv_err hL) (fnFixInv_errj hL)).mono fun e W' ⟨he, hf⟩ => ?_
  subst he
  have hb : Below W.heap.size W W' := hf.below
  refine ⟨_, rfl, _, _, _, [], [], q, hW', trodAll_mk1 (shut_bool Tryz.underlying4 true), trodAll_mk1 (shut_fix n0 wc0 ws0), Below.trodVars rw_laidOut hb (by kernel_rfl) hV, hb.frame _, fun h => by cases h⟩

end Go.Proofs.YtjjolcjeiogdmabGreatDoor
