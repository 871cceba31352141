/- The quotient of two decimals by whole numbers of any length alone is the nearest decimal with at least so many places, or the fault that it has no room for them: for all decimals, the divisor not 0, and numbers of places. The condition: the listed package variables hold what the program's text lays. -/
import Derived.Test.YtmgidnjpkbgmgabGreatDoorKB6
import Derived.Test.YtmgidnjpkbgmgabGreatDoorKB95
import Derived.Test.YtmgidnjpkbgmgabGreatDoorKB21
namespace Go.Proofs.YtmgidnjpkbgmgabGreatDoor
open Go Go.ChangeShapes Go.WideShapes Go.ChangeAt Go.RowKit Go.Lib Go.Joins

/-- the world that the door lays meets the row's condition -/
theorem fnFixQuoBig_door (os : Os) (args : Array Value) : laidMetH Tryz.prog Rows.fnFixQuoBigRow.laid ((World.doorLaid Tryz.prog 120 os).forCall (fun _ _ => 0) ⟨#[], args, []⟩).memory :=
  laidMetH_of_parts3 (fuel := 8) (laidMet_of_run' 8 (by kernel_rfl) (by kernel_rfl)) (by kernel_rfl) (by kernel_rfl)

theorem fnFixQuoBig_pow {W : World} (h : laidMetH Tryz.prog Rows.fnFixQuoBigRow.laid W) : Pow10s W := by
  rw [MakeChecks.laidMetH_plain _ _ _ (by kernel_rfl)] at h
  exact pow10s_of h.tail.tail.tail.tail.tail.tail.tail.tail.tail

theorem fnFixQuoBig_glob {W : World} (h : laidMetH Tryz.prog Rows.fnFixQuoBigRow.laid W) : Glob W := by
  rw [MakeChecks.laidMetH_plain _ _ _ (by kernel_rfl)] at h
  exact glob_of (int_of_laid (by kernel_rfl) (by kernel_rfl) Tryz.underlying3 h.tail.tail.tail.tail) (int_of_laid (by kernel_rfl) (by kernel_rfl) Tryz.underlying3 h.tail.tail.tail.tail.tail) (int_of_laid (by kernel_rfl) (by kernel_rfl) Tryz.underlying3 h.tail.tail.tail.tail.tail.tail) (int_of_laid (by kernel_rfl) (by kernel_rfl) Tryz.underlying3 h.tail.tail.tail)

theorem fixIs_iff {c : Nat} {s : Int} : fixIs c s = true ↔ c ≤ 9999999999999999999 ∧ 0 ≤ s ∧ s ≤ 19 := by
  unfold fixIs
  simp only [Bool.and_eq_true, decide_eq_true_eq]

theorem FnFixQuoBig_any (n1 : Bool) (c1 : Nat) (s1 : Int) (n2 : Bool) (c2 : Nat) (s2 : Int) (sc : Int) (w : World) (hG : Glob w) (hP : Pow10s w) :
    Calls Tryz.prog 7 #[.agg #[.bool n1, .int .u64 c1, .int .i64 s1], .agg #[.bool n2, .int .u64 c2, .int .i64 s2], .int .i64 sc] w (VRet w (.bool true)) := by
  by_cases h : (fixIs c1 s1 && fixIs c2 s2) = true
  · have h1 : fixIs c1 s1 = true := by rw [Bool.and_eq_true] at h; exact h.1
    have h2 : fixIs c2 s2 = true := by rw [Bool.and_eq_true] at h; exact h.2
    obtain ⟨k1, k2, k3⟩ := fixIs_iff.1 h1
    obtain ⟨m1, m2, m3⟩ := fixIs_iff.1 h2
    obtain ⟨a, rfl⟩ := Int.eq_ofNat_of_zero_le k2
    obtain ⟨b, rfl⟩ := Int.eq_ofNat_of_zero_le m2
    exact FnFixQuoBig_main n1 n2 c1 a c2 b sc w hG hP (by omega) (by omega) k1 m1
  · exact FnFixQuoBig_out n1 n2 c1 c2 s1 s2 sc w (by simpa using h)

set_option maxRecDepth 100000 in
theorem fnFixQuoBig_lifted (os : Os) (started : os.Started) (H : Type) (enc : TypeId × Value → H) :
    ReturnsInHanded {} Tryz.checked os 7 .any (fun w args => (Rows.fnFixQuoBigSpec.pre enc Tryz.prog Tryz.f7 [] false w args ∧ laidMetH Tryz.prog Rows.fnFixQuoBigRow.laid w) ∧ sizedMet enc Tryz.prog Tryz.f7 (OpenSpec.ofChange Rows.fnFixQuoBigSpec) false w args)
      (Rows.fnFixQuoBigSpec.post enc Tryz.prog Tryz.f7 false true false false) := by
  refine returnsInHanded_of_change_and (C := Tryz.checked) (X := fun w _ => laidMetH Tryz.prog Rows.fnFixQuoBigRow.laid w) (fun _ _ _ hh h => h.of_heap hh) rw_own started (by kernel_rfl) Tryz.func7
    (ChangeSpec.witness_shaped (enc := enc) (C := Tryz.checked) (os := os) (X := fun w _ => laidMetH Tryz.prog Rows.fnFixQuoBigRow.laid w) false (World.doorLaid Tryz.prog 120 os) #[.agg #[.bool false, .int .u64 0, .int .i64 0], .agg #[.bool false, .int .u64 0, .int .i64 0], .int .i64 0] 8 rfl (World.shaped_of_RefB (by kernel_rfl) (by kernel_rfl)) (by kernel_rfl) (by kernel_rfl) (by kernel_rfl) (fnFixQuoBig_door os _)) ?_
  intro W base args ds gs before hval0 hW _ _ hL _
  have hval : ∀ (j : Nat) t v, Tryz.f7.params[j]? = some t → args[j]? = some v → Value.okWide Tryz.prog W .any base t v := hval0
  have hW' := hW
  obtain ⟨p, q, hA0, hV, rfl, hfz, hnd⟩ := hW
  have hA : DataW.TrodAll enc Tryz.prog W 0 (fun _ => true) true Tryz.f7.params.toList args.toList ds p := hA0
  rw [Tryz.params7] at hA hval
  obtain ⟨v0, v1, v2, d0, d1, d2, p0, p1, p2, hv, rfl, rfl, h0, h1, h2⟩ := trodAll_three hA
  subst hv
  obtain ⟨n0, c0, s0, rfl, hc0, rfl, rfl, wc0, ws0⟩ := open_fix (hval 0 24 v0 rfl rfl) h0
  obtain ⟨n1, c1, s1, rfl, hc1, rfl, rfl, wc1, ws1⟩ := open_fix (hval 1 24 v1 rfl rfl) h1
  obtain ⟨x2, rfl, rfl, rfl, wx2⟩ := open_int Tryz.underlying3 (hval 2 3 v2 rfl rfl) h2
  obtain ⟨g1, g2, g3, g4, g5, g6, g7, g8, rfl⟩ : ∃ g1 g2 g3 g4 g5 g6 g7 g8, gs = [g1, g2, g3, g4, g5, g6, g7, g8] := by
    have hl := trodVars_length hV
    match gs, hl with
    | [g1, g2, g3, g4, g5, g6, g7, g8], _ => exact ⟨g1, g2, g3, g4, g5, g6, g7, g8, rfl⟩
  clear hA0 hval0
  refine (FnFixQuoBig_any n0 c0 s0 n1 c1 s1 x2 W (fnFixQuoBig_glob hL) (fnFixQuoBig_pow hL)).mono fun e W' ⟨he, hf⟩ => ?_
  subst he
  have hb : Below W.heap.size W W' := hf.below
  refine ⟨_, rfl, _, _, _, [], [], q, hW', trodAll_mk1 (shut_bool Tryz.underlying4 true), ⟨[], [], (shut_fix n0 wc0 ws0), ⟨[], [], (shut_fix n1 wc1 ws1), trodAll_mk1 (shut_int Tryz.underlying3 wx2), rfl⟩, rfl⟩, Below.trodVars rw_laidOut hb (by kernel_rfl) hV, hb.frame _, fun h => by cases h⟩

end Go.Proofs.YtmgidnjpkbgmgabGreatDoor
