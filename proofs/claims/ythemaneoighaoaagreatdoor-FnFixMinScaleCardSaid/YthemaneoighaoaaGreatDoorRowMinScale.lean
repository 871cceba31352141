/- The least scale of a decimal is how many places it has when it is trimmed, and it is whole if that is 0: for all decimals. The condition: the listed package variables hold what the program's text lays. -/
import Derived.Test.YthemaneoighaoaaGreatDoorRw
import Derived.Test.YthemaneoighaoaaGreatDoorMn
import Derived.Test.YthemaneoighaoaaGreatDoorTie
import Derived.Test.YthemaneoighaoaaGreatDoorCards
import Derived.SevenTiedAt
namespace Go.Proofs.YthemaneoighaoaaGreatDoor
open Go Go.ChangeShapes Go.WideShapes Go.ChangeAt Go.RowKit Go.Lib Go.Joins

/-- the world that the door lays meets the row's condition -/
theorem fnFixMinScale_door (os : Os) (args : Array Value) : laidMetH Tryz.prog Rows.fnFixMinScaleRow.laid ((World.doorLaid Tryz.prog 82 os).forCall (fun _ _ => 0) ⟨#[], args, []⟩).memory :=
  laidMetH_of_parts3 (fuel := 8) (laidMet_of_run' 8 (by kernel_rfl) (by kernel_rfl)) (by kernel_rfl) (by kernel_rfl)

theorem fnFixMinScale_pow {W : World} (h : laidMetH Tryz.prog Rows.fnFixMinScaleRow.laid W) : Pow10s W := by
  rw [MakeChecks.laidMetH_plain _ _ _ (by kernel_rfl)] at h
  exact pow10s_of h.tail.tail.tail.tail.tail.tail.tail.tail.tail

theorem fixIs_iff {c : Nat} {s : Int} : fixIs c s = true ↔ c ≤ 9999999999999999999 ∧ 0 ≤ s ∧ s ≤ 19 := by
  unfold fixIs
  simp only [Bool.and_eq_true, decide_eq_true_eq]

theorem FnFixMinScale_any (n : Bool) (c : Nat) (s : Int) (w : World) (hP : Pow10s w) :
    Calls Tryz.prog 4 #[.agg #[.bool n, .int .u64 c, .int .i64 s]] w (VRet w (.bool true)) := by
  by_cases h : fixIs c s = true
  · obtain ⟨k1, k2, k3⟩ := fixIs_iff.1 h
    obtain ⟨a, rfl⟩ := Int.eq_ofNat_of_zero_le k2
    exact FnFixMinScale_main n c a w hP (by omega) k1
  · exact FnFixMinScale_out n c s w (by simpa using h)

set_option maxRecDepth 100000 in
theorem fnFixMinScale_lifted (os : Os) (started : os.Started) (H : Type) (enc : TypeId × Value → H) :
    ReturnsInHanded {} Tryz.checked os 4 .any (fun w args => (Rows.fnFixMinScaleSpec.pre enc Tryz.prog Tryz.f4 [] false w args ∧ laidMetH Tryz.prog Rows.fnFixMinScaleRow.laid w) ∧ sizedMet enc Tryz.prog Tryz.f4 (OpenSpec.ofChange Rows.fnFixMinScaleSpec) false w args)
      (Rows.fnFixMinScaleSpec.post enc Tryz.prog Tryz.f4 false true false false) := by
  refine returnsInHanded_of_change_and (C := Tryz.checked) (X := fun w _ => laidMetH Tryz.prog Rows.fnFixMinScaleRow.laid w) (fun _ _ _ hh h => h.of_heap hh) rw_own started (by kernel_rfl) Tryz.func4
    (ChangeSpec.witness_shaped (enc := enc) (C := Tryz.checked) (os := os) (X := fun w _ => laidMetH Tryz.prog Rows.fnFixMinScaleRow.laid w) false (World.doorLaid Tryz.prog 82 os) #[.agg #[.bool false, .int .u64 0, .int .i64 0]] 8 rfl (World.shaped_of_RefB (by kernel_rfl) (by kernel_rfl)) (by kernel_rfl) (by kernel_rfl) (by kernel_rfl) (fnFixMinScale_door os _)) ?_
  intro W base args ds gs before hval0 hW _ _ hL _
  have hval : ∀ (j : Nat) t v, Tryz.f4.params[j]? = some t → args[j]? = some v → Value.okWide Tryz.prog W .any base t v := hval0
  have hW' := hW
  obtain ⟨p, q, hA0, hV, rfl, hfz, hnd⟩ := hW
  have hA : DataW.TrodAll enc Tryz.prog W 0 (fun _ => true) true Tryz.f4.params.toList args.toList ds p := hA0
  rw [Tryz.params4] at hA hval
  obtain ⟨v0, d0, hv, rfl, h0⟩ := trodAll_one hA
  subst hv
  obtain ⟨n0, c0, s0, rfl, hc0, rfl, rfl, wc0, ws0⟩ := open_fix (hval 0 24 v0 rfl rfl) h0
  obtain ⟨g1, g2, g3, g4, g5, g6, g7, g8, rfl⟩ := eight (trodVars_length hV)
  clear hA0 hval0
  refine (FnFixMinScale_any n0 c0 s0 W (fnFixMinScale_pow hL)).mono fun e W' ⟨he, hf⟩ => ?_
  subst he
  have hb : Below W.heap.size W W' := hf.below
  refine ⟨_, rfl, _, _, _, [], [], q, hW', trodAll_mk1 (shut_bool Tryz.underlying4 true), trodAll_mk1 (shut_fix n0 wc0 ws0), Below.trodVars rw_laidOut hb (by kernel_rfl) hV, hb.frame _, fun h => by cases h⟩

theorem fnFixMinScale_row_holds : Rows.FnFixMinScaleSaid :=
  OpenClaim.holds_of_wide 4 Tryz.f4 rfl rfl rfl rfl rfl rfl rfl ⟨rfl, rfl, rfl, rfl, rfl⟩ rfl rfl rfl rfl rfl (by kernel_rfl) Tryz.func4 (by kernel_rfl)
    (of_decide_eq_true (by kernel_rfl)) (by unfold Func.isWrapper; first | (rw [if_pos (by decide +kernel)]; kernel_rfl) | (rw [if_neg (by decide +kernel)]; exact ⟨rfl, rfl⟩))
    (fun os started H enc _ => fnFixMinScale_lifted os started H enc)

theorem fnFixMinScale_card_holds : Rows.FnFixMinScaleCardSaid :=
  Claim7.holds_tied_plain_at .later [] [.data, .data, .data, .data, .data, .data, .data, .sentinel, .sentinel, .data] true Rows.fnFixMinScaleCard.stood.harness false
    fnFixMinScale_row_holds (fun _ h => by cases h) (by kernel_rfl) (fun _ h => by cases h) fnFixMinScale_row_tie rfl ⟨rfl, rfl⟩ (by kernel_rfl) rfl
    (fun f fn hf hfn => by
      obtain rfl : f = 4 := Option.some.inj ((show Tryz.prog.funcNamed "given.example/pub-alexandrine/laws.FnFixMinScale" = some 4 by kernel_rfl).symm.trans hf) |>.symm
      obtain rfl : fn = Tryz.f4 := (Option.some.inj (Tryz.func4.symm.trans hfn)).symm
      exact ⟨by kernel_rfl, fun j t ht => by
        rw [Tryz.params4] at ht
        have hm : t ∈ [24] := by simpa using Array.mem_of_getElem? ht
        have hall : ([24].all fun u => !Tryz.prog.wantsStandIn u) = true := by kernel_rfl
        exact (show Tryz.prog.wantsStandIn t = false by simpa using List.all_eq_true.1 hall t hm)⟩)
    (by kernel_rfl)
#print axioms fnFixMinScale_card_holds

end Go.Proofs.YthemaneoighaoaaGreatDoor

