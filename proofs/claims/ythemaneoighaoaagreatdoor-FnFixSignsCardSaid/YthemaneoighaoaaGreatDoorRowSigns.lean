/- The opposite of a decimal, its amount, and it with the sign of another one have its places: for all decimals. The condition: the listed package variables hold what the program's text lays. -/
import Derived.Test.YthemaneoighaoaaGreatDoorRw
import Derived.Test.YthemaneoighaoaaGreatDoorSgB
import Derived.Test.YthemaneoighaoaaGreatDoorTie
import Derived.Test.YthemaneoighaoaaGreatDoorCards
import Derived.SevenTiedAt
namespace Go.Proofs.YthemaneoighaoaaGreatDoor
open Go Go.ChangeShapes Go.WideShapes Go.ChangeAt Go.RowKit Go.Lib Go.Joins

/-- the world that the door lays meets the row's condition -/
theorem fnFixSigns_door (os : Os) (args : Array Value) : laidMetH Tryz.prog Rows.fnFixSignsRow.laid ((World.doorLaid Tryz.prog 82 os).forCall (fun _ _ => 0) ⟨#[], args, []⟩).memory :=
  laidMetH_of_parts3 (fuel := 8) (laidMet_of_run' 8 (by kernel_rfl) (by kernel_rfl)) (by kernel_rfl) (by kernel_rfl)

theorem fixIs_iff {c : Nat} {s : Int} : fixIs c s = true ↔ c ≤ 9999999999999999999 ∧ 0 ≤ s ∧ s ≤ 19 := by
  unfold fixIs
  simp only [Bool.and_eq_true, decide_eq_true_eq]

theorem FnFixSigns_any (n1 : Bool) (c1 : Nat) (s1 : Int) (n2 : Bool) (c2 : Nat) (s2 : Int) (w : World) :
    Calls Tryz.prog 3 #[.agg #[.bool n1, .int .u64 c1, .int .i64 s1], .agg #[.bool n2, .int .u64 c2, .int .i64 s2]] w (VRet w (.bool true)) := by
  by_cases h : (fixIs c1 s1 && fixIs c2 s2) = true
  · have h1 : fixIs c1 s1 = true := by rw [Bool.and_eq_true] at h; exact h.1
    have h2 : fixIs c2 s2 = true := by rw [Bool.and_eq_true] at h; exact h.2
    obtain ⟨k1, k2, k3⟩ := fixIs_iff.1 h1
    obtain ⟨m1, m2, m3⟩ := fixIs_iff.1 h2
    obtain ⟨a, rfl⟩ := Int.eq_ofNat_of_zero_le k2
    obtain ⟨b, rfl⟩ := Int.eq_ofNat_of_zero_le m2
    cases n2
    · exact FnFixSigns_A n1 c1 c2 a b w (by omega) (by omega) k1 m1
    · rcases Nat.eq_zero_or_pos c2 with h0 | h0
      · subst h0
        exact FnFixSigns_C n1 c1 0 a b w (by omega) (by omega) k1 m1 rfl
      · exact FnFixSigns_B n1 c1 c2 a b w (by omega) (by omega) k1 m1 h0
  · exact FnFixSigns_out n1 n2 c1 c2 s1 s2 w (by simpa using h)

set_option maxRecDepth 100000 in
theorem fnFixSigns_lifted (os : Os) (started : os.Started) (H : Type) (enc : TypeId × Value → H) :
    ReturnsInHanded {} Tryz.checked os 3 .any (fun w args => (Rows.fnFixSignsSpec.pre enc Tryz.prog Tryz.f3 [] false w args ∧ laidMetH Tryz.prog Rows.fnFixSignsRow.laid w) ∧ sizedMet enc Tryz.prog Tryz.f3 (OpenSpec.ofChange Rows.fnFixSignsSpec) false w args)
      (Rows.fnFixSignsSpec.post enc Tryz.prog Tryz.f3 false true false false) := by
  refine returnsInHanded_of_change_and (C := Tryz.checked) (X := fun w _ => laidMetH Tryz.prog Rows.fnFixSignsRow.laid w) (fun _ _ _ hh h => h.of_heap hh) rw_own started (by kernel_rfl) Tryz.func3
    (ChangeSpec.witness_shaped (enc := enc) (C := Tryz.checked) (os := os) (X := fun w _ => laidMetH Tryz.prog Rows.fnFixSignsRow.laid w) false (World.doorLaid Tryz.prog 82 os) #[.agg #[.bool false, .int .u64 0, .int .i64 0], .agg #[.bool false, .int .u64 0, .int .i64 0]] 8 rfl (World.shaped_of_RefB (by kernel_rfl) (by kernel_rfl)) (by kernel_rfl) (by kernel_rfl) (by kernel_rfl) (fnFixSigns_door os _)) ?_
  intro W base args ds gs before hval0 hW _ _ hL _
  have hval : ∀ (j : Nat) t v, Tryz.f3.params[j]? = some t → args[j]? = some v → Value.okWide Tryz.prog W .any base t v := hval0
  have hW' := hW
  obtain ⟨p, q, hA0, hV, rfl, hfz, hnd⟩ := hW
  have hA : DataW.TrodAll enc Tryz.prog W 0 (fun _ => true) true Tryz.f3.params.toList args.toList ds p := hA0
  rw [Tryz.params3] at hA hval
  obtain ⟨v0, v1, d0, d1, p0, p1, hv, rfl, rfl, h0, h1⟩ := trodAll_two hA
  subst hv
  obtain ⟨n0, c0, s0, rfl, hc0, rfl, rfl, wc0, ws0⟩ := open_fix (hval 0 24 v0 rfl rfl) h0
  obtain ⟨n1, c1, s1, rfl, hc1, rfl, rfl, wc1, ws1⟩ := open_fix (hval 1 24 v1 rfl rfl) h1
  obtain ⟨g1, g2, g3, g4, g5, g6, g7, g8, rfl⟩ := eight (trodVars_length hV)
  clear hA0 hval0
  refine (FnFixSigns_any n0 c0 s0 n1 c1 s1 W).mono fun e W' ⟨he, hf⟩ => ?_
  subst he
  have hb : Below W.heap.size W W' := hf.below
  refine ⟨_, rfl, _, _, _, [], [], q, hW', trodAll_mk1 (shut_bool Tryz.underlying4 true), ⟨[], [], shut_fix n0 wc0 ws0, trodAll_mk1 (shut_fix n1 wc1 ws1), rfl⟩, Below.trodVars rw_laidOut hb (by kernel_rfl) hV, hb.frame _, fun h => by cases h⟩

theorem fnFixSigns_row_holds : Rows.FnFixSignsSaid :=
  OpenClaim.holds_of_wide 3 Tryz.f3 rfl rfl rfl rfl rfl rfl rfl ⟨rfl, rfl, rfl, rfl, rfl⟩ rfl rfl rfl rfl rfl (by kernel_rfl) Tryz.func3 (by kernel_rfl)
    (of_decide_eq_true (by kernel_rfl)) (by unfold Func.isWrapper; first | (rw [if_pos (by decide +kernel)]; kernel_rfl) | (rw [if_neg (by decide +kernel)]; exact ⟨rfl, rfl⟩))
    (fun os started H enc _ => fnFixSigns_lifted os started H enc)

theorem fnFixSigns_card_holds : Rows.FnFixSignsCardSaid :=
  Claim7.holds_tied_plain_at .later [] [.data, .data, .data, .data, .data, .data, .data, .sentinel, .sentinel, .data] true Rows.fnFixSignsCard.stood.harness false
    fnFixSigns_row_holds (fun _ h => by cases h) (by kernel_rfl) (fun _ h => by cases h) fnFixSigns_row_tie rfl ⟨rfl, rfl⟩ (by kernel_rfl) rfl
    (fun f fn hf hfn => by
      obtain rfl : f = 3 := Option.some.inj ((show Tryz.prog.funcNamed "given.example/pub-alexandrine/laws.FnFixSigns" = some 3 by kernel_rfl).symm.trans hf) |>.symm
      obtain rfl : fn = Tryz.f3 := (Option.some.inj (Tryz.func3.symm.trans hfn)).symm
      exact ⟨by kernel_rfl, fun j t ht => by
        rw [Tryz.params3] at ht
        have hm : t ∈ [24, 24] := by simpa using Array.mem_of_getElem? ht
        have hall : ([24, 24].all fun u => !Tryz.prog.wantsStandIn u) = true := by kernel_rfl
        exact (show Tryz.prog.wantsStandIn t = false by simpa using List.all_eq_true.1 hall t hm)⟩)
    (by kernel_rfl)
#print axioms fnFixSigns_card_holds

end Go.Proofs.YthemaneoighaoaaGreatDoor

