/- What the rows of the laws on govalues' decimals share: the arguments opened and shut, the laid table of powers of ten, the door's world. -/
import Derived.Test.YtmgidnjpkbgmgabGreatDoorRows
import Derived.ProofKit
import Derived.LaidMore
import Derived.OpenShut
import Derived.OpenVars
import Derived.Stop.Joined
import Derived.Stop.LaidErr
import Derived.Lib.LaidTab
import Derived.Lib.SmallJoins
import Derived.Test.YtmgidnjpkbgmgabGreatDoorKB5
namespace Go.Proofs.YtmgidnjpkbgmgabGreatDoor
open Go Go.ChangeShapes Go.WideShapes Go.ChangeAt Go.RowKit Go.Lib Go.Joins

theorem rw_own : ownKnob Tryz.prog.godebug = none := by kernel_rfl
theorem rw_laidOut : laidOutB Tryz.prog = true := by kernel_rfl

theorem i64_wf {n : Int} (h : (Lit.int .i64 n).wf = true) : -9223372036854775808 ≤ n ∧ n ≤ 9223372036854775807 := by
  have e1 : IntKind.i64.min = -9223372036854775808 := by decide
  have e2 : IntKind.i64.max = 9223372036854775807 := by decide
  simp only [Lit.wf, Bool.and_eq_true, decide_eq_true_eq, e1, e2] at h
  exact h
theorem u64_wf {n : Int} (h : (Lit.int .u64 n).wf = true) : 0 ≤ n ∧ n ≤ 18446744073709551615 := by
  have e1 : IntKind.u64.min = 0 := by decide
  have e2 : IntKind.u64.max = 18446744073709551615 := by decide
  simp only [Lit.wf, Bool.and_eq_true, decide_eq_true_eq, e1, e2] at h
  exact h

variable {H : Type} {enc : TypeId × Value → H}

set_option maxRecDepth 100000 in
/-- a decimal of the thin package that came in -/
theorem open_fix {w : World} {r : Reach} {b0 base : Nat} {spare : Nat → Bool} {held : Bool} {v : Value} {d : DataW H} {p : List MemPlace} (hv : Value.okWide Tryz.prog w r b0 24 v) (h : DataW.Trod enc Tryz.prog w base spare held 24 v d p) :
    ∃ (n : Bool) (c : Nat) (s : Int), v = .agg #[.bool n, .int .u64 c, .int .i64 s] ∧ c < 18446744073709551616 ∧ d = .agg [.lit (.bool n), .lit (.int .u64 c), .lit (.int .i64 s)] ∧ p = [] ∧ (Lit.int .u64 (c : Int)).wf = true ∧ (Lit.int .i64 s).wf = true := by
  obtain ⟨v0, v1, v2, y0, y1, y2, n, rfl, rfl, rfl, h0, h1, h2⟩ := open_agg3 Tryz.underlying24 (by kernel_rfl) (by kernel_rfl) hv h
  obtain ⟨b, e0, rfl⟩ := DataW.trod_bool Tryz.underlying4 h0
  obtain ⟨c, e1, rfl, w1⟩ := DataW.trod_int Tryz.underlying22 h1
  obtain ⟨s, e2, rfl, w2⟩ := DataW.trod_int Tryz.underlying3 h2
  simp at e0 e1 e2
  subst e0 e1 e2
  have hc := u64_wf w1
  obtain ⟨c', rfl⟩ := Int.eq_ofNat_of_zero_le hc.1
  exact ⟨b, c', s, rfl, by omega, rfl, rfl, w1, w2⟩

set_option maxRecDepth 100000 in
theorem shut_fix {w : World} {base : Nat} {spare : Nat → Bool} {held : Bool} (n : Bool) {c s : Int} (h1 : (Lit.int .u64 c).wf = true) (h2 : (Lit.int .i64 s).wf = true) :
    DataW.Trod enc Tryz.prog w base spare held 24 (.agg #[.bool n, .int .u64 c, .int .i64 s]) (.agg [.lit (.bool n), .lit (.int .u64 c), .lit (.int .i64 s)]) [] :=
  shut_agg3 (y0 := (.lit (.bool n), [])) (y1 := (.lit (.int .u64 c), [])) (y2 := (.lit (.int .i64 s), [])) Tryz.underlying24 (by kernel_rfl) (by kernel_rfl) (shut_bool Tryz.underlying4 n) (shut_int Tryz.underlying22 h1) (shut_int Tryz.underlying3 h2)

theorem trodVars_length {P : Program} {w : World} {sp : Nat → Bool} : ∀ {ns : List String} {gs : List (DataW H)} {ps : List MemPlace}, DataW.TrodVars enc P w sp ns gs ps → gs.length = ns.length
  | [], [], _, _ => rfl
  | [], _ :: _, _, h => h.elim
  | _ :: _, [], _, h => h.elim
  | _ :: ns, _ :: gs, _, h => by
    obtain ⟨_, _, _, _, _, _, _, _, _, _, h, _⟩ := h
    simp [trodVars_length h]

theorem pow10_data : (∀ {H : Type}, (Rows.laid_given_example_pub_alexandrine_pub_govalues_pow10 : DataW H) = tabData .u64 ((List.range 20).map fun i => ((10 ^ i : Nat) : Int))) := fun {H} => by rfl

theorem pow10s_of {W : World} {rest : List (String × DataW Unit)} (h : laidMet Tryz.prog (("given.example/pub-alexandrine/pub/govalues.pow10", Rows.laid_given_example_pub_alexandrine_pub_govalues_pow10) :: rest) W) : Pow10s W := by
  rw [pow10_data] at h
  have hg : Tryz.prog.globalNamed "given.example/pub-alexandrine/pub/govalues.pow10" = some 3 := by kernel_rfl
  have ht := tabIs_of_head hg (t := 147) (by kernel_rfl) Tryz.underlying147 Tryz.underlying58 (by kernel_rfl) (by kernel_rfl) h
  intro i hi
  have := ht.cell hg i (by simpa using hi)
  rw [this]
  simp [List.getD, hi]

end Go.Proofs.YtmgidnjpkbgmgabGreatDoor
