/- Held up to the last store: a load that this store alone waits for. -/
import Derived.Test.YtjjolcjeiogdmaaGreatDoorK9
namespace Go.Proofs.YtjjolcjeiogdmaaGreatDoor
open Go.RowKit

section
variable {P : Program} {ops : Array Oper} {Q : Exit → Act → World → Prop} {md : Region.Mode} {S : World → Prop} {s : Nat}

/-- an operation that yields its value in every world that meets S may be taken first, if operation s waits for it -/
theorem wpAnyE_loadS {i : Nat} {oi os : Oper} {v : Value} (hi : ops[i]? = some oi) (hs : ops[s]? = some os) (hsi : ∃ e ∈ os.after, Region.binds md e = true ∧ e.on = i)
    (hsel : ∀ (j : Nat) (o : Oper) cs b, ops[j]? = some o → o.op ≠ .select cs b)
    (hQ : ∀ c a w, Q (.panic c) (a.put oi.dst v) w → Q (.panic c) a w) :
    ∀ (fuel : Nat) (listed : Array Bool) (a : Act) (w : World),
      (∀ j oj, ops[j]? = some oj → j ≠ i → listed.getD j true = false → (∀ e ∈ oj.after, Region.binds md e = true → e.on ≠ i) → oi.apart ops oj = true) →
      i ∈ Region.ready md ops listed → listed.getD s true = false → YieldsIf P ops S oi v a → S w →
      wpAnyE P md ops Q S s fuel (listed.setIfInBounds i true) (a.put oi.dst v) w → wpAnyE P md ops Q S s (fuel + 1) listed a w := by
  intro fuel
  induction fuel with
  | zero =>
    intro listed a w _ hr _ hy hS H
    refine ⟨fun h => (by rw [h] at hr; cases hr), fun j hj => ?_⟩
    by_cases hji : j = i
    · subst hji; exact hy.wpOp hi hS ⟨fun _ => hS, H⟩
    · have := ready_mono hj hji
      rw [H.1] at this
      cases this
  | succ fuel ih =>
    intro listed a w hfree hr hsl hy hS H
    refine ⟨fun h => (by rw [h] at hr; cases hr), fun j hj => ?_⟩
    by_cases hji : j = i
    · subst hji; exact hy.wpOp hi hS ⟨fun _ => hS, H⟩
    · have h1 := H.2 j (ready_mono hj hji)
      obtain ⟨hjun, oj, hoj, hall⟩ := mem_ready.1 hj
      have hiun : ∀ k, listed.getD k true = false → ∀ e ∈ oj.after, Region.binds md e = true → e.on ≠ k := fun k h0 e he hb heq => by
        have h1 := hall e he hb
        rw [heq] at h1
        rcases Nat.lt_or_ge k listed.size with h' | h'
        · simp [h'] at h0 h1; rw [h0] at h1; cases h1
        · simp [Array.getElem?_eq_none h'] at h1
      have hnot := hiun i (mem_ready.1 hr).1
      have hjs : j ≠ s := by
        rintro rfl
        obtain ⟨e, he, hb, heq⟩ := hsi
        rw [hs] at hoj
        cases hoj
        exact hnot e he hb heq
      have h2 := wpOp_putIf hoj (hfree j oj hoj hji hjun hnot) (fun cs b => hsel i oi cs b hi) (fun cs b => hsel j oj cs b hoj) hQ hy h1
      have hfree' : ∀ k ok, ops[k]? = some ok → k ≠ i → (listed.setIfInBounds j true).getD k true = false →
          (∀ e ∈ ok.after, Region.binds md e = true → e.on ≠ i) → oi.apart ops ok = true := fun k ok hk hki hun hno => by
        refine hfree k ok hk hki ?_ hno
        by_cases hjk : j = k
        · subst hjk; exact hjun
        · rw [getD_set_ne true hjk] at hun; exact hun
      have his : i ≠ s := by
        rintro rfl
        obtain ⟨e, he, hb, heq⟩ := hsi
        obtain ⟨h0, oi', hoi, h1⟩ := mem_ready.1 hr
        rw [hs] at hoi
        cases hoi
        have h2 := h1 e he hb
        rw [heq] at h2
        rcases Nat.lt_or_ge i listed.size with h' | h'
        · simp [h'] at h0 h2; rw [h0] at h2; cases h2
        · simp [Array.getElem?_eq_none h'] at h2
      have hsl' : (listed.setIfInBounds j true).getD s true = false := by rw [getD_set_ne true hjs]; exact hsl
      refine wpOp_mono (fun a' w' h3 => ?_) h2
      have hS' : S w' := h3.2.1 (by rw [getD_set_ne true hjs, getD_set_ne true his]; exact hsl)
      refine ⟨fun _ => hS', ih (listed.setIfInBounds j true) a' w' hfree' (ready_mono hr (Ne.symm hji)) hsl' h3.1 hS' ?_⟩
      rw [Array.setIfInBounds_comm _ _ hji]
      exact h3.2.2

theorem wpAnyE_takeS {i : Nat} {oi : Oper} {v : Value} {fuel : Nat} {listed : Array Bool} {a : Act} {w : World} (hi : ops[i]? = some oi)
    (hk : (Region.noSelect ops && Region.free md ops listed i && (Region.ready md ops listed).contains i && waits md ops s i && !listed.getD s true) = true)
    (hQ : ∀ c a w, Q (.panic c) (a.put oi.dst v) w → Q (.panic c) a w) (hy : Region.wanted oi (yielded ops a.tmps) = true ∧ ∀ w, S w → (execOp a.eval oi).run P w = .ok (.value v) w) (hS : S w)
    (h : wpAnyE P md ops Q S s fuel (listed.setIfInBounds i true) (a.put oi.dst v) w) : wpAnyE P md ops Q S s (fuel + 1) listed a w := by
  simp only [Bool.and_eq_true, Bool.not_eq_true'] at hk
  obtain ⟨⟨⟨⟨h1, h2⟩, h3⟩, h4⟩, h5⟩ := hk
  obtain ⟨os, hs, hsi⟩ := waits_spec h4
  exact wpAnyE_loadS hi hs hsi (Region.noSelect_spec h1) hQ fuel listed a w (Region.free_spec hi h2) (by simpa using h3) h5 (Or.inl hy) hS h

end

end Go.Proofs.YtjjolcjeiogdmaaGreatDoor
