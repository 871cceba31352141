/- A region that draws its order, of which m operations may come up in many orders (allocations among them): shown by one condition on what is listed, on the slots that they fill and on the world. -/
import Derived.Test.YtjdfapoomjeabaaGreatDoorK4
import Derived.Test.YtjdfapoomjeabaaGreatDoorK9
namespace Go.Proofs.YtjdfapoomjeabaaGreatDoor
open Go.RowKit

theorem row_set_ne {w : World} {g h i : Nat} {o : Option Obj} {v : Value} (hne : g ≠ h) (k : w.heap[h]? = o) : (w.setCell ⟨g, i, none⟩ v).heap[h]? = o := by
  simp only [World.setCell, Array.getElem?_modify]
  rw [if_neg hne]; exact k

theorem row3 {w : World} {g : Nat} {a b c x y z : Value} {T : TypeId} (h : w.heap[g]? = some (.cells #[a, b, c] T (0, 0))) :
    (((w.setCell ⟨g, 0, none⟩ x).setCell ⟨g, 1, none⟩ y).setCell ⟨g, 2, none⟩ z).heap[g]? = some (.cells #[x, y, z] T (0, 0)) := row_set (row_set (row_set h))

theorem row3_ne {w : World} {g h : Nat} {x y z : Value} {o : Option Obj} (hne : g ≠ h) (k : w.heap[h]? = o) :
    (((w.setCell ⟨g, 0, none⟩ x).setCell ⟨g, 1, none⟩ y).setCell ⟨g, 2, none⟩ z).heap[h]? = o := row_set_ne hne (row_set_ne hne (row_set_ne hne k))

theorem lt_of_row {w : World} {g : Nat} {o : Obj} (h : w.heap[g]? = some o) : g < w.heap.size := by
  rcases Nat.lt_or_ge g w.heap.size with hlt | hge
  · exact hlt
  · rw [Array.getElem?_eq_none hge] at h; cases h

theorem SFr.set3 {w : World} {g : Nat} {x u : Value} {z : Int} {d : Nat} (h : SFr w x z d) (hc : w.cell? ⟨g, 0, none⟩ = some u) (hu : ∀ n, u ≠ wd .u32 n) (v1 v2 v3 : Value) :
    SFr (((w.setCell ⟨g, 0, none⟩ v1).setCell ⟨g, 1, none⟩ v2).setCell ⟨g, 2, none⟩ v3) x z d := by
  obtain ⟨neg, v, l, dv, dl, h1, h2, h3, h4, h5, h6, h7⟩ := h
  have o1 := h2.off hc hu
  have o2 := h6.off hc hu
  exact ⟨neg, v, l, dv, dl, h1, ((h2.setOff o1).setOff o1).setOff o1, h3, h4, h5, ((h6.setOff o2).setOff o2).setOff o2, h7⟩

section
variable {P : Program} {ops : Array Oper} {Q : Exit → Act → World → Prop} {md : Region.Mode}

/-- does operation i wait for operation j, at first hand or through others? -/
def reach (md : Region.Mode) (ops : Array Oper) : Nat → Nat → Nat → Bool
  | 0, i, j => waits md ops i j
  | f + 1, i, j => waits md ops i j || (List.range ops.size).any fun k => waits md ops i k && reach md ops f k j

/-- what is up has what it waits for -/
def UpClosed (md : Region.Mode) (ops : Array Oper) (l : Array Bool) : Prop := ∀ i j, l.getD i false = true → waits md ops i j = true → l.getD j false = true

theorem reach_up {l : Array Bool} (hc : UpClosed md ops l) : ∀ (f i j : Nat), (∀ k, waits md ops i k = true → l.getD k false = true) → reach md ops f i j = true → l.getD j false = true
  | 0, _, j, hi, h => hi j h
  | f + 1, i, j, hi, h => by
    unfold reach at h
    rw [Bool.or_eq_true] at h
    rcases h with h | h
    · exact hi j h
    · obtain ⟨k, _, hk⟩ := List.any_eq_true.1 h
      rw [Bool.and_eq_true] at hk
      exact reach_up hc f k j (fun k' h' => hc k k' (hi k hk.1) h') hk.2

/-- the first m operations wait for earlier ones alone, the others for all of the first m or for another of the others -/
def floatOk (md : Region.Mode) (ops : Array Oper) (m : Nat) : Bool :=
  decide (m ≤ ops.size) && (List.range ops.size).all fun i =>
    match ops[i]? with
    | none => false
    | some o => if i < m then o.after.all fun e => !Region.binds md e || decide (e.on < i)
      else ((List.range m).all fun j => reach md ops 3 i j) || (List.range ops.size).any fun j => decide (m ≤ j) && waits md ops i j

/-- an operation that is ready has what it waits for -/
theorem ready_dep {i j : Nat} {l : Array Bool} (hi : i ∈ Region.ready md ops l) (hw : waits md ops i j = true) : l.getD j false = true := by
  obtain ⟨o, ho, e, he, hb, rfl⟩ := waits_spec hw
  obtain ⟨_, o', ho', h⟩ := mem_ready.1 hi
  rw [ho] at ho'
  cases ho'
  exact h e he hb

/-- the list of which the first m are up -/
def upTo (m n : Nat) : Array Bool := (List.replicate m true ++ List.replicate (n - m) false).toArray

theorem listed_eq {l : Array Bool} {m n : Nat} (hs : l.size = n) (hm : m ≤ n) (h1 : ∀ j, j < m → l.getD j false = true) (h2 : ∀ j, m ≤ j → j < n → l.getD j true = false) : l = upTo m n := by
  apply Array.ext
  · simp [upTo]; omega
  · intro i hi hi2
    by_cases h : i < m
    · have := h1 i h
      simp [Array.getD, hi] at this
      simp [upTo, h, this]
    · have := h2 i (by omega) (by omega)
      simp [Array.getD, hi] at this
      simp [upTo, List.getElem_append, h, this]

/-- how many of the first m are not up -/
def openN (l : Array Bool) (m : Nat) : Nat := ((List.range m).filter fun j => !l.getD j false).length

theorem openN_set {l : Array Bool} {i : Nat} (hi : l.getD i true = false) : ∀ m, i < l.size → openN (l.setIfInBounds i true) m = if i < m then openN l m - 1 else openN l m := by
  intro m hsz
  have hi' : l.getD i false = false := by
    have h : l.getD i false = l.getD i true := by simp [hsz]
    exact h.trans hi
  induction m with
  | zero => simp [openN]
  | succ m ih =>
    unfold openN at ih ⊢
    rw [List.range_succ, List.filter_append, List.filter_append, List.length_append, List.length_append, ih]
    by_cases hm : i = m
    · subst hm
      have e : (l.setIfInBounds i true).getD i false = true := by simp [hsz]
      have h3 : (List.filter (fun j => !(l.setIfInBounds i true).getD j false) [i]).length = 0 := by rw [List.filter_cons_of_neg (by simp [hsz])]; rfl
      have h4 : (List.filter (fun j => !l.getD j false) [i]).length = 1 := by rw [List.filter_cons_of_pos (by simpa using hi')]; rfl
      rw [if_neg (by omega), if_pos (by omega)]
      omega
    · have e : (l.setIfInBounds i true).getD m false = l.getD m false := getD_set_ne false hm
      by_cases hlt : i < m
      · rw [if_pos hlt, if_pos (by omega)]
        have hpos : 0 < ((List.range m).filter fun j => !l.getD j false).length := by
          apply List.length_pos_of_mem (a := i)
          simpa [hlt] using hi'
        have h3 : (List.filter (fun j => !(l.setIfInBounds i true).getD j false) [m]).length = (List.filter (fun j => !l.getD j false) [m]).length := by simp only [List.filter_cons, List.filter_nil, e]
        omega
      · rw [if_neg hlt, if_neg (by omega)]
        have h3 : (List.filter (fun j => !(l.setIfInBounds i true).getD j false) [m]).length = (List.filter (fun j => !l.getD j false) [m]).length := by simp only [List.filter_cons, List.filter_nil, e]
        omega

theorem wpAny_float {m : Nat} {J : Array Bool → Act → World → Prop} (hk : floatOk md ops m = true)
    (hs : ∀ l a w i, J l a w → i < m → i ∈ Region.ready md ops l → wpOp P ops Q i (J (l.setIfInBounds i true)) a w)
    (hq : ∀ a w, J (upTo m ops.size) a w → wpAny P md ops Q (ops.size - m) (upTo m ops.size) a w) :
    ∀ (c : Nat) (l : Array Bool) (a : Act) (w : World), UpClosed md ops l → l.size = ops.size → (∀ j, m ≤ j → j < ops.size → l.getD j true = false) → openN l m = c → J l a w → wpAny P md ops Q (c + (ops.size - m)) l a w := by
  unfold floatOk at hk
  rw [Bool.and_eq_true, decide_eq_true_eq] at hk
  obtain ⟨hm, hk⟩ := hk
  have hdep : ∀ i o, i < m → ops[i]? = some o → ∀ e ∈ o.after, Region.binds md e = true → e.on < i := by
    intro i o hi ho e he hb
    have h := List.all_eq_true.1 hk i (by simp; omega)
    rw [ho] at h
    simp only [if_pos hi, Array.all_eq_true_iff_forall_mem] at h
    have h2 := h e he
    rw [hb] at h2
    simpa using h2
  intro c
  induction c with
  | zero =>
    intro l a w hcl hsz hhi hc hJ
    have hall : ∀ j, j < m → l.getD j false = true := fun j hj => by
      unfold openN at hc
      have h0 := List.eq_nil_of_length_eq_zero hc
      cases hx : l.getD j false
      · exfalso
        have : j ∈ ((List.range m).filter fun j => !l.getD j false) := by rw [List.mem_filter]; exact ⟨by simpa using hj, by rw [hx]; rfl⟩
        rw [h0] at this
        cases this
      · rfl
    have hl := listed_eq hsz hm hall hhi
    subst hl
    rw [Nat.zero_add]
    exact hq a w hJ
  | succ c ih =>
    intro l a w hcl hsz hhi hc hJ
    rw [Nat.add_right_comm]
    have hex : ∃ i, i < m ∧ l.getD i false = false ∧ ∀ j, j < i → l.getD j false = true := by
      have hne : ∃ i, i < m ∧ l.getD i false = false := by
        apply Classical.byContradiction
        intro hno
        have : openN l m = 0 := by
          unfold openN
          rw [List.filter_eq_nil_iff.2]
          · rfl
          · intro j hj
            cases hx : l.getD j false
            · exact absurd ⟨j, by simpa using hj, hx⟩ hno
            · simp
        omega
      obtain ⟨i, hi, hx⟩ := hne
      induction i using Nat.strongRecOn with
      | _ i ihi =>
        by_cases hb : ∃ j, j < i ∧ l.getD j false = false
        · obtain ⟨j, hj, hy⟩ := hb
          exact ihi j hj (by omega) hy
        · refine ⟨i, hi, hx, fun j hj => ?_⟩
          cases hy : l.getD j false
          · exact absurd ⟨j, hj, hy⟩ hb
          · rfl
    obtain ⟨i, hi, hx, hbelow⟩ := hex
    have hio : i < l.size := by omega
    have hxt : l.getD i true = false := by
      simp [Array.getD, hio] at hx ⊢
      exact hx
    have hri : i ∈ Region.ready md ops l := by
      rw [mem_ready]
      refine ⟨hxt, ops[i]'(by omega), by simp [hsz ▸ hio], fun e he hb => hbelow _ ?_⟩
      exact hdep i (ops[i]'(by omega)) hi (by simp [hsz ▸ hio]) e he hb
    refine ⟨fun h0 => (by rw [h0] at hri; cases hri), fun j hj => ?_⟩
    obtain ⟨hjt, o, ho, hall⟩ := mem_ready.1 hj
    have hjo : j < ops.size := (Array.getElem?_eq_some_iff.1 ho).1
    have hjm : j < m := by
      apply Classical.byContradiction
      intro hge
      have h := List.all_eq_true.1 hk j (by simp; omega)
      rw [ho] at h
      simp only [if_neg hge, Bool.or_eq_true, List.all_eq_true, List.any_eq_true, Bool.and_eq_true, decide_eq_true_eq] at h
      rcases h with h | ⟨k, hk1, hk2, hk3⟩
      · have := reach_up hcl 3 j i (fun k hk => ready_dep hj hk) (h i (by simpa using hi))
        rw [hx] at this
        cases this
      · have h4 := ready_dep hj hk3
        have hks : k < ops.size := by simpa using hk1
        have h5 := hhi k hk2 hks
        have h6 : k < l.size := by omega
        simp [Array.getD, h6] at h4 h5
        rw [h4] at h5
        cases h5
    refine wpOp_mono (fun a' w' hJ' => ?_) (hs l a w j hJ hjm hj)
    refine ih _ a' w' (fun p q hp hq' => ?_) (by simpa using hsz) (fun k h1 h2 => ?_) ?_ hJ'
    · by_cases hpj : j = p
      · subst hpj; exact getD_set_true (ready_dep hj hq')
      · rw [getD_set_ne false hpj] at hp; exact getD_set_true (hcl p q hp hq')
    · rw [getD_set_ne true (by omega)]; exact hhi k h1 h2
    · rw [openN_set hjt m (by omega), if_pos hjm, hc]; rfl

theorem openN_replicate (n m : Nat) (h : m ≤ n) : openN (Array.replicate n false) m = m := by
  unfold openN
  rw [List.filter_eq_self.2, List.length_range]
  intro j hj
  have hj' : j < m := by simpa using hj
  have : j < n := by omega
  simp [Array.getD, this]

/-- slots laid one after the other -/
def putAll (a : Act) : List Nat → List Value → Act
  | s :: ss, v :: vs => putAll (a.put (some s) v) ss vs
  | _, _ => a

/-- one operation alone may come up -/
theorem wpAny_next {i : Nat} {o : Oper} {fuel : Nat} {listed : Array Bool} {a : Act} {w : World} (ho : ops[i]? = some o) (hr : Region.ready md ops listed = [i])
    (h : ∀ K' : Act → World → Prop, Shut (∀ a w, wpAny P md ops Q fuel (listed.setIfInBounds i true) a w → K' a w) →
      if Region.wanted o (yielded ops a.tmps) = true then Oper.wp P o a w K' Q else K' (a.put o.dst undef) w) : wpAny P md ops Q (fuel + 1) listed a w := by
  refine ⟨fun h0 => by rw [hr] at h0; simp at h0, fun j hj => ?_⟩
  rw [hr] at hj
  obtain rfl : j = i := by simpa using hj
  exact wpOp_step ho h

theorem wpAny_end {listed : Array Bool} {a : Act} {w : World} (hr : Region.ready md ops listed = []) (h : Q .normal a w) :
    ∀ fuel, wpAny P md ops Q fuel listed a w
  | 0 => ⟨hr, h⟩
  | _ + 1 => ⟨fun _ => h, by rw [hr]; simp⟩

/-- what is up stays up, and nothing else comes up -/
theorem was_up {l : Array Bool} {i j : Nat} (h : (l.setIfInBounds i true).getD j false = true) (hne : i ≠ j) : l.getD j false = true := by rw [getD_set_ne false hne] at h; exact h

/-- the region: m operations in any order that their edges allow, then the others -/
theorem wp_region_float (m : Nat) (F : List Value → Act) (J : Array Bool → List Value → World → Prop) {id : Nat} {a : Act} {w : World} (hm : P.follows .mixedOrders = true) (hk : floatOk .any ops m = true)
    (u0 : List Value) (ha : a = F u0) (h0 : J (Array.replicate ops.size false) u0 w.drew)
    (hs : ∀ l us w i, J l us w → i < m → i ∈ Region.ready .any ops l → ∀ K : Act → World → Prop, Shut (∀ us' w', J (l.setIfInBounds i true) us' w' → K (F us') w') → wpOp P ops Q i K (F us) w)
    (hq : ∀ us w, J (upTo m ops.size) us w → wpAny P .any ops Q (ops.size - m) (upTo m ops.size) (F us) w) : (Code.region id ops true).wp P Q a w := by
  have hmle : m ≤ ops.size := by
    unfold floatOk at hk
    rw [Bool.and_eq_true, decide_eq_true_eq] at hk
    exact hk.1
  refine wp_region_any hm ?_
  have h := wpAny_float (P := P) (Q := Q) (J := fun l a w => ∃ us, a = F us ∧ J l us w) hk
    (fun l a w i hJ hi hr => by
      obtain ⟨us, rfl, hJ⟩ := hJ
      exact hs l us w i hJ hi hr _ (fun us' w' h => ⟨us', rfl, h⟩))
    (fun a w hJ => by
      obtain ⟨us, rfl, hJ⟩ := hJ
      exact hq us w hJ)
    m (Array.replicate ops.size false) a w.drew (fun i j h _ => by simp [Array.getD] at h) (by simp) (fun j _ h2 => by simp [Array.getD, h2]) (openN_replicate _ _ hmle) ⟨u0, ha, h0⟩
  have e : m + (ops.size - m) = ops.size := by omega
  rw [e] at h
  exact h

theorem wp_region_slots (m : Nat) (ss : List Nat) (J : Array Bool → List Value → World → Prop) {id : Nat} {a : Act} {w : World} (hm : P.follows .mixedOrders = true) (hk : floatOk .any ops m = true)
    (u0 : List Value) (ha : a = putAll a ss u0) (h0 : J (Array.replicate ops.size false) u0 w.drew)
    (hs : ∀ l us w i, J l us w → i < m → i ∈ Region.ready .any ops l → ∀ K : Act → World → Prop, Shut (∀ us' w', J (l.setIfInBounds i true) us' w' → K (putAll a ss us') w') → wpOp P ops Q i K (putAll a ss us) w)
    (hq : ∀ us w, J (upTo m ops.size) us w → wpAny P .any ops Q (ops.size - m) (upTo m ops.size) (putAll a ss us) w) : (Code.region id ops true).wp P Q a w :=
  wp_region_float m (putAll a ss) J hm hk u0 ha h0 hs hq

end
end Go.Proofs.YtjdfapoomjeabaaGreatDoor
