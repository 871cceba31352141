/- The contracts of the thin package: FixCopySign. -/
import Derived.Deep.RegionHeld3
import Derived.RegionTactic
import Derived.BigRegion
import Derived.ChangeAlike
import Derived.Test.YtllencgncinphaaGreatDoorKE3
import Derived.Test.YtllencgncinphaaGreatDoorKE8
namespace Go.Proofs.YtllencgncinphaaGreatDoor
open Go.RowKit
open Go.Lib (hid)

theorem boxes4 (w : World) (c1 c2 c3 c4 : Array Value) (T1 T2 T3 T4 : TypeId) : ∀ g, g = w.heap.size → ∀ w1, (((w.alloc (.cells c1 T1)).alloc (.cells c2 T2)).alloc (.cells c3 T3)).alloc (.cells c4 T4) = w1 →
 w1.heap[g]? = some (.cells c1 T1 (0, 0)) ∧ w1.heap[g + 1]? = some (.cells c2 T2 (0, 0)) ∧ w1.heap[g + 1 + 1]? = some (.cells c3 T3 (0, 0)) ∧ w1.heap[g + 1 + 1 + 1]? = some (.cells c4 T4 (0, 0)) ∧ Fresh w w1 := by
 rintro g hg w1 rfl
 obtain ⟨b1, b2, b3, hf, hgs⟩ := boxes3 w c1 c2 c3 T1 T2 T3 g hg _ rfl
 have f4 : Fresh (((w.alloc (.cells c1 T1)).alloc (.cells c2 T2)).alloc (.cells c3 T3)) ((((w.alloc (.cells c1 T1)).alloc (.cells c2 T2)).alloc (.cells c3 T3)).alloc (.cells c4 T4)) := (Keep.refl _ _).alloc _
 refine ⟨rfr b1 f4, rfr b2 f4, rfr b3 f4, ?_, ftr hf f4⟩
 have s3 : (((w.alloc (.cells c1 T1)).alloc (.cells c2 T2)).alloc (.cells c3 T3)).heap.size = g + 1 + 1 + 1 := by simp [hg]
 rw [← s3]
 exact heap_alloc_new _ _

def IsPrec (c p : Nat) : Prop := c < 10 ^ p ∧ (0 < p → 10 ^ (p - 1) ≤ c)

section
variable {P : Program} {ops : Array Oper} {Q : Exit → Act → World → Prop} {md : Region.Mode} {S : World → Prop} {s : Nat}

def wpAnyE (P : Program) (md : Region.Mode) (ops : Array Oper) (Q : Exit → Act → World → Prop) (S : World → Prop) (s : Nat) : Nat → Array Bool → Act → World → Prop
 | 0, listed, a, w => Region.ready md ops listed = [] ∧ Q .normal a w
 | fuel + 1, listed, a, w =>
   (Region.ready md ops listed = [] → Q .normal a w) ∧
   ∀ i ∈ Region.ready md ops listed, wpOp P ops Q i (fun a' w' => ((listed.setIfInBounds i true).getD s true = false → S w') ∧ wpAnyE P md ops Q S s fuel (listed.setIfInBounds i true) a' w') a w

theorem wpAny_of_E : ∀ (fuel : Nat) (listed : Array Bool) (a : Act) (w : World), wpAnyE P md ops Q S s fuel listed a w → wpAny P md ops Q fuel listed a w
 | 0, _, _, _, h => h
 | fuel + 1, _, _, _, h => ⟨h.1, fun i hi => wpOp_mono (fun a' w' h' => wpAny_of_E fuel _ a' w' h'.2) (h.2 i hi)⟩

theorem wpAnyE_pure {i : Nat} {oi : Oper} {v : Value} (hi : ops[i]? = some oi) (his : i ≠ s) (hsel : ∀ (j : Nat) (o : Oper) cs b, ops[j]? = some o → o.op ≠ .select cs b)
 (hQ : ∀ c a w, Q (.panic c) (a.put oi.dst v) w → Q (.panic c) a w) :
 ∀ (fuel : Nat) (listed : Array Bool) (a : Act) (w : World),
  (∀ j oj, ops[j]? = some oj → j ≠ i → listed.getD j true = false → (∀ e ∈ oj.after, Region.binds md e = true → e.on ≠ i) → oi.apart ops oj = true) →
  i ∈ Region.ready md ops listed → YieldsIf P ops (fun _ => True) oi v a → (listed.getD s true = false → S w) →
  wpAnyE P md ops Q S s fuel (listed.setIfInBounds i true) (a.put oi.dst v) w → wpAnyE P md ops Q S s (fuel + 1) listed a w := by
 intro fuel
 induction fuel with
 | zero =>
   intro listed a w _ hr hy hS H
   refine ⟨fun h => (by rw [h] at hr; cases hr), fun j hj => ?_⟩
   by_cases hji : j = i
   · subst hji; exact hy.wpOp hi trivial ⟨fun h => hS (by rw [getD_set_ne true his] at h; exact h), H⟩
   · have := ready_mono hj hji
     rw [H.1] at this
     cases this
 | succ fuel ih =>
   intro listed a w hfree hr hy hS H
   refine ⟨fun h => (by rw [h] at hr; cases hr), fun j hj => ?_⟩
   by_cases hji : j = i
   · subst hji; exact hy.wpOp hi trivial ⟨fun h => hS (by rw [getD_set_ne true his] at h; exact h), H⟩
   · have h1 := H.2 j (ready_mono hj hji)
     obtain ⟨hjun, oj, hoj, hall⟩ := mem_ready.1 hj
     have hnot : ∀ e ∈ oj.after, Region.binds md e = true → e.on ≠ i := fun e he hb heq => by
      have h1 := hall e he hb
      have h0 := (mem_ready.1 hr).1
      rw [heq] at h1
      rcases Nat.lt_or_ge i listed.size with h' | h'
      · simp [h'] at h0 h1; rw [h0] at h1; cases h1
      · simp [Array.getElem?_eq_none h'] at h1
     have h2 := wpOp_putIf hoj (hfree j oj hoj hji hjun hnot) (fun cs b => hsel i oi cs b hi) (fun cs b => hsel j oj cs b hoj) hQ hy h1
     have hfree' : ∀ k ok, ops[k]? = some ok → k ≠ i → (listed.setIfInBounds j true).getD k true = false →
      (∀ e ∈ ok.after, Region.binds md e = true → e.on ≠ i) → oi.apart ops ok = true := fun k ok hk hki hun hno => by
      refine hfree k ok hk hki ?_ hno
      by_cases hjk : j = k
      · subst hjk; exact hjun
      · rw [getD_set_ne true hjk] at hun; exact hun
     have hsw : ∀ l : Array Bool, (l.setIfInBounds i true).getD s true = l.getD s true := fun l => getD_set_ne true his
     refine wpOp_mono (fun a' w' h3 => ?_) h2
     have hS' : (listed.setIfInBounds j true).getD s true = false → S w' := fun h => h3.2.1 (by rw [← Array.setIfInBounds_comm _ _ hji, hsw]; exact h)
     refine ⟨hS', ih (listed.setIfInBounds j true) a' w' hfree' (ready_mono hr (Ne.symm hji)) h3.1 hS' ?_⟩
     rw [Array.setIfInBounds_comm _ _ hji]
     exact h3.2.2

theorem wpAnyE_load {i c : Nat} {oi oc os : Oper} {v : Value} (hi : ops[i]? = some oi) (hc : ops[c]? = some oc) (hs : ops[s]? = some os) (hic : i ≠ c)
 (hci : ∃ e ∈ oc.after, Region.binds md e = true ∧ e.on = i) (hsc : ∃ e ∈ os.after, Region.binds md e = true ∧ e.on = c)
 (hsel : ∀ (j : Nat) (o : Oper) cs b, ops[j]? = some o → o.op ≠ .select cs b)
 (hQ : ∀ c a w, Q (.panic c) (a.put oi.dst v) w → Q (.panic c) a w) :
 ∀ (fuel : Nat) (listed : Array Bool) (a : Act) (w : World),
  (∀ j oj, ops[j]? = some oj → j ≠ i → listed.getD j true = false → (∀ e ∈ oj.after, Region.binds md e = true → e.on ≠ i) → oi.apart ops oj = true) →
  i ∈ Region.ready md ops listed → listed.getD c true = false → listed.getD s true = false → YieldsIf P ops S oi v a → S w →
  wpAnyE P md ops Q S s fuel (listed.setIfInBounds i true) (a.put oi.dst v) w → wpAnyE P md ops Q S s (fuel + 1) listed a w := by
 intro fuel
 induction fuel with
 | zero =>
   intro listed a w _ hr _ _ hy hS H
   refine ⟨fun h => (by rw [h] at hr; cases hr), fun j hj => ?_⟩
   by_cases hji : j = i
   · subst hji; exact hy.wpOp hi hS ⟨fun _ => hS, H⟩
   · have := ready_mono hj hji
     rw [H.1] at this
     cases this
 | succ fuel ih =>
   intro listed a w hfree hr hcl hsl hy hS H
   refine ⟨fun h => (by rw [h] at hr; cases hr), fun j hj => ?_⟩
   by_cases hji : j = i
   · subst hji; exact hy.wpOp hi hS ⟨fun _ => hS, H⟩
   · have h1 := H.2 j (ready_mono hj hji)
     obtain ⟨hjun, oj, hoj, hall⟩ := mem_ready.1 hj
     have hiun : ∀ k, listed.getD k true = false → ∀ e ∈ oj.after, Region.binds md e = true → e.on ≠ k := fun k h0 e he hb heq => by
      have h1 := hall e he hb
      rw [heq] at h1
      rcases Nat.lt_or_ge k listed.size with h' | h'
      · simp [h'] at h0 h1; rw [h0] at h1; cases h1
      · simp [Array.getElem?_eq_none h'] at h1
     have hnot := hiun i (mem_ready.1 hr).1
     have hjc : j ≠ c := by
      rintro rfl
      obtain ⟨e, he, hb, heq⟩ := hci
      rw [hc] at hoj
      cases hoj
      exact hnot e he hb heq
     have hjs : j ≠ s := by
      rintro rfl
      obtain ⟨e, he, hb, heq⟩ := hsc
      rw [hs] at hoj
      cases hoj
      exact hiun c hcl e he hb heq
     have h2 := wpOp_putIf hoj (hfree j oj hoj hji hjun hnot) (fun cs b => hsel i oi cs b hi) (fun cs b => hsel j oj cs b hoj) hQ hy h1
     have hfree' : ∀ k ok, ops[k]? = some ok → k ≠ i → (listed.setIfInBounds j true).getD k true = false →
      (∀ e ∈ ok.after, Region.binds md e = true → e.on ≠ i) → oi.apart ops ok = true := fun k ok hk hki hun hno => by
      refine hfree k ok hk hki ?_ hno
      by_cases hjk : j = k
      · subst hjk; exact hjun
      · rw [getD_set_ne true hjk] at hun; exact hun
     have hcl' : (listed.setIfInBounds j true).getD c true = false := by rw [getD_set_ne true hjc]; exact hcl
     have his : i ≠ s := by
      rintro rfl
      obtain ⟨e, he, hb, heq⟩ := hsc
      have h1 := (mem_ready.1 hr).2
      obtain ⟨oi', hoi, h1⟩ := h1
      rw [hs] at hoi
      cases hoi
      have h2 := h1 e he hb
      rw [heq] at h2
      rcases Nat.lt_or_ge c listed.size with h' | h'
      · simp [h'] at hcl h2; rw [hcl] at h2; cases h2
      · simp [Array.getElem?_eq_none h'] at hcl
     have hsl' : (listed.setIfInBounds j true).getD s true = false := by rw [getD_set_ne true hjs]; exact hsl
     refine wpOp_mono (fun a' w' h3 => ?_) h2
     have hS' : S w' := h3.2.1 (by rw [getD_set_ne true hjs, getD_set_ne true his]; exact hsl)
     refine ⟨fun _ => hS', ih (listed.setIfInBounds j true) a' w' hfree' (ready_mono hr (Ne.symm hji)) hcl' hsl' h3.1 hS' ?_⟩
     rw [Array.setIfInBounds_comm _ _ hji]
     exact h3.2.2

def waits (md : Region.Mode) (ops : Array Oper) (j i : Nat) : Bool :=
 match ops[j]? with
 | some o => o.after.any fun e => Region.binds md e && e.on == i
 | none => false

theorem waits_spec {j i : Nat} (h : waits md ops j i = true) : ∃ o, ops[j]? = some o ∧ ∃ e ∈ o.after, Region.binds md e = true ∧ e.on = i := by
 unfold waits at h
 cases hj : ops[j]? with
 | none => rw [hj] at h; simp at h
 | some o =>
   rw [hj] at h
   simp only [Array.any_eq_true'] at h
   obtain ⟨e, he, h⟩ := h
   rw [Bool.and_eq_true, beq_iff_eq] at h
   exact ⟨o, rfl, e, he, h.1, h.2⟩

theorem tkP {i : Nat} {oi : Oper} {v : Value} {fuel : Nat} {listed : Array Bool} {a : Act} {w : World} (hi : ops[i]? = some oi)
 (hk : (Region.noSelect ops && Region.free md ops listed i && (Region.ready md ops listed).contains i && (i != s)) = true)
 (hQ : ∀ c a w, Q (.panic c) (a.put oi.dst v) w → Q (.panic c) a w) (hy : Region.wanted oi (yielded ops a.tmps) = true ∧ ∀ w, (execOp a.eval oi).run P w = .ok (.value v) w) (hS : S w)
 (h : wpAnyE P md ops Q S s fuel (listed.setIfInBounds i true) (a.put oi.dst v) w) : wpAnyE P md ops Q S s (fuel + 1) listed a w := by
 simp only [Bool.and_eq_true, bne_iff_ne] at hk
 obtain ⟨⟨⟨h1, h2⟩, h3⟩, h4⟩ := hk
 exact wpAnyE_pure hi h4 (Region.noSelect_spec h1) hQ fuel listed a w (Region.free_spec hi h2) (by simpa using h3) (Or.inl ⟨hy.1, fun w _ => hy.2 w⟩) (fun _ => hS) h

theorem tkL {i c : Nat} {oi : Oper} {v : Value} {fuel : Nat} {listed : Array Bool} {a : Act} {w : World} (hi : ops[i]? = some oi)
 (hk : (Region.noSelect ops && Region.free md ops listed i && (Region.ready md ops listed).contains i && (i != c) && waits md ops c i && waits md ops s c && !listed.getD c true && !listed.getD s true) = true)
 (hQ : ∀ c a w, Q (.panic c) (a.put oi.dst v) w → Q (.panic c) a w) (hy : Region.wanted oi (yielded ops a.tmps) = true ∧ ∀ w, S w → (execOp a.eval oi).run P w = .ok (.value v) w) (hS : S w)
 (h : wpAnyE P md ops Q S s fuel (listed.setIfInBounds i true) (a.put oi.dst v) w) : wpAnyE P md ops Q S s (fuel + 1) listed a w := by
 simp only [Bool.and_eq_true, bne_iff_ne, Bool.not_eq_true'] at hk
 obtain ⟨⟨⟨⟨⟨⟨⟨h1, h2⟩, h3⟩, h4⟩, h5⟩, h6⟩, h7⟩, h8⟩ := hk
 obtain ⟨oc, hc, hci⟩ := waits_spec h5
 obtain ⟨os, hs, hsc⟩ := waits_spec h6
 exact wpAnyE_load hi hc hs h4 hci hsc (Region.noSelect_spec h1) hQ fuel listed a w (Region.free_spec hi h2) (by simpa using h3) h7 h8 (Or.inl hy) hS h

theorem tkU {i : Nat} {oi : Oper} {fuel : Nat} {listed : Array Bool} {a : Act} {w : World} (hi : ops[i]? = some oi)
 (hk : (Region.noSelect ops && Region.free md ops listed i && (Region.ready md ops listed).contains i && (i != s)) = true)
 (hQ : ∀ c a w, Q (.panic c) (a.put oi.dst undef) w → Q (.panic c) a w) (hy : Region.wanted oi (yielded ops a.tmps) = false) (hS : S w)
 (h : wpAnyE P md ops Q S s fuel (listed.setIfInBounds i true) (a.put oi.dst undef) w) : wpAnyE P md ops Q S s (fuel + 1) listed a w := by
 simp only [Bool.and_eq_true, bne_iff_ne] at hk
 obtain ⟨⟨⟨h1, h2⟩, h3⟩, h4⟩ := hk
 exact wpAnyE_pure hi h4 (Region.noSelect_spec h1) hQ fuel listed a w (Region.free_spec hi h2) (by simpa using h3) (Or.inr ⟨hy, rfl⟩) (fun _ => hS) h

theorem tkO {i : Nat} {o : Oper} {fuel : Nat} {listed : Array Bool} {a : Act} {w : World} (ho : ops[i]? = some o) (hr : Region.ready md ops listed = [i])
 (h : ∀ K' : Act → World → Prop, Shut (∀ a w, ((listed.setIfInBounds i true).getD s true = false → S w) → wpAnyE P md ops Q S s fuel (listed.setIfInBounds i true) a w → K' a w) →
  if Region.wanted o (yielded ops a.tmps) = true then Oper.wp P o a w K' Q else K' (a.put o.dst undef) w) : wpAnyE P md ops Q S s (fuel + 1) listed a w := by
 refine ⟨fun h0 => by rw [hr] at h0; simp at h0, fun j hj => ?_⟩
 rw [hr] at hj
 obtain rfl : j = i := by simpa using hj
 exact wpOp_step ho (fun K' hK => h K' (fun a w hS hW => hK a w ⟨hS, hW⟩))

theorem tkD {listed : Array Bool} {a : Act} {w : World} (hr : Region.ready md ops listed = []) (h : Q .normal a w) :
 ∀ fuel, wpAnyE P md ops Q S s fuel listed a w
 | 0 => ⟨hr, h⟩
 | _ + 1 => ⟨fun _ => h, by rw [hr]; simp⟩

theorem rgE (s : Nat) {id : Nat} {a : Act} {w : World} (hm : P.follows .mixedOrders = true) (hS : S w.drew)
 (h : S w.drew → wpAnyE P .any ops Q S s ops.size (Array.replicate ops.size false) a w.drew) : (Code.region id ops true).wp P Q a w :=
 wp_region_any hm (wpAny_of_E _ _ _ _ (h hS))

end
theorem yA {α : Type _} {xs : List α} {i : Nat} (h : i < xs.toArray.size) : xs.toArray[i] = xs[i]'h := rfl
theorem yB {α : Type _} (a : α) (xs : List α) (h : 0 < (a :: xs).length) : (a :: xs)[0]'h = a := rfl
theorem yC {α : Type _} (a : α) (xs : List α) (i : Nat) (h : i + 1 < (a :: xs).length) : (a :: xs)[i + 1]'h = xs[i]'(Nat.lt_of_succ_lt_succ h) := rfl
theorem yD {α : Type _} (xs : List α) (i : Nat) (a : α) : xs.toArray.setIfInBounds i a = (xs.set i a).toArray := List.setIfInBounds_toArray ..
theorem yE {α : Type _} {x y : α} {xs : List α} : (x :: xs).set 0 y = y :: xs := rfl
theorem yF {α : Type _} {x y : α} {xs : List α} {n : Nat} : (x :: xs).set (n + 1) y = x :: xs.set n y := rfl



theorem info_u8 : (Tryz.prog.info? 5).map (fun i => (i.zero, i.size, i.bytes)) = some (some (.int .u8 0), 1, 1) := by kernel_rfl

def SBy (w : World) (g : Nat) (L : List Nat) : Prop := (∀ x ∈ L, x < 256) ∧ ∃ cur T, w.heap[g]? = some (.cells cur T (0, 0)) ∧ L.length ≤ cur.size ∧ cur.toList.take L.length = L.map (wd .u8)

theorem SBy.drew {w : World} {g : Nat} {L : List Nat} (h : SBy w g L) : SBy w.drew g L := h

theorem SBy.cell {w : World} {g : Nat} {L : List Nat} (h : SBy w g L) {i : Nat} (hi : i < L.length) : w.cell? ⟨g, i, none⟩ = some (wd .u8 (L.getD i 0)) := by
 obtain ⟨_, cur, T, hg, h3, h4⟩ := h
 rw [cell_of_row w g i cur T _ hg]
 have e := congrArg (fun L => L[i]?) h4
 simp only [List.getElem?_take, List.getElem?_map] at e
 rw [if_pos hi] at e
 rw [← Array.getElem?_toList, e, List.getElem?_eq_getElem hi]
 simp [List.getD, hi]

theorem SBy.frozen {w : World} {g : Nat} {L : List Nat} (h : SBy w g L) (i : Nat) : w.frozen? ⟨g, i, none⟩ = false := by
 obtain ⟨_, cur, T, hg, h3, h4⟩ := h
 exact frozen_of_row _ _ _ _ _ hg

theorem SBy.set {w : World} {g : Nat} {L : List Nat} (h : SBy w g L) (i : Nat) {x : Nat} (hx : x < 256) : SBy (w.setCell ⟨g, i, none⟩ (.int .u8 (x : Int))) g (L.set i x) := by
 obtain ⟨h1, cur, T, hg, h3, h4⟩ := h
 refine ⟨fun y hy => ?_, _, T, rst hg, by simpa using h3, ?_⟩
 · rcases List.mem_or_eq_of_mem_set hy with h | h
   · exact h1 y h
   · omega
 · rw [List.length_set, Array.toList_setIfInBounds, List.take_set, h4, List.map_set]

theorem SBy.of_owns {w : World} {B T n : Nat} {v : Value} {l : List Nat} (h : w.ownsRow B T 1 v n (l.map (wd .u8))) (hl : ∀ x ∈ l, x < 256) (h0 : 0 < l.length) : ∃ g cap, v = .slice (some ⟨g, 0, none⟩) l.length cap ∧ l.length ≤ cap ∧ B ≤ g ∧ SBy w g l := by
 obtain ⟨h1, h2⟩ := h
 simp only [List.length_map, Nat.mul_one] at h1
 rcases h2 with ⟨hv0, hn0⟩ | ⟨g, cap, cur, rfl, hB, hg, h3, h4, h5, h6⟩
 · omega
 · exact ⟨g, cap, by rw [h1], by omega, hB, hl, cur, T, hg, by omega, by rw [h1]; rw [Nat.mul_one] at h6; exact h6⟩

theorem SBy.lt {w : World} {g : Nat} {L : List Nat} (h : SBy w g L) (i : Nat) : L.getD i 0 < 256 := by
 by_cases hi : i < L.length
 · have : L.getD i 0 = L[i] := by simp [List.getD, hi]
   rw [this]; exact h.1 _ (List.getElem_mem hi)
 · simp [List.getD, List.getElem?_eq_none (Nat.le_of_not_lt hi)]

theorem SBy.text {w : World} {g : Nat} {L : List Nat} (h : SBy w g L) (cap : Nat) :
 ∃ s : ByteArray, s.size = L.length ∧ (Go.convert 87 9 (.slice (some ⟨g, 0, none⟩) L.length cap)).run Tryz.prog w = .ok (.string s) w := by
 have e : (L.map UInt8.ofNat).length = L.length := by simp
 have := run_convert_bytes_back (P := Tryz.prog) w 87 9 5 ⟨g, 0, none⟩ cap (L.map UInt8.ofNat) Tryz.underlying87 Tryz.underlying5 Tryz.underlying9 (fun j hj => by
  have hj' : j < L.length := by simpa using hj
  have h1 := h.cell hj'
  have h2 : L.getD j 0 = L[j] := by simp [List.getD, hj']
  have h3 := h.1 _ (List.getElem_mem hj')
  rw [h2] at h1
  have h4 : ((⟨g, 0, none⟩ : Addr).add j) = ⟨g, j, none⟩ := by simp [Addr.add]; intro h; simp [h]
  rw [h4, h1]
  simp [wd, UInt8.toNat_ofNat', Nat.mod_eq_of_lt h3])
 rw [e] at this
 exact ⟨_, by simp [ByteArray.size], this⟩

theorem digits_limbs {l : List Nat} {k j x : Nat} (hl : Lim l) (hk : l.length = k + 1) (hx : x = l.getD k 0) (h1 : x < 10 ^ j) (h2 : 0 < j → 10 ^ (j - 1) ≤ x) (hx0 : 0 < x) : IsPrec (sval l) (9 * k + j) := by
 have e := sval_take_succ (l := l) (k := k) (by omega)
 rw [← hk, List.take_length, ← hx] at e
 have hlt := sval_lt (hl.take k)
 rw [List.length_take, Nat.min_eq_left (by omega)] at hlt
 rw [spow_ten] at hlt e
 have hj : 0 < j := by
  rcases Nat.eq_zero_or_pos j with h | h
  · subst h; simp at h1; omega
  · exact h
 have h3 := h2 hj
 constructor
 · rw [e, Nat.pow_add]
   have : 10 ^ (9 * k) * (x + 1) ≤ 10 ^ (9 * k) * 10 ^ j := Nat.mul_le_mul_left _ h1
   rw [Nat.mul_add] at this
   omega
 · intro _
   rw [e, show 9 * k + j - 1 = 9 * k + (j - 1) by omega, Nat.pow_add]
   have : 10 ^ (9 * k) * 10 ^ (j - 1) ≤ 10 ^ (9 * k) * x := Nat.mul_le_mul_left _ h3
   omega

end Go.Proofs.YtllencgncinphaaGreatDoor
