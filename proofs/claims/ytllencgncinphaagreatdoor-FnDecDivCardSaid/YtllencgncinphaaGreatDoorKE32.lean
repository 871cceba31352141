/- The contracts of govalues' whole numbers of any length: getBint, setFint, setBint. -/
import Derived.LaidEqlPtr
import Derived.Defers
import Derived.Recover
import Derived.Test.YtllencgncinphaaGreatDoorKE9
import Derived.Test.YtllencgncinphaaGreatDoorKE31
namespace Go.Proofs.YtllencgncinphaaGreatDoor
open Go.RowKit
open Go.Lib (hid)
set_option maxRecDepth 20000

def BI (w : World) (g : Nat) (v : Value) (n : Nat) : Prop := ∃ l, IntIs w g 0 false v l ∧ val l = n

theorem BI.fresh {w w' : World} {g n : Nat} {v : Value} (h : BI w g v n) (hk : Fresh w w') : BI w' g v n := by
 obtain ⟨l, h1, h2⟩ := h
 exact ⟨l, h1.fresh hk, h2⟩

theorem BI.keep {S : Nat → Prop} {w w' : World} {g n : Nat} {v : Value} (h : BI w g v n) (hk : Keep S w w') (hs : ¬ S g) (hv : ∀ k, v.ownBlock = some k → ¬ S k) : BI w' g v n := by
 obtain ⟨l, h1, h2⟩ := h
 exact ⟨l, h1.keep hk hs hv, h2⟩

theorem BI.lt {w : World} {g n : Nat} {v : Value} (h : BI w g v n) : g < w.heap.size := by
 obtain ⟨l, h1, h2⟩ := h
 exact h1.str.lt

theorem BI.own_lt {w : World} {g n : Nat} {v : Value} (h : BI w g v n) {k : Nat} (hk : v.ownBlock = some k) : k < w.heap.size := by
 obtain ⟨l, h1, h2⟩ := h
 exact h1.nat.lt hk

theorem IntIs.new {w : World} {g : Nat} {T : TypeId} (h : w.heap[g]? = some (.cells #[.bool false, .slice none 0 0] T (0, 0))) (hg : NG ≤ g) : IntIs w g 0 false (.slice none 0 0) [] := by
 have c0 := rwc h 0
 have c1 := rwc h 1
 simp at c0 c1
 exact ⟨⟨c0, c1, frozen_of_row _ _ _ _ _ h, frozen_of_row _ _ _ _ _ h, hg, _, _, h⟩, NatAt.nil w, Norm.nil, fun _ => rfl⟩

theorem BI.new {w : World} {g : Nat} {T : TypeId} (h : w.heap[g]? = some (.cells #[.bool false, .slice none 0 0] T (0, 0))) (hg : NG ≤ g) : BI w g (.slice none 0 0) 0 := ⟨[], IntIs.new h hg, rfl⟩

def ZI (w : World) (b : Nat) (v : Value) (z : Int) : Prop := ∃ neg l, IntIs w b 0 neg v l ∧ ival neg l = z

theorem ZI.keep {S : Nat → Prop} {w w' : World} {b : Nat} {v : Value} {z : Int} (h : ZI w b v z) (hk : Keep S w w') (hs : ¬ S b) (hv : ∀ k, v.ownBlock = some k → ¬ S k) : ZI w' b v z := by
 obtain ⟨neg, l, h, e⟩ := h
 exact ⟨neg, l, h.keep hk hs hv, e⟩

theorem ZI.fresh {w w' : World} {b : Nat} {v : Value} {z : Int} (h : ZI w b v z) (hk : Fresh w w') : ZI w' b v z := h.keep hk (fun h => h) (fun _ _ h => h)

theorem ZI.drewN {w : World} {b : Nat} {v : Value} {z : Int} (h : ZI w b v z) (n : Nat) : ZI (w.drewN n) b v z := h.fresh ((Keep.refl _ _).drewN n)

theorem ZI.lt {w : World} {b : Nat} {v : Value} {z : Int} (h : ZI w b v z) : b < w.heap.size := by
 obtain ⟨neg, l, h, _⟩ := h
 exact h.str.lt

theorem ZI.own_lt {w : World} {b : Nat} {v : Value} {z : Int} (h : ZI w b v z) {k : Nat} (hk : v.ownBlock = some k) : k < w.heap.size := by
 obtain ⟨neg, l, h, _⟩ := h
 exact h.nat.lt hk

theorem ZI.ge {w : World} {b : Nat} {v : Value} {z : Int} (h : ZI w b v z) : NG ≤ b := by
 obtain ⟨neg, l, h, _⟩ := h
 exact h.str.ng

theorem ival_abs (neg : Bool) (l : List Nat) : (ival neg l).natAbs = val l := by unfold ival; split <;> simp

theorem IntIs.len {w : World} {b o : Nat} {neg : Bool} {v : Value} {l : List Nat} (h : IntIs w b o neg v l) {z : Int} (e : ival neg l = z) {k : Nat} (hk : z.natAbs < wpow k) : l.length ≤ k :=
 h.norm.len_lt (by rw [← ival_abs neg l, e]; exact hk)

theorem ZI.new {w : World} {g : Nat} {T : TypeId} (h : w.heap[g]? = some (.cells #[.bool false, .slice none 0 0] T (0, 0))) (hg : NG ≤ g) : ZI w g (.slice none 0 0) 0 := ⟨false, [], IntIs.new h hg, rfl⟩

def ZSet (w : World) (b : Nat) (vz : Value) (z : Int) (w' : World) : Prop :=
 ∃ v, ZI w' b v z ∧ Keep (fun k => k = b ∨ vz.ownBlock = some k) w w' ∧ (∀ k, v.ownBlock = some k → vz.ownBlock = some k ∨ w.heap.size ≤ k)

theorem IntRet.zset {w : World} {b : Nat} {vz : Value} {z : Int} {e : Ending} {w' : World} (h : IntRet w b 0 vz z e w') : e = .returned (.pointer (some ⟨b, 0, none⟩)) ∧ ZSet w b vz z w' := by
 obtain ⟨rfl, neg, v, l, h1, h2, h3, h4⟩ := h
 exact ⟨rfl, v, ⟨neg, l, h1, h2⟩, h3, h4⟩

theorem IntSet.zset {w : World} {b : Nat} {vz : Value} {z : Int} {e : Ending} {w' : World} (h : IntSet w b 0 vz z e w') : e = .returned (.tuple #[]) ∧ ZSet w b vz z w' := by
 obtain ⟨rfl, neg, v, l, h1, h2, h3, h4⟩ := h
 exact ⟨rfl, v, ⟨neg, l, h1, h2⟩, h3, h4⟩

theorem ZSet.fresh {w0 w w' : World} {b : Nat} {z : Int} (h : ZSet w b (.slice none 0 0) z w') (hf : Fresh w0 w) (hb : w0.heap.size ≤ b) : ∃ v, ZI w' b v z ∧ Fresh w0 w' ∧ (∀ k, v.ownBlock = some k → w0.heap.size ≤ k) := by
 obtain ⟨v, h1, h2, h3⟩ := h
 refine ⟨v, h1, ?_, fun k hk => ?_⟩
 · refine hf.trans h2 (fun _ _ h => h) (fun k hk h => ?_)
   rcases h with h | h
   · omega
   · simp [Value.ownBlock] at h
 · rcases h3 k hk with h | h
   · simp [Value.ownBlock] at h
   · exact Nat.le_trans hf.size h

theorem IntSign_z (b : Nat) (v : Value) (z : Int) (w : World) (hx : ZI w b v z) :
 Calls Tryz.prog 113 #[.pointer (some ⟨b, 0, none⟩)] w (fun e w' => e = .returned (.int .i64 (if z = 0 then 0 else if z < 0 then -1 else 1)) ∧ w' = w) := by
 obtain ⟨neg, l, hi, rfl⟩ := hx
 obtain ⟨a, c, rfl⟩ := hi.nat.form
 have c0 := hi.str.c0
 have c1 : w.cell? ⟨b, 1, none⟩ = some (.slice a l.length c) := hi.str.c1
 rcases Nat.eq_zero_or_pos l.length with h0 | h0
 · have hl := List.eq_nil_of_length_eq_zero h0
   have hn := hi.zero hl
   subst hl hn
   clear hi h0
   go_enter Tryz.func113, Tryz.ntmps113
   go_wp2
   go_ret
   exact ⟨rfl, rfl⟩
 · have hp : 0 < val l := by
    rcases Nat.eq_zero_or_pos (val l) with h | h
    · have := val_nil_of hi.norm h; rw [this] at h0; simp at h0
    · exact h
   have hz : ival neg l ≠ 0 := fun h => by have := ival_abs neg l; rw [h] at this; simp at this; omega
   rw [if_neg hz]
   have hs : (if ival neg l < 0 then (-1 : Int) else 1) = if neg then -1 else 1 := by
    unfold ival; cases neg
    · rw [if_neg (by simp)]; rfl
    · rw [if_pos (by simp; omega)]; rfl
   rw [hs]
   have t1 : ((l.length : Int) == 0) = false := by rw [beq_eq_false_iff_ne]; omega
   clear hp hz hs hi
   generalize l.length = k at *
   have h0' : ¬ k = 0 := by omega
   cases neg
   all_goals
    go_enter Tryz.func113, Tryz.ntmps113
    go_wp2
    go_ret
    exact ⟨rfl, rfl⟩

theorem Int_neq_self (w : World) (a : Addr) : (binOp .neq 59 (.pointer (some a)) (.pointer (some a))).run Tryz.prog w = .ok (.bool false) w := by
 cases hq : Tryz.prog.info? 110 with
 | none => exact absurd hq (by intro h; have : (Tryz.prog.info? 110).isSome = true := by kernel_rfl
                               rw [h] at this; cases this)
 | some i => exact Lib.run_neq_ptr_same w a Tryz.underlying59 hq

theorem Set_self (b : Nat) (w : World) : Calls Tryz.prog 134 #[.pointer (some ⟨b, 0, none⟩), .pointer (some ⟨b, 0, none⟩)] w (fun e w' => e = .returned (.pointer (some ⟨b, 0, none⟩)) ∧ w' = w) := by
 have heq := Int_neq_self w ⟨b, 0, none⟩
 go_enter Tryz.func134, Tryz.ntmps134
 go_wp2_with (fail)
 go_ret
 exact ⟨rfl, rfl⟩

theorem Neg_self (b : Nat) (v : Value) (z : Int) (w : World) (hx : ZI w b v z) :
 Calls Tryz.prog 132 #[.pointer (some ⟨b, 0, none⟩), .pointer (some ⟨b, 0, none⟩)] w (fun e w' => e = .returned (.pointer (some ⟨b, 0, none⟩)) ∧ ZI w' b v (-z) ∧ Keep (fun k => k = b) w w') := by
 obtain ⟨neg, l, hi, rfl⟩ := hx
 have hset := Set_self b w
 have hnat := setCell_natAt hi.nat (b := b) (o := 0) (fun g hg => IntIs.ne hi.str hi.nat hg)
 have hstr := fun n => hi.str.set0 n
 have hkeep := fun u => Keep.setCell (S := fun k => k = b) (Keep.refl _ w) (p := ⟨b, 0, none⟩) (fun _ => rfl) u
 have hnorm := hi.norm
 have hzero := hi.zero
 have c0 := hi.str.c0
 have f0 := hi.str.f0
 obtain ⟨a, c, rfl⟩ := hi.nat.form
 have c1 : w.cell? ⟨b, 1, none⟩ = some (.slice a l.length c) := hi.str.c1
 clear hi
 rcases Nat.eq_zero_or_pos l.length with h0 | h0
 · have hl := List.eq_nil_of_length_eq_zero h0
   have hn := hzero hl
   subst hl hn
   clear h0 hzero
   have H_hset := hid hset; have H_hnat := hid hnat; have H_hstr := hid hstr; have H_hkeep := hid hkeep; have H_hnorm := hid hnorm; clear hset hnat hstr hkeep hnorm
   go_enter Tryz.func132, Tryz.ntmps132
   go_wp2_with (fail)
   refine H_hset.out.mono ?_
   rintro e w1 ⟨rfl, rfl⟩
   go_wp2_with (fail)
   go_ret
   exact ⟨rfl, ⟨false, [], ⟨H_hstr.out false, H_hnat.out _, H_hnorm.out, fun _ => rfl⟩, rfl⟩, H_hkeep.out _⟩
 · have t1 : decide ((0 : Int) < (l.length : Int)) = true := by simp; omega
   have hne : l ≠ [] := fun h => by rw [h] at h0; simp at h0
   obtain ⟨n, hn⟩ : ∃ n, n = l.length := ⟨_, rfl⟩
   have hfin : ival (!neg) l = -(ival neg l) := by cases neg <;> simp [ival]
   rw [← hn] at t1 c1 h0 hnat hstr ⊢
   clear hzero
   have H_hset := hid hset; have H_hnat := hid hnat; have H_hstr := hid hstr; have H_hkeep := hid hkeep; have H_hnorm := hid hnorm; have H_hne := hid hne; have H_hn := hid hn; have H_hfin := hid hfin; clear hset hnat hstr hkeep hnorm hne hn hfin
   go_enter Tryz.func132, Tryz.ntmps132
   go_wp2_with (fail)
   refine H_hset.out.mono ?_
   rintro e w1 ⟨rfl, rfl⟩
   go_wp2_with (fail)
   go_ret
   exact ⟨rfl, ⟨!neg, l, ⟨H_hstr.out _, H_hnat.out _, H_hnorm.out, fun h => absurd h H_hne.out⟩, H_hfin.out⟩, H_hkeep.out _⟩

theorem Bits_any (b : Nat) (v : Value) (z : Int) (w : World) (hx : ZI w b v z) :
 Calls Tryz.prog 133 #[.pointer (some ⟨b, 0, none⟩)] w (fun e w' => e = .returned v ∧ w' = w) := by
 obtain ⟨neg, l, hi, rfl⟩ := hx
 have c1 : w.cell? ⟨b, 1, none⟩ = some v := hi.str.c1
 obtain ⟨a, c, rfl⟩ := hi.nat.form
 clear hi
 go_enter Tryz.func133, Tryz.ntmps133
 go_wp2
 go_ret
 exact ⟨rfl, rfl⟩

theorem SetBits_any (b : Nat) (negz : Bool) (vz : Value) (lz : List Nat) (va : Value) (la : List Nat) (w : World) (hlen : la.length ≤ 1000000) (hz : IntIs w b 0 negz vz lz) (ha : NatAt w va la) (hab : ∀ k, va.ownBlock = some k → k ≠ b) :
 Calls Tryz.prog 131 #[.pointer (some ⟨b, 0, none⟩), va] w (fun e w' => e = .returned (.pointer (some ⟨b, 0, none⟩)) ∧ ∃ v, ZI w' b v (val la : Int) ∧ Keep (fun k => k = b) w w' ∧ (∀ k, v.ownBlock = some k → va.ownBlock = some k)) := by
 have hc := norm_any va la w hlen ha
 have f1 := hz.str.f1
 have f0 := hz.str.f0
 have c0 := hz.str.c0
 have c1 := hz.str.c1
 rw [Nat.zero_add] at f1 c1
 have H_hc := hid hc; have H_hz := hid hz; have H_hab := hid hab; clear hc hz hab
 go_enter Tryz.func131, Tryz.ntmps131
 go_wp2_with (fail)
 refine H_hc.out.mono ?_
 rintro e w1 ⟨rv, l, rfl, h1, h2, h3, h4, rfl⟩
 obtain ⟨ra, rc, rfl⟩ := h1.form
 have hb : ∀ g, (Value.slice ra l.length rc).ownBlock = some g → b ≠ g := fun g hg h => H_hab.out g (h4 g hg) h.symm
 have c0' : (w.setCell ⟨b, 1, none⟩ (.slice ra l.length rc)).cell? ⟨b, 0, none⟩ = some (.bool negz) := (cell?_setCell_ne (.inr (by simp))).trans c0
 have f0' : (w.setCell ⟨b, 1, none⟩ (.slice ra l.length rc)).frozen? ⟨b, 0, none⟩ = false := (frozen?_setCell' _ _ _ _).trans f0
 have H_h1 := hid h1; have H_h2 := hid h2; have H_h3 := hid h3; have H_h4 := hid h4; have H_hb := hid hb; clear h1 h2 h3 h4 hb
 go_wp2_with (fail)
 go_ret
 have hs := (H_hz.out.str.set1 (.slice ra l.length rc)).set0 false
 rw [Nat.zero_add] at hs
 refine ⟨rfl, _, ⟨false, l, ⟨hs, setCell_natAt (setCell_natAt H_h1.out H_hb.out _) H_hb.out _, H_h2.out, fun _ => rfl⟩, by simp [ival, H_h3.out]⟩, ?_, H_h4.out⟩
 exact ((Keep.refl (fun k => k = b) w).setCell (p := ⟨b, 1, none⟩) (fun _ => rfl) _).setCell (p := ⟨b, 0, none⟩) (fun _ => rfl) _

section
variable {P : Program} {ops : Array Oper} {Q : Exit → Act → World → Prop} {md : Region.Mode} {S : World → Prop} {s : Nat}

theorem wpAnyE_loadS {i : Nat} {oi os : Oper} {v : Value} (hi : ops[i]? = some oi) (hs : ops[s]? = some os) (hsi : ∃ e ∈ os.after, Region.binds md e = true ∧ e.on = i)
 (hsel : ∀ (j : Nat) (o : Oper) cs b, ops[j]? = some o → o.op ≠ .select cs b)
 (hQ : ∀ c a w, Q (.panic c) (a.put oi.dst v) w → Q (.panic c) a w) :
 ∀ (fuel : Nat) (listed : Array Bool) (a : Act) (w : World),
  (∀ j oj, ops[j]? = some oj → j ≠ i → listed.getD j true = false → (∀ e ∈ oj.after, Region.binds md e = true → e.on ≠ i) → oi.apart ops oj = true) →
  i ∈ Region.ready md ops listed → listed.getD s true = false → YieldsIf P ops S oi v a → S w →
  wpAnyE P md ops Q S s fuel (listed.setIfInBounds i true) (a.put oi.dst v) w → wpAnyE P md ops Q S s (fuel + 1) listed a w := by
 intro fuel
 induction fuel with
 | zero =>
   intro listed a w _ hr _ hy hS H
   refine ⟨fun h => (by rw [h] at hr; cases hr), fun j hj => ?_⟩
   by_cases hji : j = i
   · subst hji; exact hy.wpOp hi hS ⟨fun _ => hS, H⟩
   · have := ready_mono hj hji
     rw [H.1] at this
     cases this
 | succ fuel ih =>
   intro listed a w hfree hr hsl hy hS H
   refine ⟨fun h => (by rw [h] at hr; cases hr), fun j hj => ?_⟩
   by_cases hji : j = i
   · subst hji; exact hy.wpOp hi hS ⟨fun _ => hS, H⟩
   · have h1 := H.2 j (ready_mono hj hji)
     obtain ⟨hjun, oj, hoj, hall⟩ := mem_ready.1 hj
     have hiun : ∀ k, listed.getD k true = false → ∀ e ∈ oj.after, Region.binds md e = true → e.on ≠ k := fun k h0 e he hb heq => by
      have h1 := hall e he hb
      rw [heq] at h1
      rcases Nat.lt_or_ge k listed.size with h' | h'
      · simp [h'] at h0 h1; rw [h0] at h1; cases h1
      · simp [Array.getElem?_eq_none h'] at h1
     have hnot := hiun i (mem_ready.1 hr).1
     have hjs : j ≠ s := by
      rintro rfl
      obtain ⟨e, he, hb, heq⟩ := hsi
      rw [hs] at hoj
      cases hoj
      exact hnot e he hb heq
     have h2 := wpOp_putIf hoj (hfree j oj hoj hji hjun hnot) (fun cs b => hsel i oi cs b hi) (fun cs b => hsel j oj cs b hoj) hQ hy h1
     have hfree' : ∀ k ok, ops[k]? = some ok → k ≠ i → (listed.setIfInBounds j true).getD k true = false →
      (∀ e ∈ ok.after, Region.binds md e = true → e.on ≠ i) → oi.apart ops ok = true := fun k ok hk hki hun hno => by
      refine hfree k ok hk hki ?_ hno
      by_cases hjk : j = k
      · subst hjk; exact hjun
      · rw [Go.getD_set_ne true hjk] at hun; exact hun
     have his : i ≠ s := by
      rintro rfl
      obtain ⟨e, he, hb, heq⟩ := hsi
      obtain ⟨h0, oi', hoi, h1⟩ := mem_ready.1 hr
      rw [hs] at hoi
      cases hoi
      have h2 := h1 e he hb
      rw [heq] at h2
      rcases Nat.lt_or_ge i listed.size with h' | h'
      · simp [h'] at h0 h2; rw [h0] at h2; cases h2
      · simp [Array.getElem?_eq_none h'] at h2
     have hsl' : (listed.setIfInBounds j true).getD s true = false := by rw [Go.getD_set_ne true hjs]; exact hsl
     refine wpOp_mono (fun a' w' h3 => ?_) h2
     have hS' : S w' := h3.2.1 (by rw [Go.getD_set_ne true hjs, Go.getD_set_ne true his]; exact hsl)
     refine ⟨fun _ => hS', ih (listed.setIfInBounds j true) a' w' hfree' (ready_mono hr (Ne.symm hji)) hsl' h3.1 hS' ?_⟩
     rw [Array.setIfInBounds_comm _ _ hji]
     exact h3.2.2

theorem tkS {i : Nat} {oi : Oper} {v : Value} {fuel : Nat} {listed : Array Bool} {a : Act} {w : World} (hi : ops[i]? = some oi)
 (hk : (Region.noSelect ops && Region.free md ops listed i && (Region.ready md ops listed).contains i && waits md ops s i && !listed.getD s true) = true)
 (hQ : ∀ c a w, Q (.panic c) (a.put oi.dst v) w → Q (.panic c) a w) (hy : Region.wanted oi (yielded ops a.tmps) = true ∧ ∀ w, S w → (execOp a.eval oi).run P w = .ok (.value v) w) (hS : S w)
 (h : wpAnyE P md ops Q S s fuel (listed.setIfInBounds i true) (a.put oi.dst v) w) : wpAnyE P md ops Q S s (fuel + 1) listed a w := by
 simp only [Bool.and_eq_true, Bool.not_eq_true'] at hk
 obtain ⟨⟨⟨⟨h1, h2⟩, h3⟩, h4⟩, h5⟩ := hk
 obtain ⟨os, hs, hsi⟩ := waits_spec h4
 exact wpAnyE_loadS hi hs hsi (Region.noSelect_spec h1) hQ fuel listed a w (Region.free_spec hi h2) (by simpa using h3) h5 (Or.inl hy) hS h

end

end Go.Proofs.YtllencgncinphaaGreatDoor
