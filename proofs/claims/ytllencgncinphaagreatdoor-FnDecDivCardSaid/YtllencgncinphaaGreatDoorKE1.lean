/- The words in which the contracts of math/big's functions speak of memory: blocks that hold numbers, and what a call keeps. No program is in sight. -/
import Derived.WalkKit
import Derived.Below
import Derived.RowKit3
import Derived.Lib.Hide
import Derived.BigQuiet
import Derived.Deep.QuietTactic
import Derived.Laws.CopyOwn
import Derived.Laws.MakeOwn
import Derived.StillTailTactics
import Derived.LaidEqlPtr
import Derived.Lib.Builder
import Derived.Test.YtllencgncinphaaGreatDoorProg
import Derived.Outline
import Derived.WalkLawsBesides
import Derived.WalkSpells
import Derived.Shelf.Spec.BitsCarry
import Derived.Shelf.Bits.Mul64
namespace Go.Proofs.YtllencgncinphaaGreatDoor
open Go.RowKit
open Go.Lib (hid)
set_option maxHeartbeats 400000

structure Keep (S : Nat → Prop) (w w' : World) : Prop where
 os : w'.os = w.os
 tape : w'.tape = w.tape
 output : w'.output = w.output
 size : w.heap.size ≤ w'.heap.size
 block : ∀ k, k < w.heap.size → ¬ S k → w'.heap[k]? = w.heap[k]?

theorem Keep.refl (S : Nat → Prop) (w : World) : Keep S w w := ⟨rfl, rfl, rfl, Nat.le_refl _, fun _ _ _ => rfl⟩

theorem Keep.trans {S T U : Nat → Prop} {a b c : World} (h : Keep S a b) (k : Keep T b c) (hs : ∀ k, k < a.heap.size → S k → U k) (ht : ∀ k, k < a.heap.size → T k → U k) : Keep U a c :=
 ⟨k.os.trans h.os, k.tape.trans h.tape, k.output.trans h.output, Nat.le_trans h.size k.size, fun i hi hu =>
  (k.block i (Nat.lt_of_lt_of_le hi h.size) (fun t => hu (ht i hi t))).trans (h.block i hi (fun s => hu (hs i hi s)))⟩

theorem Keep.mono {S T : Nat → Prop} {a b : World} (h : Keep S a b) (hs : ∀ k, k < a.heap.size → S k → T k) : Keep T a b :=
 ⟨h.os, h.tape, h.output, h.size, fun i hi hu => h.block i hi (fun s => hu (hs i hi s))⟩

theorem Keep.cell {S : Nat → Prop} {w w' : World} (h : Keep S w w') {p : Addr} (hp : p.block < w.heap.size) (hs : ¬ S p.block) : w'.cell? p = w.cell? p :=
 World.cell?_of_block (w := w) (h.block p.block hp hs)

theorem Keep.frozen {S : Nat → Prop} {w w' : World} (h : Keep S w w') {p : Addr} (hp : p.block < w.heap.size) (hs : ¬ S p.block) : w'.frozen? p = w.frozen? p :=
 World.frozen?_of_block (w := w) (h.block p.block hp hs)

theorem Keep.drew {S : Nat → Prop} {a w : World} (h : Keep S a w) : Keep S a w.drew := ⟨h.os, h.tape, h.output, h.size, h.block⟩

theorem Keep.drewN {S : Nat → Prop} {a w : World} (h : Keep S a w) (n : Nat) : Keep S a (w.drewN n) := ⟨h.os, h.tape, h.output, h.size, h.block⟩

theorem Keep.of_drew {S : Nat → Prop} {a w : World} (h : Keep S a.drew w) : Keep S a w := ⟨h.os, h.tape, h.output, h.size, h.block⟩

theorem Keep.of_drewN {S : Nat → Prop} {a w : World} {n : Nat} (h : Keep S (a.drewN n) w) : Keep S a w := ⟨h.os, h.tape, h.output, h.size, h.block⟩

theorem Keep.alloc {S : Nat → Prop} {a w : World} (h : Keep S a w) (o : Obj) : Keep S a (w.alloc o) :=
 ⟨h.os, h.tape, h.output, Nat.le_trans h.size (by simp), fun k hk hs => (Go.RowKit.Below.heap_alloc _ _ _ (Nat.lt_of_lt_of_le hk h.size)).trans (h.block k hk hs)⟩

theorem Keep.setCell {S : Nat → Prop} {a w : World} (h : Keep S a w) {p : Addr} (hp : p.block < a.heap.size → S p.block) (u : Value) : Keep S a (w.setCell p u) :=
 ⟨h.os, h.tape, h.output, Nat.le_trans h.size (by simp [World.setCell]), fun k hk hs =>
  (Go.RowKit.Below.heap_setCell _ _ _ _ (fun e => hs (by subst e; exact hp hk))).trans (h.block k hk hs)⟩

theorem Keep.below {S : Nat → Prop} {w w' : World} {B : Nat} (h : Keep S w w') (hB : B ≤ w.heap.size) (hs : ∀ k, k < B → ¬ S k) : Go.RowKit.Below B w w' :=
 ⟨h.os, h.tape, h.output, h.size, fun k hk => h.block k (by omega) (hs k hk)⟩

abbrev Fresh (w w' : World) : Prop := Keep (fun _ => False) w w'

theorem Fresh.below {w w' : World} (h : Fresh w w') : Go.RowKit.Below w.heap.size w w' := Keep.below h (Nat.le_refl _) (fun _ _ h => h)

abbrev wd (k : IntKind) (n : Nat) : Value := .int k (n : Int)

def Blk (k : IntKind) (w : World) (g : Nat) (L : List Nat) : Prop := ∃ T, w.heap[g]? = some (.cells (L.map (wd k)).toArray T (0, 0))

theorem Blk.lt {k : IntKind} {w : World} {g : Nat} {L : List Nat} (h : Blk k w g L) : g < w.heap.size := by
 obtain ⟨T, h⟩ := h
 by_cases hg : g < w.heap.size
 · exact hg
 · rw [Array.getElem?_eq_none (by omega)] at h; exact absurd h (by simp)

theorem Blk.uniq {k k' : IntKind} {w : World} {g : Nat} {L L' : List Nat} (h : Blk k w g L) (h' : Blk k' w g L') : L = L' := by
 obtain ⟨T, h⟩ := h
 obtain ⟨T', h'⟩ := h'
 rw [h] at h'
 simp only [Option.some.injEq, Obj.cells.injEq] at h'
 have e : L.map (wd k) = L'.map (wd k') := by simpa using h'.1
 clear h h'
 induction L generalizing L' with
 | nil => cases L' with
   | nil => rfl
   | cons a l => simp at e
 | cons a l ih => cases L' with
   | nil => simp at e
   | cons b l' =>
     simp only [List.map_cons, List.cons.injEq, Value.int.injEq] at e
     rw [ih e.2]; congr 1; omega

theorem Blk.cell {k : IntKind} {w : World} {g : Nat} {L : List Nat} (h : Blk k w g L) {o : Nat} (ho : o < L.length) : w.cell? ⟨g, o, none⟩ = some (wd k (L.getD o 0)) := by
 obtain ⟨T, h⟩ := h
 simp [World.cell?, h, ho, List.getD]

theorem Blk.frozen {k : IntKind} {w : World} {g : Nat} {L : List Nat} (h : Blk k w g L) (o : Nat) : w.frozen? ⟨g, o, none⟩ = false := by
 obtain ⟨T, h⟩ := h
 simp [World.frozen?, h]

theorem Blk.set {k : IntKind} {w : World} {g : Nat} {L : List Nat} (h : Blk k w g L) (o n : Nat) : Blk k (w.setCell ⟨g, o, none⟩ (wd k n)) g (L.set o n) := by
 obtain ⟨T, h⟩ := h
 refine ⟨T, ?_⟩
 simp only [World.setCell, Array.getElem?_modify, if_true, h]
 simp [List.map_set]

theorem Blk.of_block {k : IntKind} {w w' : World} {g : Nat} {L : List Nat} (h : Blk k w g L) (e : w'.heap[g]? = w.heap[g]?) : Blk k w' g L := by
 obtain ⟨T, h⟩ := h
 exact ⟨T, by rw [e]; exact h⟩

theorem Blk.keep {k : IntKind} {S : Nat → Prop} {w w' : World} {g : Nat} {L : List Nat} (h : Blk k w g L) (hk : Keep S w w') (hs : ¬ S g) : Blk k w' g L :=
 h.of_block (hk.block g h.lt hs)

theorem Blk.drewN {k : IntKind} {w : World} {g : Nat} {L : List Nat} (h : Blk k w g L) (n : Nat) : Blk k (w.drewN n) g L := h
theorem Blk.drew {k : IntKind} {w : World} {g : Nat} {L : List Nat} (h : Blk k w g L) : Blk k w.drew g L := h

theorem Blk.alloc {k : IntKind} {w : World} {g : Nat} {L : List Nat} (h : Blk k w g L) (o : Obj) : Blk k (w.alloc o) g L :=
 h.of_block (Go.RowKit.Below.heap_alloc _ _ _ h.lt)

structure Puts (k : IntKind) (g : Nat) (L : List Nat) (w w' : World) : Prop where
 os : w'.os = w.os
 tape : w'.tape = w.tape
 output : w'.output = w.output
 size : w'.heap.size = w.heap.size
 block : ∀ k, k ≠ g → w'.heap[k]? = w.heap[k]?
 blk : Blk k w' g L

theorem Puts.refl {k : IntKind} {g : Nat} {L : List Nat} {w : World} (h : Blk k w g L) : Puts k g L w w := ⟨rfl, rfl, rfl, rfl, fun _ _ => rfl, h⟩

theorem Puts.drew {k : IntKind} {g : Nat} {L : List Nat} {w w' : World} (h : Puts k g L w w') : Puts k g L w w'.drew := ⟨h.os, h.tape, h.output, h.size, h.block, h.blk⟩

theorem Puts.drewN {k : IntKind} {g : Nat} {L : List Nat} {w w' : World} (h : Puts k g L w w') (n : Nat) : Puts k g L w (w'.drewN n) := ⟨h.os, h.tape, h.output, h.size, h.block, h.blk⟩

theorem Puts.of_drew {k : IntKind} {g : Nat} {L : List Nat} {w w' : World} (h : Puts k g L w.drew w') : Puts k g L w w' := ⟨h.os, h.tape, h.output, h.size, h.block, h.blk⟩

theorem Puts.of_drewN {k : IntKind} {g : Nat} {L : List Nat} {w w' : World} {n : Nat} (h : Puts k g L (w.drewN n) w') : Puts k g L w w' := ⟨h.os, h.tape, h.output, h.size, h.block, h.blk⟩

theorem Puts.set {k : IntKind} {g : Nat} {L : List Nat} {w w' : World} (h : Puts k g L w w') (o n : Nat) : Puts k g (L.set o n) w (w'.setCell ⟨g, o, none⟩ (wd k n)) :=
 ⟨h.os, h.tape, h.output, by simp [World.setCell, h.size], fun k hk => by rw [Go.RowKit.Below.heap_setCell _ _ _ _ hk]; exact h.block k hk, h.blk.set o n⟩

theorem Puts.trans {k : IntKind} {g : Nat} {L L' : List Nat} {w w' w'' : World} (h : Puts k g L w w') (h' : Puts k g L' w' w'') : Puts k g L' w w'' :=
 ⟨h'.os.trans h.os, h'.tape.trans h.tape, h'.output.trans h.output, h'.size.trans h.size, fun k hk => (h'.block k hk).trans (h.block k hk), h'.blk⟩

theorem Puts.keep {k : IntKind} {g : Nat} {L : List Nat} {w w' : World} (h : Puts k g L w w') : Keep (· = g) w w' :=
 ⟨h.os, h.tape, h.output, Nat.le_of_eq h.size.symm, fun k _ hk => h.block k hk⟩

theorem Puts.other {k k' : IntKind} {g b : Nat} {L M : List Nat} {w w' : World} (h : Puts k g L w w') (hb : b ≠ g) (hM : Blk k' w b M) : Blk k' w' b M := hM.of_block (h.block b hb)

def spl (L : List Nat) (off : Nat) (l : List Nat) : List Nat := L.take off ++ l ++ L.drop (off + l.length)

theorem spl_nil (L : List Nat) (off : Nat) : spl L off [] = L := by simp [spl]

theorem sgl {L : List Nat} {off : Nat} {l : List Nat} (h : off + l.length ≤ L.length) : (spl L off l).length = L.length := by
 simp [spl]; omega

theorem ext_getD {l m : List Nat} (h : l.length = m.length) (g : ∀ i, i < l.length → l.getD i 0 = m.getD i 0) : l = m := by
 apply List.ext_getElem h
 intro i a b
 have := g i a
 simpa [List.getD, a, b] using this

theorem getD_set (l : List Nat) (i j n : Nat) (h : i < l.length) : (l.set i n).getD j 0 = if i = j then n else l.getD j 0 := by
 simp only [List.getD, List.getElem?_set]
 by_cases e : i = j
 · subst e; rw [if_pos rfl, if_pos rfl, if_pos h]; rfl
 · rw [if_neg e, if_neg e]

theorem getD_append (l m : List Nat) (j : Nat) : (l ++ m).getD j 0 = if j < l.length then l.getD j 0 else m.getD (j - l.length) 0 := by
 simp only [List.getD, List.getElem?_append]
 split <;> rfl

theorem sgD {L : List Nat} {off : Nat} {l : List Nat} (h : off + l.length ≤ L.length) (i : Nat) : (spl L off l).getD i 0 = if off ≤ i ∧ i < off + l.length then l.getD (i - off) 0 else L.getD i 0 := by
 simp only [spl, List.getD, List.getElem?_append, List.getElem?_take, List.getElem?_drop, List.length_append, List.length_take]
 rw [show min off L.length = off from by omega]
 by_cases a : i < off
 · rw [if_pos (by omega), if_pos a, if_pos a, if_neg (by omega)]
 · by_cases b : i < off + l.length
   · rw [if_pos b, if_neg a, if_pos ⟨by omega, b⟩]
   · rw [if_neg b, if_neg (by omega), show off + l.length + (i - (off + l.length)) = i from by omega]

theorem spl_set {L : List Nat} {off : Nat} {l : List Nat} {o n : Nat} (ho : o = off + l.length) (h : o < L.length) : (spl L off l).set o n = spl L off (l ++ [n]) := by
 subst ho
 apply ext_getD
 · rw [List.length_set, sgl (by omega), sgl (by simp; omega)]
 · intro i _
   rw [getD_set _ _ _ _ (by rw [sgl (by omega)]; exact h), sgD (by omega), sgD (by simp; omega), getD_append]
   simp only [List.length_append, List.length_cons, List.length_nil]
   by_cases c : off + l.length = i
   · subst c
     rw [if_pos rfl, if_pos (by omega), if_neg (by omega)]
     rw [show off + l.length - off - l.length = 0 from by omega]; rfl
   · rw [if_neg c]
     by_cases b : off ≤ i ∧ i < off + l.length
     · rw [if_pos b, if_pos (by omega), if_pos (by omega)]
     · rw [if_neg b, if_neg (by omega)]

theorem spl_cons {L : List Nat} {off : Nat} {l : List Nat} (n : Nat) (h : off + 1 + l.length ≤ L.length) : (spl L (off + 1) l).set off n = spl L off (n :: l) := by
 apply ext_getD
 · rw [List.length_set, sgl (by omega), sgl (by simp; omega)]
 · intro i _
   rw [getD_set _ _ _ _ (by rw [sgl (by omega)]; omega), sgD (by omega), sgD (by simp; omega)]
   simp only [List.length_cons]
   by_cases a : off = i
   · subst a; simp
   · rw [if_neg a]
     by_cases b : off + 1 ≤ i ∧ i < off + 1 + l.length
     · rw [if_pos b, if_pos (by omega)]
       obtain ⟨j, rfl⟩ : ∃ j, i = off + 1 + j := ⟨i - (off + 1), by omega⟩
       rw [show off + 1 + j - (off + 1) = j from by omega, show off + 1 + j - off = j + 1 from by omega]; simp
     · rw [if_neg b, if_neg (by omega)]

def seg (L : List Nat) (off n : Nat) : List Nat := (L.drop off).take n

theorem sgL {L : List Nat} {off n : Nat} (h : off + n ≤ L.length) : (seg L off n).length = n := by simp [seg]; omega

theorem seg_getD {L : List Nat} {off n j : Nat} (h : j < n) : (seg L off n).getD j 0 = L.getD (off + j) 0 := by
 simp [seg, List.getD, h]

theorem seg_take {L : List Nat} {off n m : Nat} (h : m ≤ n) : (seg L off n).take m = seg L off m := by
 simp only [seg, List.take_take]; rw [show min m n = m from by omega]

theorem seg_succ {L : List Nat} {off n : Nat} (h : off + n < L.length) : seg L off (n + 1) = seg L off n ++ [L.getD (off + n) 0] := by
 simp only [seg]
 rw [List.take_succ_eq_append_getElem (by simp; omega)]
 simp [List.getD, h]

theorem seg_head {L : List Nat} {off n : Nat} (h : off < L.length) : seg L off (n + 1) = L.getD off 0 :: seg L (off + 1) n := by
 simp only [seg]
 rw [List.drop_eq_getElem_cons h, List.take_succ_cons]
 simp [List.getD, h]

theorem seg_zero (L : List Nat) (off : Nat) : seg L off 0 = [] := by simp [seg]

theorem seg_mem {L : List Nat} {off n x : Nat} (h : x ∈ seg L off n) : x ∈ L := List.mem_of_mem_drop (List.mem_of_mem_take h)

theorem getD_lt {l : List Nat} {B : Nat} (h : ∀ a ∈ l, a < B) (hB : 0 < B) (k : Nat) : l.getD k 0 < B := by
 by_cases hk : k < l.length
 · rw [show l.getD k 0 = l[k] by simp [List.getD, hk]]; exact h _ (List.getElem_mem hk)
 · simp [List.getD, hk]; exact hB

theorem seg_spl {L : List Nat} {off : Nat} {l : List Nat} (h : off + l.length ≤ L.length) : seg (spl L off l) off l.length = l := by
 simp only [seg, spl]
 rw [List.append_assoc, List.drop_append_of_le_length (by simp; omega), List.drop_eq_nil_of_le (by simp; omega)]
 simp

theorem seg_ext {L L' : List Nat} {o o' n : Nat} (h1 : o + n ≤ L.length) (h2 : o' + n ≤ L'.length) (h : ∀ j, j < n → L.getD (o + j) 0 = L'.getD (o' + j) 0) : seg L o n = seg L' o' n := by
 apply List.ext_getElem
 · rw [sgL h1, sgL h2]
 · intro i a b
   rw [sgL h1] at a
   have := h i a
   simp only [seg, List.getElem_take, List.getElem_drop]
   simpa [List.getD, show o + i < L.length by omega, show o' + i < L'.length by omega] using this

theorem spl_mem {L : List Nat} {off : Nat} {l : List Nat} {x : Nat} (h : x ∈ spl L off l) : x ∈ L ∨ x ∈ l := by
 simp only [spl, List.mem_append] at h
 rcases h with (h | h) | h
 · exact .inl (List.mem_of_mem_take h)
 · exact .inr h
 · exact .inl (List.mem_of_mem_drop h)

theorem quietSame {P : Program} {f : FuncId} {args : Array Value} {w : World} {n : Nat} {v : Value}
 (h : Calls P f args (w.drewN n) fun e w' => e = .returned v ∧ w.drewN n = w') : Calls P f args (w.drewN n) fun e w'' => e = .returned v ∧ ∃ m, w'' = w.drewN m :=
 h.mono fun _ _ ⟨he, hm⟩ => ⟨he, n, hm.symm⟩

theorem Puts.setRow {k : IntKind} {w : World} {g : Nat} {L : List Nat} (h : Blk k w g L) (L' : List Nat) {c : Array Value} (hc : c = (L'.map (wd k)).toArray) : Puts k g L' w (w.setRow g c) := by
 subst hc
 refine ⟨rfl, rfl, rfl, by simp [World.setRow], fun j hj => setRow_other w g j _ hj, ?_⟩
 obtain ⟨T, h⟩ := h
 exact ⟨T, setRow_heap w g _ _ T _ h⟩

theorem wpList_copy_puts {k : IntKind} {P : Program} {w : World} {ops : Array Oper} {rest : List Oper} {o : Oper} {a : Act} {Q : Exit → Act → World → Prop} (hgd : o.guard = none) (d s : Operand) (dT sT : TypeId)
 (ho : o.op = .call { callee := .builtin .copy, args := #[d, s], argTypes := #[dT, sT] }) (elem : TypeId) (hu : P.underlying dT = some (.slice elem)) (hsz : (P.info? elem).map (·.size) = some 1)
 (dp sp : Option Addr) (dLen dCap sLen sCap : Nat) (hd : a.eval d = .slice dp dLen dCap) (hs : a.eval s = .slice sp sLen sCap)
 (g off : Nat) (L : List Nat) (bz : Blk k w g L) (ga oa : Nat) (M : List Nat) (bx : Blk k w ga M) (n : Nat) (hn : n = Nat.min sLen dLen)
 (hpos : 0 < n → dp = some ⟨g, off, none⟩ ∧ sp = some ⟨ga, oa, none⟩) (hfit : off + n ≤ L.length) (hfit' : oa + n ≤ M.length)
 (h : ∀ w', Puts k g (spl L off (seg M oa n)) w w' → wpList P ops Q rest (a.put o.dst (goInt n)) w') :
 wpList P ops Q (o :: rest) a w := by
 by_cases h0 : n = 0
 · refine wpList_copy_nothing hgd d s dT sT ho elem hu hsz dp sp dLen dCap sLen sCap hd hs (by omega) ?_
   have := h w (by rw [h0, seg_zero, spl_nil]; exact Puts.refl bz)
   rw [h0] at this; exact this
 · obtain ⟨rfl, rfl⟩ := hpos (by omega)
   obtain ⟨T, hg⟩ := id bz
   have hl : ((seg M oa n).map (wd k)).length = n := by rw [List.length_map, sgL hfit']
   refine wpList_copy_own hgd d s dT sT ho elem hu hsz g off dLen dCap ⟨ga, oa, none⟩ sLen sCap hd hs (L.map (wd k)).toArray T hg ((seg M oa n).map (wd k)) (by rw [hl, hn]) ?_ (by rw [hl]; simpa using hfit) ?_ ?_
   · intro j v hj
     have hjn : j < n := by
      have := (List.getElem?_eq_some_iff.1 hj).1; omega
     have := bx.cell (o := oa + j) (by omega)
     rw [← seg_getD hjn] at this
     rw [show (⟨ga, oa, none⟩ : Addr).add j = ⟨ga, oa + j, none⟩ from by simp [Addr.add], this, ← hj]
     have hjl : j < (seg M oa n).length := by rw [sgL hfit']; exact hjn
     simp [List.getD, hjl]
   · intro v hv
     obtain ⟨x, _, rfl⟩ := List.mem_map.1 hv
     rfl
   · rw [hl]
     refine h _ (Puts.setRow bz _ ?_)
     simp [spl, sgL hfit', List.map_take, List.map_drop]

theorem run_neq_ptr_other {P : Program} (w : World) {tp te : TypeId} {j : TypeInfo} {a b : Addr} {ca cb : Array Value} {ta tb : TypeId} (hp : P.underlying tp = some (.pointer te)) (hte : P.info? te = some j) (hsz : j.size ≠ 0)
 (hne : a ≠ b) (ha : w.heap[a.block]? = some (.cells ca ta (0, 0))) (hb : w.heap[b.block]? = some (.cells cb tb (0, 0))) :
 (binOp .neq tp (.pointer (some a)) (.pointer (some b))).run P w = .ok (.bool true) w := by
 have h := run_eql_ptr_other w hp hte hsz hne ha hb
 simp only [binOp] at h ⊢
 have h2 : ∀ d : Nat, (Op.equalIn (d + 1) tp (.pointer (some a)) (.pointer (some b))).run P w = .ok false w := fun d => by
  simp [Op.equalIn, run_underlying hp, sizeOf, typeInfo, hte, hsz, run_sameAddr_other w hne ha hb]
 simp [Op.equal, Op.maxDepth, h2 9999]

theorem Blk.neq {k k' : IntKind} {P : Program} {w : World} {g g' o o' : Nat} {L L' : List Nat} (h : Blk k w g L) (h' : Blk k' w g' L') (hne : g ≠ g') {tp te : TypeId} (hp : P.underlying tp = some (.pointer te))
 (hsz : (P.info? te).map (·.size) = some 1) :
 (binOp .neq tp (.pointer (some ⟨g, o, none⟩)) (.pointer (some ⟨g', o', none⟩))).run P w = .ok (.bool true) w := by
 obtain ⟨T, h⟩ := h
 obtain ⟨T', h'⟩ := h'
 cases hq : P.info? te with
 | none => simp [hq] at hsz
 | some i => exact run_neq_ptr_other w hp hq (by simp [hq] at hsz; omega) (fun e => hne (congrArg Addr.block e)) h h'

theorem Blk.eql {k k' : IntKind} {P : Program} {w : World} {g g' o o' : Nat} {L L' : List Nat} (h : Blk k w g L) (h' : Blk k' w g' L') (hne : g ≠ g') {tp te : TypeId} (hp : P.underlying tp = some (.pointer te))
 (hsz : (P.info? te).map (·.size) = some 1) :
 (binOp .eql tp (.pointer (some ⟨g, o, none⟩)) (.pointer (some ⟨g', o', none⟩))).run P w = .ok (.bool false) w := by
 obtain ⟨T, h⟩ := h
 obtain ⟨T', h'⟩ := h'
 cases hq : P.info? te with
 | none => simp [hq] at hsz
 | some i => exact run_eql_ptr_other w hp hq (by simp [hq] at hsz; omega) (fun e => hne (congrArg Addr.block e)) h h'

def addC (x y c : Nat) : Nat := (x + y + c) / 18446744073709551616
def addS (x y c : Nat) : Nat := (x + y + c) % 18446744073709551616
def subC (x y c : Nat) : Nat := if x < y + c then 1 else 0
def subS (x y c : Nat) : Nat := (x + 18446744073709551616 - y - c) % 18446744073709551616
def mulH (x y : Nat) : Nat := x * y / 18446744073709551616
def mulL (x y : Nat) : Nat := x * y % 18446744073709551616

theorem run_Add64 (x y c : Nat) (hc : c ≤ 1) (w : World) :
 (callFunc 205 #[.int .u64 x, .int .u64 y, .int .u64 c]).run Tryz.prog w =
  .ok (.value (.tuple #[.int .u64 (((x + y + c) % 18446744073709551616 : Nat) : Int), .int .u64 (((x + y + c) / 18446744073709551616 : Nat) : Int)])) w := by
 rw [run_callFunc_extern Tryz.func205 (by kernel_rfl) (by kernel_rfl) (by kernel_rfl) (e := add64Entry) (by kernel_rfl), run_add64 x y c (by omega) (by omega) (by omega) (by omega)]
 simp only [Result.andThen]
 congr 5 <;> omega

theorem run_Sub64 (x y b : Nat) (hb : b ≤ 1) (w : World) :
 (callFunc 207 #[.int .u64 x, .int .u64 y, .int .u64 b]).run Tryz.prog w =
  .ok (.value (.tuple #[.int .u64 (((x + 18446744073709551616 - y - b) % 18446744073709551616 : Nat) : Int), .int .u64 ((if x < y + b then 1 else 0 : Nat) : Int)])) w := by
 rw [run_callFunc_extern Tryz.func207 (by kernel_rfl) (by kernel_rfl) (by kernel_rfl) (e := sub64Entry) (by kernel_rfl), run_sub64 x y b hb]
 rfl

theorem bits_Add0 (x y c : Nat) (hc : c ≤ 1) (w : World) :
 Calls Tryz.prog 176 #[.int .u64 x, .int .u64 y, .int .u64 c] w fun e w' => e = .returned (.tuple #[.int .u64 (((x + y + c) % 18446744073709551616 : Nat) : Int), .int .u64 (((x + y + c) / 18446744073709551616 : Nat) : Int)]) ∧ w = w' := by
 have hr := run_Add64 x y c hc
 go_enter Tryz.func176, Tryz.ntmps176
 go_wp2
 go_ret2
 exact ⟨rfl, rfl⟩

theorem bits_Add (x y c : Nat) (hc : c ≤ 1) (w : World) :
 Calls Tryz.prog 176 #[.int .u64 x, .int .u64 y, .int .u64 c] w fun e w' => e = .returned (.tuple #[.int .u64 (addS x y c : Nat), .int .u64 (addC x y c : Nat)]) ∧ w = w' :=
 bits_Add0 x y c hc w

theorem bits_Sub0 (x y c : Nat) (hc : c ≤ 1) (w : World) :
 Calls Tryz.prog 178 #[.int .u64 x, .int .u64 y, .int .u64 c] w fun e w' => e = .returned (.tuple #[.int .u64 (((x + 18446744073709551616 - y - c) % 18446744073709551616 : Nat) : Int), .int .u64 ((if x < y + c then 1 else 0 : Nat) : Int)]) ∧ w = w' := by
 have hr := run_Sub64 x y c hc
 go_enter Tryz.func178, Tryz.ntmps178
 go_wp2
 all_goals (go_ret2; exact ⟨rfl, rfl⟩)

theorem bits_Sub (x y c : Nat) (hc : c ≤ 1) (w : World) :
 Calls Tryz.prog 178 #[.int .u64 x, .int .u64 y, .int .u64 c] w fun e w' => e = .returned (.tuple #[.int .u64 (subS x y c : Nat), .int .u64 (subC x y c : Nat)]) ∧ w = w' :=
 bits_Sub0 x y c hc w

section
set_option maxHeartbeats 1000000
open Mul64 in
theorem bits_Mul64 (x y : Nat) (hx : x < 18446744073709551616) (hy : y < 18446744073709551616) (w : World) :
 Calls Tryz.prog 236 #[.int .u64 x, .int .u64 y] w fun e w' => e = .returned (.tuple #[.int .u64 ((x * y / 18446744073709551616 : Nat) : Int), .int .u64 ((x * y % 18446744073709551616 : Nat) : Int)]) ∧ w = w' := by
 obtain ⟨bd, bt, bw, hhi⟩ := Lib.mul64_hi x y hx hy
 have ba := Lib.half_mul_le (a := x / 4294967296) (b := y / 4294967296) (by omega) (by omega)
 have bb := Lib.half_mul_le (a := x / 4294967296) (b := y % 4294967296) (by omega) (by omega)
 have bc := Lib.half_mul_le (a := x % 4294967296) (b := y / 4294967296) (by omega) (by omega)
 have ba' : x / 4294967296 * (y / 4294967296) < 18446744073709551616 := by omega
 have bb' : x / 4294967296 * (y % 4294967296) < 18446744073709551616 := by omega
 have bc' : x % 4294967296 * (y / 4294967296) < 18446744073709551616 := by omega
 have bh1 : x / 4294967296 * (y / 4294967296) + (x / 4294967296 * (y % 4294967296) + x % 4294967296 * (y % 4294967296) / 4294967296) / 4294967296 < 18446744073709551616 := by omega
 have bh : x / 4294967296 * (y / 4294967296) + (x / 4294967296 * (y % 4294967296) + x % 4294967296 * (y % 4294967296) / 4294967296) / 4294967296 + ((x / 4294967296 * (y % 4294967296) + x % 4294967296 * (y % 4294967296) / 4294967296) % 4294967296 + x % 4294967296 * (y / 4294967296)) / 4294967296 < 18446744073709551616 := by omega
 go_enter Tryz.func236, Tryz.ntmps236
 go_wp2
 simp only [Mul64.maskN x hx, Mul64.maskN y hy, Mul64.divN, Mul64.mulN, Mul64.addN, Mul64.wrapN _ bd, Mul64.wrapN _ bb', Mul64.wrapN _ bt, Mul64.maskN _ bt, Mul64.wrapN _ bc', Mul64.wrapN _ bw, Mul64.wrapN _ ba', Mul64.wrapN _ bh1, Mul64.wrapN _ bh, Mul64.wrapM (x * y)]
 rw [hhi]
 go_ret2
 exact ⟨rfl, rfl⟩

theorem bits_Mul0 (x y : Nat) (hx : x < 18446744073709551616) (hy : y < 18446744073709551616) (w : World) :
 Calls Tryz.prog 220 #[.int .u64 x, .int .u64 y] w fun e w' => e = .returned (.tuple #[.int .u64 ((x * y / 18446744073709551616 : Nat) : Int), .int .u64 ((x * y % 18446744073709551616 : Nat) : Int)]) ∧ w = w' := by
 go_enter Tryz.func220, Tryz.ntmps220
 go_wp2_with (go_at_call 236; refine (bits_Mul64 x y hx hy _).mono ?_; rintro e w' ⟨rfl, rfl⟩)
 go_ret2
 exact ⟨rfl, rfl⟩
end

theorem bits_Mul (x y : Nat) (hx : x < 18446744073709551616) (hy : y < 18446744073709551616) (w : World) :
 Calls Tryz.prog 220 #[.int .u64 x, .int .u64 y] w fun e w' => e = .returned (.tuple #[.int .u64 (mulH x y : Nat), .int .u64 (mulL x y : Nat)]) ∧ w = w' :=
 bits_Mul0 x y hx hy w

def maH (x y c : Nat) : Nat := (x * y + c) / 18446744073709551616
def maL (x y c : Nat) : Nat := (x * y + c) % 18446744073709551616

theorem mul_lt_sq {x y : Nat} (hx : x < 18446744073709551616) (hy : y < 18446744073709551616) : x * y ≤ 18446744073709551615 * 18446744073709551615 :=
 Nat.mul_le_mul (by omega) (by omega)

theorem maH_eq {x y c : Nat} : mulH x y + addC (mulL x y) c 0 = maH x y c := by
 unfold mulH addC mulL maH; generalize x * y = p; omega

theorem maH_lt {x y c : Nat} (hx : x < 18446744073709551616) (hy : y < 18446744073709551616) (hc : c < 18446744073709551616) : maH x y c < 18446744073709551616 := by
 have h := mul_lt_sq hx hy
 unfold maH; generalize x * y = p at *; omega

theorem maL_eq {x y c : Nat} : addS (mulL x y) c 0 = maL x y c := by
 unfold addS mulL maL; generalize x * y = p; omega

theorem maL_lt (x y c : Nat) : maL x y c < 18446744073709551616 := by unfold maL; omega
theorem addS_lt (x y c : Nat) : addS x y c < 18446744073709551616 := by unfold addS; omega
theorem subS_lt (x y c : Nat) : subS x y c < 18446744073709551616 := by unfold subS; omega
theorem subC_le (x y c : Nat) : subC x y c ≤ 1 := by unfold subC; split <;> omega
theorem addC_le {x y c : Nat} (hx : x < 18446744073709551616) (hy : y < 18446744073709551616) (hc : c ≤ 1) : addC x y c ≤ 1 := by unfold addC; omega

theorem wrap_add {a b : Nat} (h : a + b < 18446744073709551616) : IntKind.u64.wrap ((a : Int) + (b : Int)) = ((a + b : Nat) : Int) := by
 rw [IntKind.wrap_u64]; omega

theorem mulAddWWW_g (x y c : Nat) (hx : x < 18446744073709551616) (hy : y < 18446744073709551616) (hc : c < 18446744073709551616) (w : World) :
 Calls Tryz.prog 248 #[.int .u64 x, .int .u64 y, .int .u64 c] w fun e w' => e = .returned (.tuple #[.int .u64 (maH x y c : Nat), .int .u64 (maL x y c : Nat)]) ∧ w = w' := by
 have hw := wrap_add (a := mulH x y) (b := addC (mulL x y) c 0) (by rw [maH_eq]; exact maH_lt hx hy hc)
 rw [maH_eq] at hw
 rw [← maL_eq]
 generalize maH x y c = m at *
 have HW := hid hw; clear hw
 go_enter Tryz.func248, Tryz.ntmps248
 go_wp2_with (first
  | (go_at_call 220; refine (bits_Mul x y hx hy _).mono ?_; rintro e w' ⟨rfl, rfl⟩)
  | (go_at_call 176; refine (bits_Add _ c 0 (by omega) _).mono ?_; rintro e w' ⟨rfl, rfl⟩))
 go_ret2
 refine ⟨?_, rfl⟩
 rw [HW.out]; rfl

end Go.Proofs.YtllencgncinphaaGreatDoor
