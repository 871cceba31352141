/- The words in which the contracts of math/big's functions speak of memory: blocks that hold numbers, and what a call keeps. No program is in sight. -/
import Derived.WalkKit
import Derived.Below
import Derived.RowKit3
import Derived.Lib.Hide
import Derived.BigQuiet
import Derived.Deep.QuietTactic
import Derived.Laws.CopyOwn
import Derived.Laws.MakeOwn
import Derived.StillTailTactics
import Derived.LaidEqlPtr
import Derived.Lib.Builder
import Derived.Test.YtjjolcjeiogdmabGreatDoorProg
import Derived.Outline
import Derived.WalkLawsBesides
import Derived.WalkSpells
import Derived.OwnWalk
namespace Go.Proofs.YtjjolcjeiogdmabGreatDoor
open Go.RowKit

/-- w' is w but for the blocks of S, and new blocks. -/
structure Keep (S : Nat → Prop) (w w' : World) : Prop where
  os : w'.os = w.os
  tape : w'.tape = w.tape
  output : w'.output = w.output
  size : w.heap.size ≤ w'.heap.size
  block : ∀ k, k < w.heap.size → ¬ S k → w'.heap[k]? = w.heap[k]?

theorem Keep.refl (S : Nat → Prop) (w : World) : Keep S w w := ⟨rfl, rfl, rfl, Nat.le_refl _, fun _ _ _ => rfl⟩

theorem Keep.trans {S T U : Nat → Prop} {a b c : World} (h : Keep S a b) (k : Keep T b c) (hs : ∀ k, k < a.heap.size → S k → U k) (ht : ∀ k, k < a.heap.size → T k → U k) : Keep U a c :=
  ⟨k.os.trans h.os, k.tape.trans h.tape, k.output.trans h.output, Nat.le_trans h.size k.size, fun i hi hu =>
    (k.block i (Nat.lt_of_lt_of_le hi h.size) (fun t => hu (ht i hi t))).trans (h.block i hi (fun s => hu (hs i hi s)))⟩

theorem Keep.mono {S T : Nat → Prop} {a b : World} (h : Keep S a b) (hs : ∀ k, k < a.heap.size → S k → T k) : Keep T a b :=
  ⟨h.os, h.tape, h.output, h.size, fun i hi hu => h.block i hi (fun s => hu (hs i hi s))⟩

theorem Keep.cell {S : Nat → Prop} {w w' : World} (h : Keep S w w') {p : Addr} (hp : p.block < w.heap.size) (hs : ¬ S p.block) : w'.cell? p = w.cell? p :=
  World.cell?_of_block (w := w) (h.block p.block hp hs)

theorem Keep.frozen {S : Nat → Prop} {w w' : World} (h : Keep S w w') {p : Addr} (hp : p.block < w.heap.size) (hs : ¬ S p.block) : w'.frozen? p = w.frozen? p :=
  World.frozen?_of_block (w := w) (h.block p.block hp hs)

theorem Keep.drew {S : Nat → Prop} {a w : World} (h : Keep S a w) : Keep S a w.drew := ⟨h.os, h.tape, h.output, h.size, h.block⟩

theorem Keep.drewN {S : Nat → Prop} {a w : World} (h : Keep S a w) (n : Nat) : Keep S a (w.drewN n) := ⟨h.os, h.tape, h.output, h.size, h.block⟩

theorem Keep.of_drew {S : Nat → Prop} {a w : World} (h : Keep S a.drew w) : Keep S a w := ⟨h.os, h.tape, h.output, h.size, h.block⟩

theorem Keep.of_drewN {S : Nat → Prop} {a w : World} {n : Nat} (h : Keep S (a.drewN n) w) : Keep S a w := ⟨h.os, h.tape, h.output, h.size, h.block⟩

theorem Keep.alloc {S : Nat → Prop} {a w : World} (h : Keep S a w) (o : Obj) : Keep S a (w.alloc o) :=
  ⟨h.os, h.tape, h.output, Nat.le_trans h.size (by simp), fun k hk hs => (Go.RowKit.Below.heap_alloc _ _ _ (Nat.lt_of_lt_of_le hk h.size)).trans (h.block k hk hs)⟩

theorem Keep.setCell {S : Nat → Prop} {a w : World} (h : Keep S a w) {p : Addr} (hp : p.block < a.heap.size → S p.block) (u : Value) : Keep S a (w.setCell p u) :=
  ⟨h.os, h.tape, h.output, Nat.le_trans h.size (by simp [World.setCell]), fun k hk hs =>
    (Go.RowKit.Below.heap_setCell _ _ _ _ (fun e => hs (by subst e; exact hp hk))).trans (h.block k hk hs)⟩

theorem Keep.below {S : Nat → Prop} {w w' : World} {B : Nat} (h : Keep S w w') (hB : B ≤ w.heap.size) (hs : ∀ k, k < B → ¬ S k) : Go.RowKit.Below B w w' :=
  ⟨h.os, h.tape, h.output, h.size, fun k hk => h.block k (by omega) (hs k hk)⟩

/-- nothing that was there has turned -/
abbrev Fresh (w w' : World) : Prop := Keep (fun _ => False) w w'

theorem Fresh.below {w w' : World} (h : Fresh w w') : Go.RowKit.Below w.heap.size w w' := Keep.below h (Nat.le_refl _) (fun _ _ h => h)

/-- a number of kind k as a value -/
abbrev wd (k : IntKind) (n : Nat) : Value := .int k (n : Int)

/-- block g holds the numbers L and nothing else -/
def Blk (k : IntKind) (w : World) (g : Nat) (L : List Nat) : Prop := ∃ T, w.heap[g]? = some (.cells (L.map (wd k)).toArray T (0, 0))

theorem Blk.lt {k : IntKind} {w : World} {g : Nat} {L : List Nat} (h : Blk k w g L) : g < w.heap.size := by
  obtain ⟨T, h⟩ := h
  by_cases hg : g < w.heap.size
  · exact hg
  · rw [Array.getElem?_eq_none (by omega)] at h; exact absurd h (by simp)

theorem Blk.uniq {k k' : IntKind} {w : World} {g : Nat} {L L' : List Nat} (h : Blk k w g L) (h' : Blk k' w g L') : L = L' := by
  obtain ⟨T, h⟩ := h
  obtain ⟨T', h'⟩ := h'
  rw [h] at h'
  simp only [Option.some.injEq, Obj.cells.injEq] at h'
  have e : L.map (wd k) = L'.map (wd k') := by simpa using h'.1
  clear h h'
  induction L generalizing L' with
  | nil => cases L' with
    | nil => rfl
    | cons a l => simp at e
  | cons a l ih => cases L' with
    | nil => simp at e
    | cons b l' =>
      simp only [List.map_cons, List.cons.injEq, Value.int.injEq] at e
      rw [ih e.2]; congr 1; omega

theorem Blk.cell {k : IntKind} {w : World} {g : Nat} {L : List Nat} (h : Blk k w g L) {o : Nat} (ho : o < L.length) : w.cell? ⟨g, o, none⟩ = some (wd k (L.getD o 0)) := by
  obtain ⟨T, h⟩ := h
  simp [World.cell?, h, ho, List.getD]

theorem Blk.frozen {k : IntKind} {w : World} {g : Nat} {L : List Nat} (h : Blk k w g L) (o : Nat) : w.frozen? ⟨g, o, none⟩ = false := by
  obtain ⟨T, h⟩ := h
  simp [World.frozen?, h]

theorem Blk.set {k : IntKind} {w : World} {g : Nat} {L : List Nat} (h : Blk k w g L) (o n : Nat) : Blk k (w.setCell ⟨g, o, none⟩ (wd k n)) g (L.set o n) := by
  obtain ⟨T, h⟩ := h
  refine ⟨T, ?_⟩
  simp only [World.setCell, Array.getElem?_modify, if_true, h]
  simp [List.map_set]

theorem Blk.of_block {k : IntKind} {w w' : World} {g : Nat} {L : List Nat} (h : Blk k w g L) (e : w'.heap[g]? = w.heap[g]?) : Blk k w' g L := by
  obtain ⟨T, h⟩ := h
  exact ⟨T, by rw [e]; exact h⟩

theorem Blk.keep {k : IntKind} {S : Nat → Prop} {w w' : World} {g : Nat} {L : List Nat} (h : Blk k w g L) (hk : Keep S w w') (hs : ¬ S g) : Blk k w' g L :=
  h.of_block (hk.block g h.lt hs)

theorem Blk.drewN {k : IntKind} {w : World} {g : Nat} {L : List Nat} (h : Blk k w g L) (n : Nat) : Blk k (w.drewN n) g L := h
theorem Blk.drew {k : IntKind} {w : World} {g : Nat} {L : List Nat} (h : Blk k w g L) : Blk k w.drew g L := h

theorem Blk.alloc {k : IntKind} {w : World} {g : Nat} {L : List Nat} (h : Blk k w g L) (o : Obj) : Blk k (w.alloc o) g L :=
  h.of_block (Go.RowKit.Below.heap_alloc _ _ _ h.lt)

/-- w' is w, but for block g, which holds L -/
structure Puts (k : IntKind) (g : Nat) (L : List Nat) (w w' : World) : Prop where
  os : w'.os = w.os
  tape : w'.tape = w.tape
  output : w'.output = w.output
  size : w'.heap.size = w.heap.size
  block : ∀ k, k ≠ g → w'.heap[k]? = w.heap[k]?
  blk : Blk k w' g L

theorem Puts.refl {k : IntKind} {g : Nat} {L : List Nat} {w : World} (h : Blk k w g L) : Puts k g L w w := ⟨rfl, rfl, rfl, rfl, fun _ _ => rfl, h⟩

theorem Puts.drew {k : IntKind} {g : Nat} {L : List Nat} {w w' : World} (h : Puts k g L w w') : Puts k g L w w'.drew := ⟨h.os, h.tape, h.output, h.size, h.block, h.blk⟩

theorem Puts.drewN {k : IntKind} {g : Nat} {L : List Nat} {w w' : World} (h : Puts k g L w w') (n : Nat) : Puts k g L w (w'.drewN n) := ⟨h.os, h.tape, h.output, h.size, h.block, h.blk⟩

theorem Puts.of_drew {k : IntKind} {g : Nat} {L : List Nat} {w w' : World} (h : Puts k g L w.drew w') : Puts k g L w w' := ⟨h.os, h.tape, h.output, h.size, h.block, h.blk⟩

theorem Puts.of_drewN {k : IntKind} {g : Nat} {L : List Nat} {w w' : World} {n : Nat} (h : Puts k g L (w.drewN n) w') : Puts k g L w w' := ⟨h.os, h.tape, h.output, h.size, h.block, h.blk⟩

theorem Puts.set {k : IntKind} {g : Nat} {L : List Nat} {w w' : World} (h : Puts k g L w w') (o n : Nat) : Puts k g (L.set o n) w (w'.setCell ⟨g, o, none⟩ (wd k n)) :=
  ⟨h.os, h.tape, h.output, by simp [World.setCell, h.size], fun k hk => by rw [Go.RowKit.Below.heap_setCell _ _ _ _ hk]; exact h.block k hk, h.blk.set o n⟩

theorem Puts.trans {k : IntKind} {g : Nat} {L L' : List Nat} {w w' w'' : World} (h : Puts k g L w w') (h' : Puts k g L' w' w'') : Puts k g L' w w'' :=
  ⟨h'.os.trans h.os, h'.tape.trans h.tape, h'.output.trans h.output, h'.size.trans h.size, fun k hk => (h'.block k hk).trans (h.block k hk), h'.blk⟩

theorem Puts.keep {k : IntKind} {g : Nat} {L : List Nat} {w w' : World} (h : Puts k g L w w') : Keep (· = g) w w' :=
  ⟨h.os, h.tape, h.output, Nat.le_of_eq h.size.symm, fun k _ hk => h.block k hk⟩

theorem Puts.other {k k' : IntKind} {g b : Nat} {L M : List Nat} {w w' : World} (h : Puts k g L w w') (hb : b ≠ g) (hM : Blk k' w b M) : Blk k' w' b M := hM.of_block (h.block b hb)

/-- L with l laid over it from off on -/
def spl (L : List Nat) (off : Nat) (l : List Nat) : List Nat := L.take off ++ l ++ L.drop (off + l.length)

theorem spl_nil (L : List Nat) (off : Nat) : spl L off [] = L := by simp [spl]

theorem spl_length {L : List Nat} {off : Nat} {l : List Nat} (h : off + l.length ≤ L.length) : (spl L off l).length = L.length := by
  simp [spl]; omega

theorem ext_getD {l m : List Nat} (h : l.length = m.length) (g : ∀ i, i < l.length → l.getD i 0 = m.getD i 0) : l = m := by
  apply List.ext_getElem h
  intro i a b
  have := g i a
  simpa [List.getD, a, b] using this

theorem getD_set (l : List Nat) (i j n : Nat) (h : i < l.length) : (l.set i n).getD j 0 = if i = j then n else l.getD j 0 := by
  simp only [List.getD, List.getElem?_set]
  by_cases e : i = j
  · subst e; rw [if_pos rfl, if_pos rfl, if_pos h]; rfl
  · rw [if_neg e, if_neg e]

theorem getD_append (l m : List Nat) (j : Nat) : (l ++ m).getD j 0 = if j < l.length then l.getD j 0 else m.getD (j - l.length) 0 := by
  simp only [List.getD, List.getElem?_append]
  split <;> rfl

theorem spl_getD {L : List Nat} {off : Nat} {l : List Nat} (h : off + l.length ≤ L.length) (i : Nat) : (spl L off l).getD i 0 = if off ≤ i ∧ i < off + l.length then l.getD (i - off) 0 else L.getD i 0 := by
  simp only [spl, List.getD, List.getElem?_append, List.getElem?_take, List.getElem?_drop, List.length_append, List.length_take]
  rw [show min off L.length = off from by omega]
  by_cases a : i < off
  · rw [if_pos (by omega), if_pos a, if_pos a, if_neg (by omega)]
  · by_cases b : i < off + l.length
    · rw [if_pos b, if_neg a, if_pos ⟨by omega, b⟩]
    · rw [if_neg b, if_neg (by omega), show off + l.length + (i - (off + l.length)) = i from by omega]

theorem spl_set {L : List Nat} {off : Nat} {l : List Nat} {o n : Nat} (ho : o = off + l.length) (h : o < L.length) : (spl L off l).set o n = spl L off (l ++ [n]) := by
  subst ho
  apply ext_getD
  · rw [List.length_set, spl_length (by omega), spl_length (by simp; omega)]
  · intro i _
    rw [getD_set _ _ _ _ (by rw [spl_length (by omega)]; exact h), spl_getD (by omega), spl_getD (by simp; omega), getD_append]
    simp only [List.length_append, List.length_cons, List.length_nil]
    by_cases c : off + l.length = i
    · subst c
      rw [if_pos rfl, if_pos (by omega), if_neg (by omega)]
      rw [show off + l.length - off - l.length = 0 from by omega]; rfl
    · rw [if_neg c]
      by_cases b : off ≤ i ∧ i < off + l.length
      · rw [if_pos b, if_pos (by omega), if_pos (by omega)]
      · rw [if_neg b, if_neg (by omega)]

theorem spl_cons {L : List Nat} {off : Nat} {l : List Nat} (n : Nat) (h : off + 1 + l.length ≤ L.length) : (spl L (off + 1) l).set off n = spl L off (n :: l) := by
  apply ext_getD
  · rw [List.length_set, spl_length (by omega), spl_length (by simp; omega)]
  · intro i _
    rw [getD_set _ _ _ _ (by rw [spl_length (by omega)]; omega), spl_getD (by omega), spl_getD (by simp; omega)]
    simp only [List.length_cons]
    by_cases a : off = i
    · subst a; simp
    · rw [if_neg a]
      by_cases b : off + 1 ≤ i ∧ i < off + 1 + l.length
      · rw [if_pos b, if_pos (by omega)]
        obtain ⟨j, rfl⟩ : ∃ j, i = off + 1 + j := ⟨i - (off + 1), by omega⟩
        rw [show off + 1 + j - (off + 1) = j from by omega, show off + 1 + j - off = j + 1 from by omega]; simp
      · rw [if_neg b, if_neg (by omega)]

/-- the n numbers of L from off on -/
def seg (L : List Nat) (off n : Nat) : List Nat := (L.drop off).take n

theorem seg_length {L : List Nat} {off n : Nat} (h : off + n ≤ L.length) : (seg L off n).length = n := by simp [seg]; omega

theorem seg_getD {L : List Nat} {off n j : Nat} (h : j < n) : (seg L off n).getD j 0 = L.getD (off + j) 0 := by
  simp [seg, List.getD, h]

theorem seg_take {L : List Nat} {off n m : Nat} (h : m ≤ n) : (seg L off n).take m = seg L off m := by
  simp only [seg, List.take_take]; rw [show min m n = m from by omega]

theorem seg_succ {L : List Nat} {off n : Nat} (h : off + n < L.length) : seg L off (n + 1) = seg L off n ++ [L.getD (off + n) 0] := by
  simp only [seg]
  rw [List.take_succ_eq_append_getElem (by simp; omega)]
  simp [List.getD, h]

theorem seg_head {L : List Nat} {off n : Nat} (h : off < L.length) : seg L off (n + 1) = L.getD off 0 :: seg L (off + 1) n := by
  simp only [seg]
  rw [List.drop_eq_getElem_cons h, List.take_succ_cons]
  simp [List.getD, h]

theorem seg_zero (L : List Nat) (off : Nat) : seg L off 0 = [] := by simp [seg]

theorem seg_mem {L : List Nat} {off n x : Nat} (h : x ∈ seg L off n) : x ∈ L := List.mem_of_mem_drop (List.mem_of_mem_take h)

theorem getD_lt {l : List Nat} {B : Nat} (h : ∀ a ∈ l, a < B) (hB : 0 < B) (k : Nat) : l.getD k 0 < B := by
  by_cases hk : k < l.length
  · rw [show l.getD k 0 = l[k] by simp [List.getD, hk]]; exact h _ (List.getElem_mem hk)
  · simp [List.getD, hk]; exact hB

theorem seg_spl {L : List Nat} {off : Nat} {l : List Nat} (h : off + l.length ≤ L.length) : seg (spl L off l) off l.length = l := by
  simp only [seg, spl]
  rw [List.append_assoc, List.drop_append_of_le_length (by simp; omega), List.drop_eq_nil_of_le (by simp; omega)]
  simp

theorem seg_ext {L L' : List Nat} {o o' n : Nat} (h1 : o + n ≤ L.length) (h2 : o' + n ≤ L'.length) (h : ∀ j, j < n → L.getD (o + j) 0 = L'.getD (o' + j) 0) : seg L o n = seg L' o' n := by
  apply List.ext_getElem
  · rw [seg_length h1, seg_length h2]
  · intro i a b
    rw [seg_length h1] at a
    have := h i a
    simp only [seg, List.getElem_take, List.getElem_drop]
    simpa [List.getD, show o + i < L.length by omega, show o' + i < L'.length by omega] using this

theorem spl_mem {L : List Nat} {off : Nat} {l : List Nat} {x : Nat} (h : x ∈ spl L off l) : x ∈ L ∨ x ∈ l := by
  simp only [spl, List.mem_append] at h
  rcases h with (h | h) | h
  · exact .inl (List.mem_of_mem_take h)
  · exact .inr h
  · exact .inl (List.mem_of_mem_drop h)

/-- a callee that leaves the world alone, in a region that draws its order -/
theorem quietSame {P : Program} {f : FuncId} {args : Array Value} {w : World} {n : Nat} {v : Value}
    (h : Calls P f args (w.drewN n) fun e w' => e = .returned v ∧ w.drewN n = w') : Calls P f args (w.drewN n) fun e w'' => e = .returned v ∧ ∃ m, w'' = w.drewN m :=
  h.mono fun _ _ ⟨he, hm⟩ => ⟨he, n, hm.symm⟩

theorem Puts.setRow {k : IntKind} {w : World} {g : Nat} {L : List Nat} (h : Blk k w g L) (L' : List Nat) {c : Array Value} (hc : c = (L'.map (wd k)).toArray) : Puts k g L' w (w.setRow g c) := by
  subst hc
  refine ⟨rfl, rfl, rfl, by simp [World.setRow], fun j hj => setRow_other w g j _ hj, ?_⟩
  obtain ⟨T, h⟩ := h
  exact ⟨T, setRow_heap w g _ _ T _ h⟩

/-- copy, over blocks of numbers -/
theorem wpList_copy_puts {k : IntKind} {P : Program} {w : World} {ops : Array Oper} {rest : List Oper} {o : Oper} {a : Act} {Q : Exit → Act → World → Prop} (hgd : o.guard = none) (d s : Operand) (dT sT : TypeId)
    (ho : o.op = .call { callee := .builtin .copy, args := #[d, s], argTypes := #[dT, sT] }) (elem : TypeId) (hu : P.underlying dT = some (.slice elem)) (hsz : (P.info? elem).map (·.size) = some 1)
    (dp sp : Option Addr) (dLen dCap sLen sCap : Nat) (hd : a.eval d = .slice dp dLen dCap) (hs : a.eval s = .slice sp sLen sCap)
    (g off : Nat) (L : List Nat) (bz : Blk k w g L) (ga oa : Nat) (M : List Nat) (bx : Blk k w ga M) (n : Nat) (hn : n = Nat.min sLen dLen)
    (hpos : 0 < n → dp = some ⟨g, off, none⟩ ∧ sp = some ⟨ga, oa, none⟩) (hfit : off + n ≤ L.length) (hfit' : oa + n ≤ M.length)
    (h : ∀ w', Puts k g (spl L off (seg M oa n)) w w' → wpList P ops Q rest (a.put o.dst (goInt n)) w') :
    wpList P ops Q (o :: rest) a w := by
  by_cases h0 : n = 0
  · refine wpList_copy_nothing hgd d s dT sT ho elem hu hsz dp sp dLen dCap sLen sCap hd hs (by omega) ?_
    have := h w (by rw [h0, seg_zero, spl_nil]; exact Puts.refl bz)
    rw [h0] at this; exact this
  · obtain ⟨rfl, rfl⟩ := hpos (by omega)
    obtain ⟨T, hg⟩ := id bz
    have hl : ((seg M oa n).map (wd k)).length = n := by rw [List.length_map, seg_length hfit']
    refine wpList_copy_own hgd d s dT sT ho elem hu hsz g off dLen dCap ⟨ga, oa, none⟩ sLen sCap hd hs (L.map (wd k)).toArray T hg ((seg M oa n).map (wd k)) (by rw [hl, hn]) ?_ (by rw [hl]; simpa using hfit) ?_ ?_
    · intro j v hj
      have hjn : j < n := by
        have := (List.getElem?_eq_some_iff.1 hj).1; omega
      have := bx.cell (o := oa + j) (by omega)
      rw [← seg_getD hjn] at this
      rw [show (⟨ga, oa, none⟩ : Addr).add j = ⟨ga, oa + j, none⟩ from by simp [Addr.add], this, ← hj]
      have hjl : j < (seg M oa n).length := by rw [seg_length hfit']; exact hjn
      simp [List.getD, hjl]
    · intro v hv
      obtain ⟨x, _, rfl⟩ := List.mem_map.1 hv
      rfl
    · rw [hl]
      refine h _ (Puts.setRow bz _ ?_)
      simp [spl, seg_length hfit', List.map_take, List.map_drop]

theorem run_neq_ptr_other {P : Program} (w : World) {tp te : TypeId} {j : TypeInfo} {a b : Addr} {ca cb : Array Value} {ta tb : TypeId} (hp : P.underlying tp = some (.pointer te)) (hte : P.info? te = some j) (hsz : j.size ≠ 0)
    (hne : a ≠ b) (ha : w.heap[a.block]? = some (.cells ca ta (0, 0))) (hb : w.heap[b.block]? = some (.cells cb tb (0, 0))) :
    (binOp .neq tp (.pointer (some a)) (.pointer (some b))).run P w = .ok (.bool true) w := by
  have h := run_eql_ptr_other w hp hte hsz hne ha hb
  simp only [binOp] at h ⊢
  have h2 : ∀ d : Nat, (Op.equalIn (d + 1) tp (.pointer (some a)) (.pointer (some b))).run P w = .ok false w := fun d => by
    simp [Op.equalIn, run_underlying hp, sizeOf, typeInfo, hte, hsz, run_sameAddr_other w hne ha hb]
  simp [Op.equal, Op.maxDepth, h2 9999]

/-- two blocks of numbers are not one: their addresses differ -/
theorem Blk.neq {k k' : IntKind} {P : Program} {w : World} {g g' o o' : Nat} {L L' : List Nat} (h : Blk k w g L) (h' : Blk k' w g' L') (hne : g ≠ g') {tp te : TypeId} (hp : P.underlying tp = some (.pointer te))
    (hsz : (P.info? te).map (·.size) = some 1) :
    (binOp .neq tp (.pointer (some ⟨g, o, none⟩)) (.pointer (some ⟨g', o', none⟩))).run P w = .ok (.bool true) w := by
  obtain ⟨T, h⟩ := h
  obtain ⟨T', h'⟩ := h'
  cases hq : P.info? te with
  | none => simp [hq] at hsz
  | some i => exact run_neq_ptr_other w hp hq (by simp [hq] at hsz; omega) (fun e => hne (congrArg Addr.block e)) h h'

theorem Blk.eql {k k' : IntKind} {P : Program} {w : World} {g g' o o' : Nat} {L L' : List Nat} (h : Blk k w g L) (h' : Blk k' w g' L') (hne : g ≠ g') {tp te : TypeId} (hp : P.underlying tp = some (.pointer te))
    (hsz : (P.info? te).map (·.size) = some 1) :
    (binOp .eql tp (.pointer (some ⟨g, o, none⟩)) (.pointer (some ⟨g', o', none⟩))).run P w = .ok (.bool false) w := by
  obtain ⟨T, h⟩ := h
  obtain ⟨T', h'⟩ := h'
  cases hq : P.info? te with
  | none => simp [hq] at hsz
  | some i => exact run_eql_ptr_other w hp hq (by simp [hq] at hsz; omega) (fun e => hne (congrArg Addr.block e)) h h'

end Go.Proofs.YtjjolcjeiogdmabGreatDoor

/- Words that the texts of both number packages share. -/
namespace Go.Proofs.YtjjolcjeiogdmabGreatDoor
open Go.RowKit

/-- no word of 0 at the end -/
def Norm (l : List Nat) : Prop := ∀ k, l.length = k + 1 → l.getD k 0 ≠ 0

theorem Norm.nil : Norm [] := fun k h => by simp at h

/-- l without words of 0 at its end -/
def normL (l : List Nat) : List Nat := l.take (normK l l.length)
where
  normK (l : List Nat) : Nat → Nat
    | 0 => 0
    | k + 1 => if l.getD k 0 = 0 then normK l k else k + 1

theorem normK_le (l : List Nat) : ∀ n, normL.normK l n ≤ n
  | 0 => Nat.le_refl _
  | n + 1 => by simp only [normL.normK]; split; have := normK_le l n; omega; omega

theorem normK_norm (l : List Nat) : ∀ n, n ≤ l.length → Norm (l.take (normL.normK l n))
  | 0, _ => by simp only [normL.normK, List.take_zero]; exact Norm.nil
  | n + 1, h => by
    simp only [normL.normK]; split
    · exact normK_norm l n (by omega)
    · rename_i h0
      intro k hk
      have : k = n := by simp at hk; omega
      subst this
      rw [show (l.take (k + 1)).getD k 0 = l.getD k 0 by simp [List.getD]]
      exact h0

/-- how two numbers compare -/
def cmpN (a b : Nat) : Int := if a < b then -1 else if b < a then 1 else 0

theorem cmpN_lt {a b : Nat} (h : a < b) : cmpN a b = -1 := if_pos h

theorem cmpN_gt {a b : Nat} (h : b < a) : cmpN a b = 1 := by unfold cmpN; rw [if_neg (by omega), if_pos h]

theorem cmpN_eq (a : Nat) : cmpN a a = 0 := by unfold cmpN; rw [if_neg (by omega), if_neg (by omega)]

/-- the call only reads, and returns v -/
def Quiet (w : World) (v : Value) (e : Ending) (w' : World) : Prop := e = .returned v ∧ ∃ n, w' = w.drewN n

theorem quietOf {P : Program} {f : FuncId} {args : Array Value} {w : World} {n : Nat} {v : Value}
    (h : Calls P f args (w.drewN n) (Quiet (w.drewN n) v)) : Calls P f args (w.drewN n) fun e w'' => e = .returned v ∧ ∃ m, w'' = w.drewN m :=
  h.mono fun _ _ ⟨he, m, hm⟩ => ⟨he, n + m, by rw [hm, World.drewN_drewN]⟩

theorem cell?_setCell_eq {w : World} {p : Addr} {v : Value} (hs : p.spot = none) (h : (w.cell? p).isSome = true) : (w.setCell p v).cell? p = some v := by
  unfold World.cell? at h ⊢
  simp only [World.setCell, Array.getElem?_modify]
  cases hb : w.heap[p.block]? with
  | none => simp [hb] at h
  | some o =>
    cases o <;> simp_all

theorem cell?_setCell_ne {w : World} {p q : Addr} {v : Value} (h : q.block ≠ p.block ∨ q.off ≠ p.off) : (w.setCell p v).cell? q = w.cell? q := by
  unfold World.cell?
  simp only [World.setCell, Array.getElem?_modify]
  by_cases hb : p.block = q.block
  · rcases h with h | h
    · exact absurd hb.symm h
    · rw [if_pos hb]
      cases hq : w.heap[q.block]? with
      | none => simp
      | some o =>
        cases o <;> simp
        split
        · rfl
        · split
          · rfl
          · rw [Array.getElem?_setIfInBounds_ne (by omega)]
  · rw [if_neg hb]

end Go.Proofs.YtjjolcjeiogdmabGreatDoor

/- Natural numbers as limbs of nine decimal digits: values, without a program. -/
namespace Go.Proofs.YtjjolcjeiogdmabGreatDoor
open Go.RowKit

/-- the number of limbs of nine digits, the lowest ones first -/
def sval : List Nat → Nat
  | [] => 0
  | x :: xs => x + 1000000000 * sval xs

/-- a power of the limb -/
def spow (n : Nat) : Nat := 1000000000 ^ n

theorem spow_zero : spow 0 = 1 := rfl
theorem spow_succ (n : Nat) : spow (n + 1) = 1000000000 * spow n := by unfold spow; rw [Nat.pow_succ, Nat.mul_comm]
theorem spow_add (m n : Nat) : spow (m + n) = spow m * spow n := by unfold spow; rw [Nat.pow_add]
theorem spow_pos (n : Nat) : 0 < spow n := by unfold spow; exact Nat.pow_pos (by omega)
theorem spow_mono {m n : Nat} (h : m ≤ n) : spow m ≤ spow n := by unfold spow; exact Nat.pow_le_pow_right (by omega) h
theorem spow_lt {m n : Nat} (h : m < n) : spow m < spow n := by unfold spow; exact Nat.pow_lt_pow_right (by omega) h
theorem spow_ten (n : Nat) : spow n = 10 ^ (9 * n) := by unfold spow; rw [Nat.pow_mul]

theorem sval_append (xs ys : List Nat) : sval (xs ++ ys) = sval xs + spow xs.length * sval ys := by
  induction xs with
  | nil => simp [sval, spow_zero]
  | cons x xs ih =>
    simp only [List.cons_append, sval, ih, List.length_cons, spow_succ, Nat.mul_add, Nat.mul_assoc]
    omega

/-- all limbs are less than ten to the power of nine -/
def Lim (l : List Nat) : Prop := ∀ x ∈ l, x < 1000000000

theorem Lim.nil : Lim [] := fun x h => by cases h
theorem Lim.append {l m : List Nat} (h : Lim l) (k : Lim m) : Lim (l ++ m) := fun x hx => by
  rcases List.mem_append.1 hx with h1 | h1
  · exact h x h1
  · exact k x h1
theorem Lim.one {x : Nat} (h : x < 1000000000) : Lim [x] := fun y hy => by simp at hy; subst hy; exact h
theorem Lim.take {l : List Nat} (h : Lim l) (n : Nat) : Lim (l.take n) := fun x hx => h x (List.mem_of_mem_take hx)
theorem Lim.drop {l : List Nat} (h : Lim l) (n : Nat) : Lim (l.drop n) := fun x hx => h x (List.mem_of_mem_drop hx)
theorem Lim.getD {l : List Nat} (h : Lim l) (k : Nat) : l.getD k 0 < 1000000000 := getD_lt h (by omega) k

theorem sval_lt {xs : List Nat} (h : Lim xs) : sval xs < spow xs.length := by
  induction xs with
  | nil => simp [sval, spow_zero]
  | cons x xs ih =>
    have h1 := ih (fun a ha => h a (List.mem_cons_of_mem _ ha))
    have h2 := h x (List.mem_cons_self ..)
    simp only [sval, List.length_cons, spow_succ]
    omega

theorem sval_take_succ {l : List Nat} {k : Nat} (h : k < l.length) : sval (l.take (k + 1)) = sval (l.take k) + spow k * l.getD k 0 := by
  have e : l.take (k + 1) = l.take k ++ [l.getD k 0] := by
    rw [List.take_succ_eq_append_getElem h]; simp [List.getD, h]
  rw [e, sval_append]
  simp [sval, Nat.min_eq_left (Nat.le_of_lt h)]

theorem Norm.s_ge {l : List Nat} (h : Norm l) {k : Nat} (hk : l.length = k + 1) : spow k ≤ sval l := by
  have h1 := sval_take_succ (l := l) (k := k) (by omega)
  rw [← hk, List.take_length] at h1
  have h2 := h k hk
  have : spow k * 1 ≤ spow k * l.getD k 0 := Nat.mul_le_mul_left _ (by omega)
  omega

theorem Norm.s_len_le {l : List Nat} (h : Norm l) {k : Nat} (hv : sval l < spow k) : l.length ≤ k := by
  rcases Nat.lt_or_ge k l.length with hlt | hge
  · exfalso
    obtain ⟨j, hj⟩ : ∃ j, l.length = j + 1 := ⟨l.length - 1, by omega⟩
    have := h.s_ge hj
    have := spow_mono (m := k) (n := j) (by omega)
    omega
  · exact hge

theorem sval_nil_of {l : List Nat} (h : Norm l) (hv : sval l = 0) : l = [] := by
  have := h.s_len_le (k := 0) (by rw [hv]; exact spow_pos 0)
  exact List.eq_nil_of_length_eq_zero (by omega)

theorem sval_pos_iff {l : List Nat} (h : Norm l) : 0 < l.length ↔ 0 < sval l := by
  constructor
  · intro hl
    obtain ⟨j, hj⟩ : ∃ j, l.length = j + 1 := ⟨l.length - 1, by omega⟩
    have := h.s_ge hj
    have := spow_pos j
    omega
  · intro hv
    rcases Nat.eq_zero_or_pos l.length with h0 | h0
    · rw [List.eq_nil_of_length_eq_zero h0] at hv; simp [sval] at hv
    · exact h0

theorem sval_cmp_len {l m : List Nat} (hl : Norm l) (hm : Lim m) (h : m.length < l.length) : sval m < sval l := by
  obtain ⟨j, hj⟩ : ∃ j, l.length = j + 1 := ⟨l.length - 1, by omega⟩
  have h1 := hl.s_ge hj
  have h2 := sval_lt hm
  have h3 := spow_mono (m := m.length) (n := j) (by omega)
  omega

theorem sval_lt_at {xs ys : List Nat} (hx : Lim xs) {k : Nat} (hk : k < xs.length) (hl : xs.length = ys.length) (hd : ∀ j, k < j → j < xs.length → xs.getD j 0 = ys.getD j 0) (h : xs.getD k 0 < ys.getD k 0) : sval xs < sval ys := by
  have e : xs.drop (k + 1) = ys.drop (k + 1) := ext_getD (by simp [hl]) (fun i hi => by
    simp only [List.length_drop] at hi
    simp only [List.getD_eq_getElem?_getD, List.getElem?_drop]
    have := hd (k + 1 + i) (by omega) (by omega)
    simpa [List.getD_eq_getElem?_getD] using this)
  have ex : sval xs = sval (xs.take (k + 1)) + spow (k + 1) * sval (xs.drop (k + 1)) := by
    have := sval_append (xs.take (k + 1)) (xs.drop (k + 1))
    rwa [List.take_append_drop, List.length_take, Nat.min_eq_left (by omega)] at this
  have ey : sval ys = sval (ys.take (k + 1)) + spow (k + 1) * sval (ys.drop (k + 1)) := by
    have := sval_append (ys.take (k + 1)) (ys.drop (k + 1))
    rwa [List.take_append_drop, List.length_take, Nat.min_eq_left (by omega)] at this
  rw [ex, ey, e, sval_take_succ (by omega), sval_take_succ (by omega)]
  have h1 := sval_lt (hx.take k)
  rw [List.length_take, Nat.min_eq_left (by omega)] at h1
  have h2 : spow k * (xs.getD k 0) + spow k ≤ spow k * (ys.getD k 0) := by
    rw [← Nat.mul_succ]; exact Nat.mul_le_mul_left _ (by omega)
  omega

theorem scmp_at_lt {xs ys : List Nat} (hx : Lim xs) (hl : xs.length = ys.length) {k : Nat} (hk : k < xs.length) (hd : ∀ j, k < j → j < xs.length → xs.getD j 0 = ys.getD j 0) (h : xs.getD k 0 < ys.getD k 0) : cmpN (sval xs) (sval ys) = -1 :=
  cmpN_lt (sval_lt_at hx hk hl hd h)

theorem scmp_at_gt {xs ys : List Nat} (hy : Lim ys) (hl : xs.length = ys.length) {k : Nat} (hk : k < xs.length) (hd : ∀ j, k < j → j < xs.length → xs.getD j 0 = ys.getD j 0) (h : ys.getD k 0 < xs.getD k 0) : cmpN (sval xs) (sval ys) = 1 :=
  cmpN_gt (sval_lt_at hy (by omega) hl.symm (fun j h1 h2 => (hd j h1 (by omega)).symm) h)

theorem normK_sval (l : List Nat) : ∀ n, n ≤ l.length → sval (l.take (normL.normK l n)) = sval (l.take n)
  | 0, _ => rfl
  | n + 1, h => by
    simp only [normL.normK]; split
    · rename_i h0
      rw [normK_sval l n (by omega), sval_take_succ (by omega), h0]; simp
    · rfl

theorem normL_sval (l : List Nat) : sval (normL l) = sval l := by
  unfold normL; rw [normK_sval l _ (Nat.le_refl _), List.take_length]

theorem normL_norm (l : List Nat) : Norm (normL l) := normK_norm l _ (Nat.le_refl _)

/-- slices of limbs: what the slice v reads as -/
def SNat (w : World) (v : Value) (l : List Nat) : Prop :=
  Lim l ∧ l.length ≤ 1000000 ∧ ((v = .slice none 0 0 ∧ l = []) ∨
    ∃ g cap cur T, v = .slice (some ⟨g, 0, none⟩) l.length cap ∧ w.heap[g]? = some (.cells cur T (0, 0)) ∧ l.length ≤ cap ∧ cap ≤ 9223372036854775807 ∧ cap ≤ cur.size ∧ cur.toList.take l.length = l.map (wd .u32))

theorem SNat.lim {w : World} {v : Value} {l : List Nat} (h : SNat w v l) : Lim l := h.1
theorem SNat.len {w : World} {v : Value} {l : List Nat} (h : SNat w v l) : l.length ≤ 1000000 := h.2.1
theorem SNat.nil (w : World) : SNat w (.slice none 0 0) [] := ⟨Lim.nil, by simp, .inl ⟨rfl, rfl⟩⟩

theorem SNat.form {w : World} {v : Value} {l : List Nat} (h : SNat w v l) : ∃ a cap, v = .slice a l.length cap := by
  rcases h.2.2 with ⟨rfl, rfl⟩ | ⟨g, cap, cur, T, rfl, _⟩
  · exact ⟨none, 0, rfl⟩
  · exact ⟨_, _, rfl⟩

theorem SNat.keep {S : Nat → Prop} {w w' : World} {v : Value} {l : List Nat} (h : SNat w v l) (hk : Keep S w w') (hs : ∀ g, v.ownBlock = some g → ¬ S g) : SNat w' v l := by
  refine ⟨h.1, h.2.1, ?_⟩
  rcases h.2.2 with h0 | ⟨g, cap, cur, T, rfl, hg, hr⟩
  · exact .inl h0
  · refine .inr ⟨g, cap, cur, T, rfl, ?_, hr⟩
    have hlt : g < w.heap.size := by
      rcases Nat.lt_or_ge g w.heap.size with hlt | hge
      · exact hlt
      · rw [Array.getElem?_eq_none hge] at hg; cases hg
    rw [hk.block g hlt (hs g rfl)]; exact hg

theorem SNat.fresh {w w' : World} {v : Value} {l : List Nat} (h : SNat w v l) (hk : Fresh w w') : SNat w' v l := h.keep hk (fun _ _ h => h)
theorem SNat.drewN {w : World} {v : Value} {l : List Nat} (h : SNat w v l) (n : Nat) : SNat (w.drewN n) v l := h
theorem SNat.drew {w : World} {v : Value} {l : List Nat} (h : SNat w v l) : SNat w.drew v l := h

theorem SNat.open_pos {w : World} {v : Value} {l : List Nat} (h : SNat w v l) (hn : 0 < l.length) :
    ∃ g cap, v = .slice (some ⟨g, 0, none⟩) l.length cap ∧ l.length ≤ cap ∧ cap ≤ 9223372036854775807 ∧ g < w.heap.size ∧ ∀ i, i < l.length → w.cell? ⟨g, i, none⟩ = some (wd .u32 (l.getD i 0)) := by
  rcases h.2.2 with ⟨_, rfl⟩ | ⟨g, cap, cur, T, rfl, hg, h1, h2, h3, h4⟩
  · simp at hn
  · refine ⟨g, cap, rfl, h1, h2, ?_, fun i hi => ?_⟩
    · rcases Nat.lt_or_ge g w.heap.size with hlt | hge
      · exact hlt
      · rw [Array.getElem?_eq_none hge] at hg; cases hg
    · rw [cell_of_row w g i cur T _ hg]
      have e := congrArg (fun L => L[i]?) h4
      simp only [List.getElem?_take, List.getElem?_map] at e
      rw [if_pos hi] at e
      rw [← Array.getElem?_toList, e, List.getElem?_eq_getElem hi]
      simp [List.getD, hi]

/-- a shorter slice of the same row -/
theorem SNat.cut {w : World} {g cap : Nat} {l : List Nat} (h : SNat w (.slice (some ⟨g, 0, none⟩) l.length cap) l) {n : Nat} (hn : n ≤ l.length) : SNat w (.slice (some ⟨g, 0, none⟩) n cap) (l.take n) := by
  have hl : (l.take n).length = n := by simp; omega
  refine ⟨h.1.take n, by have := h.2.1; omega, ?_⟩
  rcases h.2.2 with ⟨h0, _⟩ | ⟨g', cap', cur, T, he, hg, h1, h2, h3, h4⟩
  · cases h0
  · cases he
    refine .inr ⟨g, cap, cur, T, by rw [hl], hg, by omega, h2, h3, ?_⟩
    rw [hl]
    have := congrArg (fun L => L.take n) h4
    simp only [List.take_take, Nat.min_eq_left hn] at this
    rw [this, List.map_take]

/-- a row that was filled by append -/
theorem SNat.of_owns {w : World} {B T n : Nat} {v : Value} {l : List Nat} (h : w.ownsRow B T 1 v n (l.map (wd .u32))) (hl : Lim l) (hn : l.length ≤ 1000000) : SNat w v l := by
  obtain ⟨h1, h2⟩ := h
  simp only [List.length_map, Nat.mul_one] at h1
  refine ⟨hl, hn, ?_⟩
  rcases h2 with ⟨h0, hn0⟩ | ⟨g, cap, cur, rfl, _, hg, h3, h4, h5, h6⟩
  · exact .inl ⟨h0, List.eq_nil_of_length_eq_zero (by omega)⟩
  · refine .inr ⟨g, cap, cur, T, by rw [h1], hg, by omega, by unfold maxLen at h4; omega, by omega, ?_⟩
    rw [h1]; rw [Nat.mul_one] at h6; exact h6

/-- a block that was made and written -/
theorem SNat.of_blk {w : World} {g : Nat} {l : List Nat} (h : Blk .u32 w g l) (hl : Lim l) (hn : l.length ≤ 1000000) : SNat w (.slice (some ⟨g, 0, none⟩) l.length l.length) l := by
  obtain ⟨T, hT⟩ := h
  exact ⟨hl, hn, .inr ⟨g, l.length, _, T, rfl, hT, Nat.le_refl _, by omega, by simp, List.take_of_length_le (by simp)⟩⟩

/-- the call returns a natural number, in canonical form; nothing that was there is changed -/
def SRet (w : World) (n : Nat) (e : Ending) (w' : World) : Prop := ∃ v l, e = .returned v ∧ SNat w' v l ∧ Norm l ∧ sval l = n ∧ Fresh w w'

end Go.Proofs.YtjjolcjeiogdmabGreatDoor

/- The contracts of the reference's natural numbers: natTrim, NatCmp, NatFrom. -/
namespace Go.Proofs.YtjjolcjeiogdmabGreatDoor
open Go.RowKit

theorem info_u32 : (Tryz.prog.info? 78).map (fun i => (i.zero, i.size, i.bytes)) = some (some (.int .u32 0), 1, 4) := by kernel_rfl

set_option maxHeartbeats 400000 in
theorem natTrim_any (v : Value) (l : List Nat) (w : World) (h : SNat w v l) : Calls Tryz.prog 42 #[v] w (SRet w (sval l)) := by
  by_cases h0 : l.length = 0
  · obtain rfl : l = [] := List.eq_nil_of_length_eq_zero h0
    obtain ⟨a, c, rfl⟩ := h.form
    have H_h := Lib.hid h
    clear h h0
    go_enter Tryz.func42, Tryz.ntmps42
    go_wp2
    refine wp_loop_rounds 1 ?_
    rw [rounds_succ]
    go_wp2
    go_ret
    exact ⟨_, [], rfl, H_h.out, Norm.nil, rfl, Keep.refl _ _⟩
  · obtain ⟨g, cap, rfl, h1, h2, h3, h4⟩ := h.open_pos (by omega)
    have hlen := h.len
    generalize hn : l.length = n at *
    have H_h := Lib.hid h; clear h
    have H_h4 := Lib.hid h4; clear h4
    go_enter Tryz.func42, Tryz.ntmps42
    go_wp2
    go_loop [0] (fun v => ∃ k : Nat, k ≤ n ∧ v = .slice (some ⟨g, 0, none⟩) k cap ∧ Hid (normL.normK l n = normL.normK l k)) (fun v => match v with | .slice _ m _ => m | _ => 0)
    case atStart => exact ⟨n, Nat.le_refl _, rfl, rfl⟩
    case round =>
      obtain ⟨k, hk, rfl, he⟩ := hrel
      cases k with
      | zero =>
        go_wp2
        go_ret
        have hc := SNat.cut (w := w) (l := l) (by rw [hn]; exact H_h.out) (n := 0) (by omega)
        have hv : sval (normL l) = sval l := normL_sval l
        have hz : normL l = l.take 0 := by unfold normL; rw [hn, he.out]; rfl
        exact ⟨_, l.take 0, rfl, hc, by rw [← hz]; exact normL_norm l, by rw [← hz]; exact hv, Keep.refl _ _⟩
      | succ k =>
        have hc := H_h4.out k (by omega)
        generalize hx : l.getD k 0 = x at *
        have H_hx := Lib.hid hx
        clear hx
        have e1 : ((k : Int) + 1 - 1) = (k : Int) := by omega
        have e2 : ((k : Int) + 1 - 1).toNat = k := by omega
        by_cases hx0 : x = 0
        · have ht : ((x : Int) == 0) = true := by subst hx0; rfl
          have H_hx0 := Lib.hid hx0
          clear hx0
          go_wp2
          go_round
          case rel =>
            refine ⟨k, by omega, by simp, ?_⟩
            have := he.out
            simp only [normL.normK] at this
            rw [if_pos (by rw [H_hx.out]; exact H_hx0.out)] at this
            exact this
          case measure => simp
        · have ht : ((x : Int) == 0) = false := by rw [beq_eq_false_iff_ne]; omega
          have H_hx0 := Lib.hid hx0
          clear hx0
          go_wp2
          go_ret
          have hc := SNat.cut (w := w) (l := l) (by rw [hn]; exact H_h.out) (n := k + 1) (by omega)
          have hz : normL l = l.take (k + 1) := by
            unfold normL; rw [hn, he.out]; simp only [normL.normK]; rw [if_neg (by rw [H_hx.out]; exact H_hx0.out)]
          exact ⟨_, l.take (k + 1), rfl, hc, by rw [← hz]; exact normL_norm l, by rw [← hz]; exact normL_sval l, Keep.refl _ _⟩

end Go.Proofs.YtjjolcjeiogdmabGreatDoor

/- The contracts of the reference's natural numbers: NatFrom, NatCmp. -/
namespace Go.Proofs.YtjjolcjeiogdmabGreatDoor
open Go.RowKit

theorem scmp_eq {xs ys : List Nat} (hl : xs.length = ys.length) (hd : ∀ j, j < xs.length → xs.getD j 0 = ys.getD j 0) : cmpN (sval xs) (sval ys) = 0 := by
  have : xs = ys := ext_getD hl hd
  rw [this]; exact cmpN_eq _

set_option maxRecDepth 20000 in
set_option maxHeartbeats 1000000 in
theorem NatCmp_any (xv yv : Value) (xs ys : List Nat) (w : World) (hx : SNat w xv xs) (hy : SNat w yv ys) (hnx : Norm xs) (hny : Norm ys) :
    Calls Tryz.prog 37 #[xv, yv] w (Quiet w (.int .i64 (cmpN (sval xs) (sval ys)))) := by
  have hlx := hx.len
  have hly := hy.len
  rcases Nat.lt_trichotomy xs.length ys.length with hlt | heq | hgt
  · rw [cmpN_lt (sval_cmp_len hny hx.lim hlt)]
    obtain ⟨ax, cx, hxv⟩ := hx.form
    obtain ⟨ay, cy, hyv⟩ := hy.form
    generalize xs.length = m at *
    generalize ys.length = n at *
    subst hxv hyv
    have H_hx := Lib.hid hx; clear hx
    have H_hy := Lib.hid hy; clear hy
    have H_hnx := Lib.hid hnx; clear hnx
    have H_hny := Lib.hid hny; clear hny
    have t1 : ((m : Int) == (n : Int)) = false := by rw [beq_eq_false_iff_ne]; omega
    go_enter Tryz.func37, Tryz.ntmps37
    go_wp2
    go_ret
    exact ⟨rfl, 0, rfl⟩
  · by_cases h0 : xs.length = 0
    · have h1 : ys.length = 0 := by omega
      obtain rfl : xs = [] := List.eq_nil_of_length_eq_zero h0
      obtain rfl : ys = [] := List.eq_nil_of_length_eq_zero h1
      obtain ⟨ax, cx, rfl⟩ := hx.form
      obtain ⟨ay, cy, rfl⟩ := hy.form
      rw [cmpN_eq]
      clear hx hy hnx hny heq h0 h1 hlx hly
      go_enter Tryz.func37, Tryz.ntmps37
      go_wp2
      refine wp_loop_rounds 1 ?_
      rw [rounds_succ]
      go_wp2
      go_ret
      exact ⟨rfl, 0, rfl⟩
    · obtain ⟨gx, cx, rfl, hx1, hx2, hx3, hcx⟩ := hx.open_pos (by omega)
      obtain ⟨gy, cy, rfl, hy1, hy2, hy3, hcy⟩ := hy.open_pos (by omega)
      have limx := hx.lim
      have limy := hy.lim
      rw [← heq] at hcy hy1 hly ⊢
      have e1 := heq
      generalize hm : xs.length = m at *
      have hm0 : ((m : Int) == (m : Int)) = true := by simp
      have H_hx := Lib.hid hx; clear hx
      have H_hy := Lib.hid hy; clear hy
      have H_hnx := Lib.hid hnx; clear hnx
      have H_hny := Lib.hid hny; clear hny
      have H_hcx := Lib.hid hcx; clear hcx
      have H_hcy := Lib.hid hcy; clear hcy
      have H_limx := Lib.hid limx; clear limx
      have H_limy := Lib.hid limy; clear limy
      have H_hm := Lib.hid hm; clear hm
      have H_e1 := Lib.hid e1; clear e1
      clear heq
      go_enter Tryz.func37, Tryz.ntmps37
      go_wp2_with (fail)
      go_loopw [5] (fun i wr => ∃ k : Nat, k ≤ m ∧ i = .int .i64 ((k : Int) - 1) ∧ Hid (∀ j, k ≤ j → j < m → xs.getD j 0 = ys.getD j 0) ∧ ∃ nd, wr = w.drewN nd) (fun i _ => (intOf i + 1).toNat)
      case atStart => exact ⟨m, by omega, by simp, fun j h1 h2 => by omega, 0, rfl⟩
      case round =>
        obtain ⟨k, hk, rfl, hag, nd, rfl⟩ := hrel
        cases k with
        | zero =>
          have hres : cmpN (sval xs) (sval ys) = 0 := scmp_eq (by rw [H_hm.out]; exact H_e1.out) (fun j hj => hag.out j (by omega) (by rw [H_hm.out] at hj; exact hj))
          have H_hres := Lib.hid hres; clear hres
          go_wp2_with (fail)
          go_ret
          exact ⟨by rw [H_hres.out]; rfl, nd, rfl⟩
        | succ k =>
          have ek : (((k + 1 : Nat) : Int) - 1) = (k : Int) := by omega
          rw [ek]
          have hcx := H_hcx.out k (by omega)
          have hcy := H_hcy.out k (by omega)
          generalize hx : xs.getD k 0 = x at *
          generalize hy : ys.getD k 0 = y at *
          have H_hx := Lib.hid hx; clear hx
          have H_hy := Lib.hid hy; clear hy
          have hk0 : (0 : Int) ≤ (k : Int) := by omega
          have hkm : (k : Int) < (m : Int) := by omega
          rcases Nat.lt_trichotomy x y with hlt | heq | hgt
          · have res := scmp_at_lt H_limx.out (by rw [H_hm.out]; exact H_e1.out) (k := k) (by rw [H_hm.out]; omega) (fun j h1 h2 => hag.out j h1 (by rw [H_hm.out] at h2; exact h2)) (by rw [H_hx.out, H_hy.out]; exact hlt)
            have t1 : ((x : Int) == (y : Int)) = false := by rw [beq_eq_false_iff_ne]; omega
            have t2 : decide (x < y) = true := by simpa using hlt
            have H_res := Lib.hid res; clear res
            go_wp2_with (go_quiet (fail))
            go_ret
            exact ⟨by rw [H_res.out]; rfl, _, by simp only [World.drewN_drewN]; rfl⟩
          · subst heq
            have t1 : ((x : Int) == (x : Int)) = true := by simp
            go_wp2_with (go_quiet (fail))
            go_roundw
            case rel =>
              refine ⟨k, by omega, rfl, fun j h1 h2 => ?_, _, rfl⟩
              by_cases e : j = k
              · subst e; rw [H_hx.out, H_hy.out]
              · exact hag.out j (by omega) h2
            case measure => simp [intOf]
          · have res := scmp_at_gt H_limy.out (by rw [H_hm.out]; exact H_e1.out) (k := k) (by rw [H_hm.out]; omega) (fun j h1 h2 => hag.out j h1 (by rw [H_hm.out] at h2; exact h2)) (by rw [H_hx.out, H_hy.out]; exact hgt)
            have t1 : ((x : Int) == (y : Int)) = false := by rw [beq_eq_false_iff_ne]; omega
            have t2 : decide (x < y) = false := by simp; omega
            have t3 : decide (y < x) = true := by simpa using hgt
            have H_res := Lib.hid res; clear res
            go_wp2_with (go_quiet (fail))
            go_ret
            exact ⟨by rw [H_res.out]; rfl, _, by simp only [World.drewN_drewN]; rfl⟩
  · rw [cmpN_gt (sval_cmp_len hnx hy.lim hgt)]
    obtain ⟨ax, cx, hxv⟩ := hx.form
    obtain ⟨ay, cy, hyv⟩ := hy.form
    generalize xs.length = m at *
    generalize ys.length = n at *
    subst hxv hyv
    have H_hx := Lib.hid hx; clear hx
    have H_hy := Lib.hid hy; clear hy
    have H_hnx := Lib.hid hnx; clear hnx
    have H_hny := Lib.hid hny; clear hny
    have t1 : ((m : Int) == (n : Int)) = false := by rw [beq_eq_false_iff_ne]; omega
    go_enter Tryz.func37, Tryz.ntmps37
    go_wp2
    go_ret
    exact ⟨rfl, 0, rfl⟩

end Go.Proofs.YtjjolcjeiogdmabGreatDoor

/- The contracts of the reference's natural numbers: NatFrom. -/
namespace Go.Proofs.YtjjolcjeiogdmabGreatDoor
open Go.RowKit

theorem norm_snoc {l : List Nat} {x : Nat} (h : 0 < x) : Norm (l ++ [x]) := by
  intro k hk
  have : k = l.length := by simp at hk; omega
  subst this
  rw [getD_append]; simp; omega

theorem Fresh.owns {w wr w1 : World} {B T n : Nat} {v : Value} {xs : List Value} (h : Fresh w wr) (ho : wr.ownsRow B T 1 v n xs) (hB : w.heap.size ≤ B) (hg : wr.grownBy w1 v.ownBlock) : Fresh w w1 := by
  refine h.trans (T := fun k => v.ownBlock = some k) ⟨hg.os, hg.tape, hg.output, hg.size, fun k hk hs => hg.block k hk (fun e => hs e.symm)⟩ (fun _ _ h => h) (fun k hk hs => ?_)
  have := (ho.lt k hs).1
  omega

set_option maxRecDepth 20000 in
set_option maxHeartbeats 1000000 in
theorem NatFrom_any (n : Nat) (w : World) (hn : n < 18446744073709551616) : Calls Tryz.prog 31 #[.int .u64 n] w (SRet w n) := by
  obtain ⟨i0, hi, hz0, hz1, hz2⟩ := info_parts info_u32
  go_enter Tryz.func31, Tryz.ntmps31
  go_wp2
  go_loopw [0, 3] (fun i v wr => ∃ (k : Nat) (l : List Nat), k < 18446744073709551616 ∧ i = .int .u64 k ∧ wr.ownsRow w.heap.size 78 1 v l.length (l.map (wd .u32)) ∧ Hid (Lim l) ∧ Hid (l.length ≤ 1000) ∧ Hid (sval l + spow l.length * k = n) ∧ Hid (k = 0 → Norm l) ∧ Hid (Fresh w wr)) (fun i _ _ => (intOf i).toNat)
  case atStart => exact ⟨n, [], hn, rfl, World.ownsRow_nil _ _ _ _, Lim.nil, Lib.hid (by simp), Lib.hid (by simp [sval, spow_zero]), fun _ => Norm.nil, Keep.refl _ _⟩
  case round =>
    obtain ⟨k, l, hk, rfl, hown, hlim, hlen, hval, hnorm, hf⟩ := hrel
    have H_hown := Lib.hid hown
    by_cases hk0 : k = 0
    · have t1 : decide (0 < k) = false := by simp [hk0]
      have H_hk0 := Lib.hid hk0
      clear hk0 hown
      go_wp2_with (fail)
      go_ret
      refine ⟨_, l, rfl, SNat.of_owns H_hown.out hlim.out (by have := hlen.out; omega), hnorm.out H_hk0.out, ?_, hf.out⟩
      have := hval.out
      rw [H_hk0.out] at this; simpa using this
    · have t1 : decide (0 < k) = true := by simp; omega
      have hlb : l.length ≤ 3 := by
        have h1 := hval.out
        rcases Nat.lt_or_ge 3 l.length with h2 | h2
        · have h3 := spow_mono (m := 3) (n := l.length) (by omega)
          have h4 : spow 3 = 1000000000000000000000000000 := rfl
          have h5 : spow l.length * 1 ≤ spow l.length * k := Nat.mul_le_mul_left _ (by omega)
          omega
        · exact h2
      have hsz := hf.out.size
      go_wp2_with (at_builtin; refine wpList_append_own _ rfl _ _ 30 rfl w.heap.size 78 i0 (.int .u32 0) 1 4 Tryz.underlying30 hi hz0 hz1 hz2 rfl (by decide) _ _ _ rfl (hown.alloc _) ⟨wr.heap.size, 0, none⟩ 1 1 [wd .u32 (k % 1000000000)] rfl rfl ?c1 ?c2 ?c3 ?c4 ?c5 ?_)
      case c1 =>
        intro j u hj
        match j, hj with
        | 0, hj => simp at hj; subst hj; simp [Addr.add, wd]
      case c2 => intro u hu; simp at hu; subst hu; rfl
      case c3 => unfold maxLen; omega
      case c4 => omega
      case c5 => simp; omega
      · intro v' w1 hown' hgrow _
        have hf1 : Fresh w w1 := Fresh.owns (hf.out.alloc _) (H_hown.out.alloc _) (Nat.le_refl _) hgrow
        have hL : (l ++ [k % 1000000000]).length = l.length + 1 := by simp
        have hown1 : w1.ownsRow w.heap.size 78 1 v' (l ++ [k % 1000000000]).length ((l ++ [k % 1000000000]).map (wd .u32)) := by
          rw [hL, List.map_append]; exact hown'
        have H_hown1 := Lib.hid hown1; clear hown1
        have H_hf1 := Lib.hid hf1; clear hf1
        clear hown' hgrow hown
        go_wp2_with (fail)
        go_roundw
        case rel =>
          refine ⟨k / 1000000000, l ++ [k % 1000000000], by omega, by simp, H_hown1.out, hlim.out.append (Lim.one (by omega)), Lib.hid (by rw [hL]; omega), ?_, ?_, H_hf1.out⟩
          · refine Lib.hid ?_
            have h1 := hval.out
            have h2 := Nat.div_add_mod k 1000000000
            rw [sval_append, hL, spow_succ, ← h1]
            simp only [sval, Nat.mul_zero, Nat.add_zero]
            generalize k / 1000000000 = q at *
            generalize k % 1000000000 = r at *
            subst h2
            grind
          · refine Lib.hid (fun h0 => norm_snoc (by omega))
        case measure => simp [intOf]; omega

end Go.Proofs.YtjjolcjeiogdmabGreatDoor
