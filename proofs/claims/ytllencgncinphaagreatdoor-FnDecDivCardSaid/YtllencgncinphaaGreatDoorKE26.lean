/- big: the stack of temporary numbers, in general: slices.Grow of its words, and what the inner stack hands out. -/
import Derived.Test.YtllencgncinphaaGreatDoorKE25
namespace Go.Proofs.YtllencgncinphaaGreatDoor
open Go.RowKit Go.Lib
open Go.Lib (hid)
set_option maxRecDepth 100000
set_option maxHeartbeats 2000000

theorem GrowW_room (g n k G : Nat) (w : World) (hn : n ≤ G) (hG : G ≤ 9223372036854775807) (hk : n + k ≤ G) :
 Calls Tryz.prog 233 #[.slice (some ⟨g, 0, none⟩) n G, .int .i64 k] w (fun e w' => e = .returned (.slice (some ⟨g, 0, none⟩) n G) ∧ w' = w) := by
 have h1 : ¬ ((k : Int) < 0) := by omega
 have h2 : IntKind.i64.wrap ((G : Int) - (n : Int)) = (G : Int) - (n : Int) := by rw [IntKind.wrap_i64]; omega
 have h3 : IntKind.i64.wrap ((k : Int) - ((G : Int) - (n : Int))) = (k : Int) - ((G : Int) - (n : Int)) := by rw [IntKind.wrap_i64]; omega
 have h4 : decide ((0 : Int) < (k : Int) - ((G : Int) - (n : Int))) = false := by simp; omega
 have h5 : ¬ ((0 : Int) < (k : Int) - ((G : Int) - (n : Int))) := by omega
 go_enter Tryz.func233, Tryz.ntmps233
 go_wp2
 go_ret
 exact ⟨rfl, rfl⟩

theorem GrowW_more (g n k : Nat) (L : List Nat) (w : World) (bl : Blk .u64 w g L) (_hb : ∀ a ∈ L, a < 18446744073709551616) (hn : n ≤ L.length) (hk : L.length < n + k) (hlim : n + k ≤ 1000) :
 Calls Tryz.prog 233 #[.slice (some ⟨g, 0, none⟩) n L.length, .int .i64 k] w (fun e w' => ∃ G, e = .returned (.slice (some ⟨w.heap.size, 0, none⟩) n G) ∧ n + k ≤ G ∧ G ≤ 9223372036854775807 ∧
  Hid (Blk .u64 w' w.heap.size (L ++ List.replicate (G - L.length) 0) ∧ Fresh w w')) := by
 obtain ⟨i0, hi, hz0, hz1, hz2⟩ := info_parts (show (Tryz.prog.info? 123).map (fun i => (i.zero, i.size, i.bytes)) = some (some (.int .u64 0), 1, 8) from by kernel_rfl)
 obtain ⟨N, hN⟩ : ∃ N, N = L.length := ⟨_, rfl⟩
 obtain ⟨j, hj⟩ : ∃ j, j = n + k - N := ⟨_, rfl⟩
 have h1 : ¬ ((k : Int) < 0) := by omega
 have h2 : IntKind.i64.wrap ((N : Int) - (n : Int)) = (N : Int) - (n : Int) := by rw [IntKind.wrap_i64]; omega
 have e3 : (k : Int) - ((N : Int) - (n : Int)) = (j : Int) := by omega
 have h3 : IntKind.i64.wrap (j : Int) = (j : Int) := by rw [IntKind.wrap_i64]; omega
 have h4 : decide ((0 : Int) < (j : Int)) = true := by simp; omega
 have h5 : (n : Int) ≤ ((N + j : Nat) : Int) := by omega
 have h7 : 0 < j := by omega
 have hold : (Builtin.firstCells i0.size N (.slice (some ⟨g, 0, none⟩) N N)).run Tryz.prog w.drew = .ok (L.map (wd .u64)).toArray w.drew := by
  refine run_firstCells_some (w := w.drew) i0.size N ⟨g, 0, none⟩ N N (L.map (wd .u64)) (by rw [hz1]; simp [hN]) (fun i v hv => ?_)
  have hi : i < L.length := by
   rcases Nat.lt_or_ge i L.length with h | h
   · exact h
   · rw [List.getElem?_eq_none (by simpa using h)] at hv; cases hv
  have := bl.drew.cell hi
  rw [List.getElem?_map] at hv
  have ha : (⟨g, 0, none⟩ : Addr).add i = ⟨g, i, none⟩ := by
   cases i <;> simp [Addr.add]
  rw [ha]
  simp [List.getD, hi] at hv this ⊢
  rw [this, ← hv]
 have hG0 := grownCap_ge w (N + j) N 123
 have hG1 := grownCap_le_maxLen w (N + j) N 123 (by unfold maxLen; omega)
 have hrz : ∀ ty, (Builtin.append_ #[107, 3] ty #[.slice (some ⟨g, 0, none⟩) N N, .int .i64 (j : Int)]).run Tryz.prog w =
  .ok (.slice (some ⟨w.heap.size, 0, none⟩) (N + j) (grownCap w (N + j) N 123)) (w.drew.alloc (.cells ((L.map (wd .u64)).toArray ++ Builtin.zeroCells (Value.int .u64 0).cells j ++ Builtin.zeroCells (Value.int .u64 0).cells (grownCap w (N + j) N 123 - (N + j))) 123)) := fun ty => by
  exact Lib.run_append_grow_zeros w 107 3 ty 123 i0 (.int .u64 0) .i64 .i64 Tryz.underlying107 Tryz.underlying3 hi hz0 (some ⟨g, 0, none⟩) N N (L.map (wd .u64)) hold j (by omega) (by omega) (by omega) (by omega)
   (by rw [hz2]; omega) (growslice_fits (by omega) (by rw [hz2]; omega))
 obtain ⟨G, hG⟩ : ∃ G, G = grownCap w (N + j) N 123 := ⟨_, rfl⟩
 rw [← hG] at hrz hG0 hG1
 unfold maxLen at hG1
 have hblk : ∀ cs : Array Value, cs.toList = (L ++ List.replicate (G - L.length) 0).map (wd .u64) → Hid (Blk .u64 (w.alloc (.cells cs 123)).drew w.heap.size (L ++ List.replicate (G - L.length) 0) ∧ Fresh w (w.alloc (.cells cs 123)).drew) := by
  intro cs hcs
  refine hid ⟨⟨123, ?_⟩, ((Keep.refl _ _).alloc _).drew⟩
  rw [show (w.alloc (.cells cs 123)).drew.heap = (w.alloc (.cells cs 123)).heap from rfl, heap_alloc_new]
  congr 2
  apply Array.ext'
  rw [hcs]
 rw [← hN]
 rw [← hN] at hblk hn
 have hGN : j + (G - (N + j)) = G - N := by omega
 have hnk : n + k ≤ G := by omega
 clear hold hi hz0 hz1 hz2 hG bl _hb hk hlim hj
 have H_hN := hid hN; clear hN
 go_enter Tryz.func233, Tryz.ntmps233
 go_wp2_with (at_builtin; refine Lib.wpList_append_run _ rfl _ _ _ _ rfl _ _ rfl rfl _ _ (hrz _) ?_)
 all_goals (go_ret; exact ⟨G, rfl, hnk, by omega, hblk _ (by simp only [Array.toList_append, zero_cells]; rw [List.replicate_append_replicate, hGN]; simp [wd])⟩)

theorem GrowW_nil (n : Nat) (w : World) (h0 : 0 < n) (hn : n ≤ 1000) :
 Calls Tryz.prog 233 #[.slice none 0 0, .int .i64 n] w (fun e w' => ∃ G, e = .returned (.slice (some ⟨w.heap.size, 0, none⟩) 0 G) ∧ n ≤ G ∧ G ≤ 9223372036854775807 ∧ Hid (Blk .u64 w' w.heap.size (List.replicate G 0) ∧ Fresh w w')) := by
 obtain ⟨i0, hi, hz0, hz1, hz2⟩ := info_parts (show (Tryz.prog.info? 123).map (fun i => (i.zero, i.size, i.bytes)) = some (some (.int .u64 0), 1, 8) from by kernel_rfl)
 have h1 : ¬ ((n : Int) < 0) := by omega
 have h4 : decide ((0 : Int) < (n : Int)) = true := by simp; omega
 have hold : (Builtin.firstCells i0.size 0 (.slice none 0 0)).run Tryz.prog w.drew = .ok (#[] : Array Value) w.drew := run_firstCells_none w.drew i0.size 0 0 0
 have hG0 := grownCap_ge w n 0 123
 have hG1 := grownCap_le_maxLen w n 0 123 (by unfold maxLen; omega)
 have hrz : ∀ ty, (Builtin.append_ #[107, 3] ty #[.slice none 0 0, .int .i64 (n : Int)]).run Tryz.prog w =
  .ok (.slice (some ⟨w.heap.size, 0, none⟩) n (grownCap w n 0 123)) (w.drew.alloc (.cells ((#[] : Array Value) ++ Builtin.zeroCells (Value.int .u64 0).cells n ++ Builtin.zeroCells (Value.int .u64 0).cells (grownCap w n 0 123 - n)) 123)) := fun ty => by
  have h := Lib.run_append_grow_zeros w 107 3 ty 123 i0 (.int .u64 0) .i64 .i64 Tryz.underlying107 Tryz.underlying3 hi hz0 none 0 0 [] hold n (by omega) (by omega) (by omega) (by omega)
   (by rw [hz2]; omega)
   (by rw [Nat.zero_add]; exact growslice_fits (by omega) (by rw [hz2]; omega))
  rw [Nat.zero_add] at h
  exact h
 obtain ⟨G, hG⟩ : ∃ G, G = grownCap w n 0 123 := ⟨_, rfl⟩
 rw [← hG] at hrz hG0 hG1
 unfold maxLen at hG1
 have hblk : ∀ cs : Array Value, cs.toList = List.replicate G (Value.int .u64 0) → Hid (Blk .u64 (w.alloc (.cells cs 123)).drew w.heap.size (List.replicate G 0) ∧ Fresh w (w.alloc (.cells cs 123)).drew) := by
  intro cs hcs
  refine hid ⟨⟨123, ?_⟩, ((Keep.refl _ _).alloc _).drew⟩
  rw [show (w.alloc (.cells cs 123)).drew.heap = (w.alloc (.cells cs 123)).heap from rfl, heap_alloc_new]
  congr 2
  apply Array.ext'
  rw [hcs]
  simp
 clear hold hi hz0 hz1 hz2 hG
 go_enter Tryz.func233, Tryz.ntmps233
 go_wp2_with (at_builtin; refine Lib.wpList_append_run _ rfl _ _ _ _ rfl _ _ rfl rfl _ _ (hrz _) ?_)
 all_goals (go_ret; exact ⟨G, rfl, hG0, by omega, hblk _ (by simp only [Array.toList_append, zero_cells, List.replicate_append_replicate]; rw [show n + (G - n) = G by omega])⟩)

structure SiS (w : World) (si g n : Nat) (L : List Nat) : Prop where
 c : w.cell? ⟨si, 0, none⟩ = some (.slice (some ⟨g, 0, none⟩) n L.length)
 f : w.frozen? ⟨si, 0, none⟩ = false
 bl : Blk .u64 w g L
 bd : ∀ a ∈ L, a < 18446744073709551616
 le : n ≤ L.length
 mx : L.length ≤ 9223372036854775807
 ne : si ≠ g

theorem SiS.keep {S : Nat → Prop} {w w' : World} {si g n : Nat} {L : List Nat} (h : SiS w si g n L) (hk : Keep S w w') (h1 : ¬ S si) (h2 : ¬ S g) : SiS w' si g n L := by
 have hlt : si < w.heap.size := World.block_lt_of_cell? _ _ h.c
 refine ⟨(hk.cell (p := ⟨si, 0, none⟩) hlt h1).trans h.c, ?_, h.bl.keep hk h2, h.bd, h.le, h.mx, h.ne⟩
 have := hk.block si hlt h1
 have f := h.f
 unfold World.frozen? at f ⊢
 simp only at f ⊢
 rw [this]
 exact f

def nr4 (n : Nat) : Nat := (n + 3) / 4 * 4

theorem nr4_le (n : Nat) : n ≤ nr4 n ∧ nr4 n ≤ n + 3 := by unfold nr4; omega

theorem andNot3 : ∀ s : Fin 200, bits BinOp.andNot IntKind.i64 ((s.val : Nat) : Int) 3 = ((s.val / 4 * 4 : Nat) : Int) := by decide

theorem frozen_keep {S : Nat → Prop} {w w' : World} {k : Nat} (hlt : k < w.heap.size) (hk : Keep S w w') (hs : ¬ S k) (f : w.frozen? ⟨k, 0, none⟩ = false) : w'.frozen? ⟨k, 0, none⟩ = false := by
 have := hk.block k hlt hs
 unfold World.frozen? at f ⊢
 simp only at f ⊢
 rw [this]
 exact f

theorem frozen_setCell1 (w : World) (p q : Addr) (v : Value) : (w.setCell p v).frozen? q = w.frozen? q := by
 unfold World.frozen?
 simp only [World.setCell, Array.getElem?_modify]
 by_cases hb : p.block = q.block
 · rw [if_pos hb]
   cases hq : w.heap[q.block]? with
   | none => simp
   | some o => cases o <;> simp
 · rw [if_neg hb]

theorem SiS.made {w : World} {si g s off x : Nat} {L : List Nat} {u A : Value} (hc : w.cell? ⟨si, 0, none⟩ = some u) (hf : w.frozen? ⟨si, 0, none⟩ = false) (bl : Blk .u64 w g L) (bd : ∀ a ∈ L, a < 18446744073709551616) (hs : s ≤ L.length) (mx : L.length ≤ 9223372036854775807) (ne : si ≠ g) (hx : x < 18446744073709551616) :
 SiS (((w.setCell ⟨si, 0, none⟩ A).setCell ⟨si, 0, none⟩ (.slice (some ⟨g, 0, none⟩) s L.length)).setCell ⟨g, off, none⟩ (wd .u64 x)) si g s (L.set off x) := by
 have k1 : Keep (fun k => k = si) w ((w.setCell ⟨si, 0, none⟩ A).setCell ⟨si, 0, none⟩ (.slice (some ⟨g, 0, none⟩) s L.length)) := ((Keep.refl (fun k => k = si) w).setCell (p := ⟨si, 0, none⟩) (fun _ => rfl) _).setCell (p := ⟨si, 0, none⟩) (fun _ => rfl) _
 have h1 : (w.setCell ⟨si, 0, none⟩ A).cell? ⟨si, 0, none⟩ = some A := cell?_setCell_eq rfl (by rw [hc]; rfl)
 refine ⟨?_, ?_, (bl.keep k1 (fun h => ne h.symm)).set off x, fun a ha => ?_, by simpa using hs, by simpa using mx, ne⟩
 · rw [cell?_setCell_ne (.inl ne), List.length_set]
   exact cell?_setCell_eq rfl (by rw [h1]; rfl)
 · rw [frozen_setCell1, frozen_setCell1, frozen_setCell1]
   exact hf
 · rcases List.mem_or_eq_of_mem_set ha with h | rfl
   · exact bd a h
   · exact hx

theorem siNat_room (si g off n : Nat) (L : List Nat) (w : World) (h : SiS w si g off L) (hn : 0 < n) (hn2 : n ≤ 100) (hoff : off ≤ 800) (hroom : off + nr4 n ≤ L.length) :
 Calls Tryz.prog 215 #[.pointer (some ⟨si, 0, none⟩), .int .i64 n] w (fun e w' => e = .returned (.slice (some ⟨g, off, none⟩) n n) ∧
  Hid (SiS w' si g (off + nr4 n) (L.set off 1043915) ∧ Keep (fun k => k = si ∨ k = g) w w')) := by
 obtain ⟨n3, hn3⟩ : ∃ a, a = n + 3 := ⟨_, rfl⟩
 have i3 : (n : Int) + 3 = (n3 : Int) := by omega
 have w3 : IntKind.i64.wrap (n3 : Int) = (n3 : Int) := by rw [IntKind.wrap_i64]; omega
 have ha : bits BinOp.andNot IntKind.i64 (n3 : Int) 3 = (nr4 n : Int) := by
  have := andNot3 ⟨n3, by omega⟩
  simp only at this
  rw [this]; unfold nr4; rw [hn3]
 have hnr := nr4_le n
 obtain ⟨nr, hnr0⟩ : ∃ a, a = nr4 n := ⟨_, rfl⟩
 rw [← hnr0] at ha hnr hroom ⊢
 obtain ⟨G, hG⟩ : ∃ G, G = L.length := ⟨_, rfl⟩
 have hc := h.c
 have hf := h.f
 have hle := h.le
 have hmx := h.mx
 have hne := h.ne
 have hbl := h.bl
 have hb0 := hbl.cell (o := off) (by omega)
 have hbf := hbl.frozen off
 generalize hx0 : L.getD off 0 = x0 at *
 rw [← hG] at hc hle hmx hroom
 obtain ⟨s, hs⟩ : ∃ s, s = off + nr := ⟨_, rfl⟩
 have is : (off : Int) + (nr : Int) = (s : Int) := by omega
 have ws : IntKind.i64.wrap (s : Int) = (s : Int) := by rw [IntKind.wrap_i64]; omega
 obtain ⟨t, ht⟩ : ∃ t, t = off + n := ⟨_, rfl⟩
 have it : (off : Int) + (n : Int) = (t : Int) := by omega
 have wt : IntKind.i64.wrap (t : Int) = (t : Int) := by rw [IntKind.wrap_i64]; omega
 have c2 : (off : Int) ≤ (t : Int) := by omega
 have e1 : t - off = n := by omega
 have t1 : decide ((0 : Int) < (n : Int)) = true := by simp; omega
 have c4 : (0 : Int) < (n : Int) := by omega
 have hnz : ¬ n = 0 := by omega
 have c1 : (s : Int) ≤ (G : Int) := by omega
 have c3 : (t : Int) ≤ (G : Int) := by omega
 have hgr := GrowW_room g off nr G w hle hmx hroom
 rw [← hs]
 have hgne : ¬ g = si := fun e => hne e.symm
 have H_hbl := hid hbl; have H_h := hid h; have H_hgr := hid hgr; have H_hG := hid hG; have H_hs := hid hs; have H_ht := hid ht; have H_hn3 := hid hn3; have H_hnr0 := hid hnr0; have H_hnr := hid hnr; have H_hroom := hid hroom; have H_hle := hid hle; have H_hmx := hid hmx; have H_hx0 := hid hx0; clear hbl h hgr hG hs ht hn3 hnr0 hnr hroom hle hmx hx0
 go_enter Tryz.func215, Tryz.ntmps215
 go_wp2_with (fail)
 refine H_hgr.out.mono ?_
 rintro e w2 ⟨rfl, hw⟩
 obtain rfl : w = w2 := hw.symm
 go_wp2_with (fail)
 go_ret
 have hlen : s ≤ L.length := by have := H_hs.out; have := H_hroom.out; have := H_hG.out; omega
 have hmx := H_hmx.out
 rw [H_hG.out] at hmx ⊢
 exact ⟨rfl, hid ⟨SiS.made hc hf H_hbl.out H_h.out.bd hlen hmx hne (by decide), (((Keep.refl _ _).setCell (p := ⟨si, 0, none⟩) (fun _ => .inl rfl) _).setCell (p := ⟨si, 0, none⟩) (fun _ => .inl rfl) _).setCell (p := ⟨g, off, none⟩) (fun _ => .inr rfl) _⟩⟩

theorem siNat_more (si g off n : Nat) (L : List Nat) (w : World) (h : SiS w si g off L) (hn : 0 < n) (hn2 : n ≤ 100) (hoff : off ≤ 800) (hroom : L.length < off + nr4 n) :
 Calls Tryz.prog 215 #[.pointer (some ⟨si, 0, none⟩), .int .i64 n] w (fun e w' => ∃ L', e = .returned (.slice (some ⟨w.heap.size, off, none⟩) n n) ∧
  Hid (SiS w' si w.heap.size (off + nr4 n) L' ∧ (∀ i, i < off → L'.getD i 0 = L.getD i 0) ∧ Keep (fun k => k = si) w w')) := by
 obtain ⟨n3, hn3⟩ : ∃ a, a = n + 3 := ⟨_, rfl⟩
 have i3 : (n : Int) + 3 = (n3 : Int) := by omega
 have w3 : IntKind.i64.wrap (n3 : Int) = (n3 : Int) := by rw [IntKind.wrap_i64]; omega
 have ha : bits BinOp.andNot IntKind.i64 (n3 : Int) 3 = (nr4 n : Int) := by
  have := andNot3 ⟨n3, by omega⟩
  simp only at this
  rw [this]; unfold nr4; rw [hn3]
 have hnr := nr4_le n
 obtain ⟨nr, hnr0⟩ : ∃ a, a = nr4 n := ⟨_, rfl⟩
 rw [← hnr0] at ha hnr hroom ⊢
 obtain ⟨N, hN⟩ : ∃ N, N = L.length := ⟨_, rfl⟩
 have hc := h.c
 have hle := h.le
 have hgr := GrowW_more g off nr L w h.bl h.bd h.le hroom (by omega)
 rw [← hN] at hc hle hgr hroom
 obtain ⟨s, hs⟩ : ∃ s, s = off + nr := ⟨_, rfl⟩
 have is : (off : Int) + (nr : Int) = (s : Int) := by omega
 have ws : IntKind.i64.wrap (s : Int) = (s : Int) := by rw [IntKind.wrap_i64]; omega
 obtain ⟨t, ht⟩ : ∃ t, t = off + n := ⟨_, rfl⟩
 have it : (off : Int) + (n : Int) = (t : Int) := by omega
 have wt : IntKind.i64.wrap (t : Int) = (t : Int) := by rw [IntKind.wrap_i64]; omega
 have c2 : (off : Int) ≤ (t : Int) := by omega
 have e1 : t - off = n := by omega
 have t1 : decide ((0 : Int) < (n : Int)) = true := by simp; omega
 have c4 : (0 : Int) < (n : Int) := by omega
 have hnz : ¬ n = 0 := by omega
 rw [← hs]
 have hlt : si < w.heap.size := World.block_lt_of_cell? _ _ hc
 have H_h := hid h; have H_hgr := hid hgr; have H_hN := hid hN; have H_hs := hid hs; have H_ht := hid ht; have H_hn3 := hid hn3; have H_hnr0 := hid hnr0; have H_hnr := hid hnr; have H_hroom := hid hroom; have H_hle := hid hle; have H_hlt := hid hlt; clear h hgr hN hs ht hn3 hnr0 hnr hroom hle hlt
 go_enter Tryz.func215, Tryz.ntmps215
 go_wp2_with (fail)
 refine H_hgr.out.mono ?_
 rintro e w2 ⟨G, rfl, hg1, hg2, hb⟩
 obtain ⟨L', hL'⟩ : ∃ L', L' = (L ++ List.replicate (G - N) 0) := ⟨_, rfl⟩
 rw [← hL'] at hb
 have hlen : L'.length = G := by rw [hL']; simp; have := H_hN.out; have := H_hroom.out; have := H_hle.out; omega
 have hbd : ∀ a ∈ L', a < 18446744073709551616 := by
  intro a ha
  rw [hL'] at ha
  rcases List.mem_append.1 ha with h1 | h1
  · exact H_h.out.bd a h1
  · rw [List.eq_of_mem_replicate h1]; omega
 have hc2 := cfr hc hb.out.2
 have hf2 := frozen_keep H_hlt.out hb.out.2 (fun h => h) H_h.out.f
 have hk2 : Keep (fun k => k = si) w w2 := hb.out.2.mono (fun _ _ h => h.elim)
 have hb0 := hb.out.1.cell (o := off) (by have := H_hnr.out; omega)
 have hbf := hb.out.1.frozen off
 obtain ⟨g', hg'⟩ : ∃ g', g' = w.heap.size := ⟨_, rfl⟩
 rw [← hg'] at hb0 hbf hb ⊢
 have hne : ¬ si = g' := by rw [hg']; have := H_hlt.out; omega
 have hgne : ¬ g' = si := fun e => hne e.symm
 generalize hx0 : L'.getD off 0 = x0 at *
 have c1 : (s : Int) ≤ (G : Int) := by have := H_hs.out; omega
 have c3 : (t : Int) ≤ (G : Int) := by have := H_ht.out; have := H_hnr.out; omega
 clear hc
 have H_hb := hid hb; have H_hL' := hid hL'; have H_hlen := hid hlen; have H_hbd := hid hbd; have H_hg' := hid hg'; have H_hx0 := hid hx0; have H_hg1 := hid hg1; have H_hg2 := hid hg2; have H_hk2 := hid hk2; clear hb hL' hlen hbd hg' hx0 hg1 hg2 hk2
 go_wp2_with (fail)
 go_ret
 have hlen := H_hlen.out
 have hle : s ≤ L'.length := by rw [hlen]; have := H_hs.out; have := H_hg1.out; omega
 have hg2 := H_hg2.out
 rw [← hlen] at hg2 ⊢
 rw [← H_hg'.out]
 refine ⟨L'.set off 1043915, rfl, hid ⟨SiS.made (x := 1043915) hc2 hf2 H_hb.out.1 H_hbd.out hle hg2 hne (by decide), fun i hi => ?_, ?_⟩⟩
 · rw [List.getD_eq_getElem?_getD, List.getElem?_set_ne (by omega), H_hL'.out, ← List.getD_eq_getElem?_getD]
   simp only [List.getD_eq_getElem?_getD]
   rw [List.getElem?_append_left (by have := H_hN.out; have := H_hle.out; omega)]
 · exact H_hk2.out.trans ((((Keep.refl (fun k => k = si ∨ k = g') _).setCell (p := ⟨si, 0, none⟩) (fun _ => .inl rfl) _).setCell (p := ⟨si, 0, none⟩) (fun _ => .inl rfl) _).setCell (p := ⟨g', off, none⟩) (fun _ => .inr rfl) _) (fun _ _ h => h) (fun k hk h => by
    rcases h with h | h
    · exact h
    · have := H_hg'.out; omega)

theorem siNat_nil (si n : Nat) (w : World) (hc : w.cell? ⟨si, 0, none⟩ = some (.slice none 0 0)) (hf : w.frozen? ⟨si, 0, none⟩ = false) (hn : 0 < n) (hn2 : n ≤ 100) :
 Calls Tryz.prog 215 #[.pointer (some ⟨si, 0, none⟩), .int .i64 n] w (fun e w' => ∃ L', e = .returned (.slice (some ⟨w.heap.size, 0, none⟩) n n) ∧
  Hid (SiS w' si w.heap.size (nr4 n) L' ∧ Keep (fun k => k = si) w w')) := by
 obtain ⟨n3, hn3⟩ : ∃ a, a = n + 3 := ⟨_, rfl⟩
 have i3 : (n : Int) + 3 = (n3 : Int) := by omega
 have w3 : IntKind.i64.wrap (n3 : Int) = (n3 : Int) := by rw [IntKind.wrap_i64]; omega
 have ha : bits BinOp.andNot IntKind.i64 (n3 : Int) 3 = (nr4 n : Int) := by
  have := andNot3 ⟨n3, by omega⟩
  simp only at this
  rw [this]; unfold nr4; rw [hn3]
 have hnr := nr4_le n
 obtain ⟨nr, hnr0⟩ : ∃ a, a = nr4 n := ⟨_, rfl⟩
 rw [← hnr0] at ha hnr ⊢
 have hgr := GrowW_nil nr w (by omega) (by omega)
 have ws : IntKind.i64.wrap (nr : Int) = (nr : Int) := by rw [IntKind.wrap_i64]; omega
 have wt : IntKind.i64.wrap (n : Int) = (n : Int) := by rw [IntKind.wrap_i64]; omega
 have t1 : decide ((0 : Int) < (n : Int)) = true := by simp; omega
 have c4 : (0 : Int) < (n : Int) := by omega
 have hnz : ¬ n = 0 := by omega
 have hlt : si < w.heap.size := World.block_lt_of_cell? _ _ hc
 have H_hgr := hid hgr; have H_hn3 := hid hn3; have H_hnr0 := hid hnr0; have H_hnr := hid hnr; have H_hlt := hid hlt; have H_hf := hid hf; clear hgr hn3 hnr0 hnr hlt hf
 go_enter Tryz.func215, Tryz.ntmps215
 go_wp2_with (fail)
 refine H_hgr.out.mono ?_
 rintro e w2 ⟨G, rfl, hg1, hg2, hb⟩
 obtain ⟨L', hL'⟩ : ∃ L', L' = (List.replicate G 0) := ⟨_, rfl⟩
 rw [← hL'] at hb
 have hlen : L'.length = G := by rw [hL']; simp
 have hbd : ∀ a ∈ L', a < 18446744073709551616 := by
  intro a ha
  rw [hL'] at ha
  rw [List.eq_of_mem_replicate ha]; omega
 have hc2 := cfr hc hb.out.2
 have hf2 := frozen_keep H_hlt.out hb.out.2 (fun h => h) H_hf.out
 have hk2 : Keep (fun k => k = si) w w2 := hb.out.2.mono (fun _ _ h => h.elim)
 have hb0 := hb.out.1.cell (o := 0) (by have := H_hnr.out; omega)
 have hbf := hb.out.1.frozen 0
 obtain ⟨g', hg'⟩ : ∃ g', g' = w.heap.size := ⟨_, rfl⟩
 rw [← hg'] at hb0 hbf hb ⊢
 have hne : ¬ si = g' := by rw [hg']; have := H_hlt.out; omega
 have hgne : ¬ g' = si := fun e => hne e.symm
 generalize hx0 : L'.getD 0 0 = x0 at *
 have c1 : (nr : Int) ≤ (G : Int) := by omega
 have c3 : (n : Int) ≤ (G : Int) := by have := H_hnr.out; omega
 clear hc
 have H_hb := hid hb; have H_hL' := hid hL'; have H_hlen := hid hlen; have H_hbd := hid hbd; have H_hg' := hid hg'; have H_hx0 := hid hx0; have H_hg1 := hid hg1; have H_hg2 := hid hg2; have H_hk2 := hid hk2; clear hb hL' hlen hbd hg' hx0 hg1 hg2 hk2
 go_wp2_with (fail)
 go_ret
 have hlen := H_hlen.out
 have hle : nr ≤ L'.length := by rw [hlen]; have := H_hg1.out; omega
 have hg2 := H_hg2.out
 rw [← hlen] at hg2 ⊢
 rw [← H_hg'.out]
 refine ⟨L'.set 0 1043915, rfl, hid ⟨SiS.made (x := 1043915) hc2 hf2 H_hb.out.1 H_hbd.out hle hg2 hne (by decide), ?_⟩⟩
 exact H_hk2.out.trans ((((Keep.refl (fun k => k = si ∨ k = g') _).setCell (p := ⟨si, 0, none⟩) (fun _ => .inl rfl) _).setCell (p := ⟨si, 0, none⟩) (fun _ => .inl rfl) _).setCell (p := ⟨g', 0, none⟩) (fun _ => .inr rfl) _) (fun _ _ h => h) (fun k hk h => by
  rcases h with h | h
  · exact h
  · have := H_hg'.out; omega)

structure StkW (w : World) (b si g n : Nat) (L : List Nat) : Prop where
 p : w.cell? ⟨b, 0, none⟩ = some (.pointer (some ⟨si, 0, none⟩))
 s : SiS w si g n L
 d1 : b ≠ si
 d2 : b ≠ g

theorem StkW.keep {S : Nat → Prop} {w w' : World} {b si g n : Nat} {L : List Nat} (h : StkW w b si g n L) (hk : Keep S w w') (h0 : ¬ S b) (h1 : ¬ S si) (h2 : ¬ S g) : StkW w' b si g n L :=
 ⟨(hk.cell (p := ⟨b, 0, none⟩) (World.block_lt_of_cell? _ _ h.p) h0).trans h.p, h.s.keep hk h1 h2, h.d1, h.d2⟩

structure StkH (w : World) (b si g n G : Nat) : Prop where
 p : w.cell? ⟨b, 0, none⟩ = some (.pointer (some ⟨si, 0, none⟩))
 c : w.cell? ⟨si, 0, none⟩ = some (.slice (some ⟨g, 0, none⟩) n G)
 f : w.frozen? ⟨si, 0, none⟩ = false
 mx : G ≤ 9223372036854775807
 d : b ≠ si

theorem StkW.h {w : World} {b si g n : Nat} {L : List Nat} (h : StkW w b si g n L) : StkH w b si g n L.length := ⟨h.p, h.s.c, h.s.f, h.s.mx, h.d1⟩

theorem StkH.lt {w : World} {b si g n G : Nat} (h : StkH w b si g n G) : b < w.heap.size ∧ si < w.heap.size := ⟨World.block_lt_of_cell? _ _ h.p, World.block_lt_of_cell? _ _ h.c⟩

theorem StkH.keep {S : Nat → Prop} {w w' : World} {b si g n G : Nat} (h : StkH w b si g n G) (hk : Keep S w w') (h0 : ¬ S b) (h1 : ¬ S si) : StkH w' b si g n G :=
 ⟨(hk.cell (p := ⟨b, 0, none⟩) h.lt.1 h0).trans h.p, (hk.cell (p := ⟨si, 0, none⟩) h.lt.2 h1).trans h.c, frozen_keep h.lt.2 hk h1 h.f, h.mx, h.d⟩

theorem StkH.ne {w : World} {b si g n G k : Nat} {L : List Nat} (h : StkH w b si g n G) (bk : Blk .u64 w k L) (hL : 0 < L.length) : k ≠ b ∧ k ≠ si := by
 constructor
 · rintro rfl
   have := bk.cell (o := 0) hL
   rw [h.p] at this
   simp [wd] at this
 · rintro rfl
   have := bk.cell (o := 0) hL
   rw [h.c] at this
   simp [wd] at this

theorem siSave (si g n : Nat) (L : List Nat) (w : World) (h : SiS w si g n L) : Calls Tryz.prog 212 #[.pointer (some ⟨si, 0, none⟩)] w (fun e w' => e = .returned (.int .i64 n) ∧ w' = w) := by
 have hc := h.c
 have H_h := hid h; clear h
 go_enter Tryz.func212, Tryz.ntmps212
 go_wp2
 go_ret
 exact ⟨rfl, rfl⟩

theorem save_some (b si g n : Nat) (L : List Nat) (w : World) (h : StkW w b si g n L) : Calls Tryz.prog 183 #[.pointer (some ⟨b, 0, none⟩)] w (fun e w' => e = .returned (.int .i64 n) ∧ w = w') := by
 have hp := h.p
 have hs := siSave si g n L w h.s
 have H_h := hid h; have H_hs := hid hs; clear h hs
 go_enter Tryz.func183, Tryz.ntmps183
 go_wp2_with (fail)
 refine H_hs.out.mono ?_
 rintro e w2 ⟨rfl, hw⟩
 obtain rfl : w = w2 := hw.symm
 go_wp2_with (fail)
 go_ret
 exact ⟨rfl, rfl⟩

theorem StkH.set {w : World} {b si g n G : Nat} (h : StkH w b si g n G) (m : Nat) : StkH (w.setCell ⟨si, 0, none⟩ (.slice (some ⟨g, 0, none⟩) m G)) b si g m G ∧ Keep (fun k => k = si) w (w.setCell ⟨si, 0, none⟩ (.slice (some ⟨g, 0, none⟩) m G)) :=
 ⟨⟨by rw [cell?_setCell_ne (.inl (by exact h.d))]; exact h.p, cell?_setCell_eq rfl (by rw [h.c]; rfl), by rw [frozen_setCell1]; exact h.f, h.mx, h.d⟩, (Keep.refl (fun k => k = si) w).setCell (p := ⟨si, 0, none⟩) (fun _ => rfl) _⟩

theorem siRestore (b si g n G m : Nat) (w : World) (h : StkH w b si g n G) (hm : m ≤ G) : Calls Tryz.prog 211 #[.pointer (some ⟨si, 0, none⟩), .int .i64 m] w (fun e w' => e = .returned (.tuple #[]) ∧ Hid (StkH w' b si g m G ∧ Keep (fun k => k = si) w w')) := by
 have hc := h.c
 have hf := h.f
 have hmx := h.mx
 have c1 : (m : Int) ≤ (G : Int) := by omega
 have hend : ∀ W, w.setCell ⟨si, 0, none⟩ (.slice (some ⟨g, 0, none⟩) m G) = W → StkH W b si g m G ∧ Keep (fun k => k = si) w W := by
  rintro W rfl
  exact h.set m
 have H_h := hid h; have H_hend := hid hend; have H_hmx := hid hmx; clear h hend hmx
 go_enter Tryz.func211, Tryz.ntmps211
 go_wp2
 go_end0
 exact ⟨rfl, hid (H_hend.out _ rfl)⟩

theorem siFree (b si g n G : Nat) (w : World) (h : StkH w b si g n G) : Calls Tryz.prog 181 #[.pointer (some ⟨si, 0, none⟩)] w (fun e w' => e = .returned (.tuple #[]) ∧ Hid (StkH w' b si g 0 G ∧ Keep (fun k => k = si) w w')) := by
 have hc := h.c
 have hf := h.f
 have hmx := h.mx
 have hend : ∀ W, w.setCell ⟨si, 0, none⟩ (.slice (some ⟨g, 0, none⟩) 0 G) = W → StkH W b si g 0 G ∧ Keep (fun k => k = si) w W := by
  rintro W rfl
  exact h.set 0
 have H_h := hid h; have H_hend := hid hend; have H_hmx := hid hmx; clear h hend hmx
 go_enter Tryz.func181, Tryz.ntmps181
 go_wp2
 go_end0
 exact ⟨rfl, hid (H_hend.out _ rfl)⟩

theorem restore_some (b si g n G m : Nat) (w : World) (h : StkH w b si g n G) (hm : m ≤ G) : CallsD Tryz.prog 182 #[.pointer (some ⟨b, 0, none⟩), .int .i64 m] .returning w (fun e u' w' => u' = .returning ∧ (e = .returned (.tuple #[]) ∧ Hid (StkH w' b si g m G ∧ Keep (fun k => k = si) w w'))) := by
 have hp := h.p
 have hs := siRestore b si g n G m w h hm
 clear h
 have H_hs := hid hs; clear hs
 go_enter_d Tryz.func182, Tryz.ntmps182
 go_wp2_with (fail)
 refine H_hs.out.mono ?_
 rintro e w2 ⟨rfl, hw⟩
 go_wp2_with (fail)
 go_end0
 exact ⟨rfl, hw⟩

theorem free_some (b si g n G : Nat) (w : World) (h : StkH w b si g n G) : CallsD Tryz.prog 168 #[.pointer (some ⟨b, 0, none⟩)] .returning w (fun e u' w' => u' = .returning ∧ (e = .returned (.tuple #[]) ∧ Hid (StkH w' b si g 0 G ∧ Keep (fun k => k = si) w w'))) := by
 have hp := h.p
 have hs := siFree b si g n G w h
 clear h
 have H_hs := hid hs; clear hs
 go_enter_d Tryz.func168, Tryz.ntmps168
 go_wp2_with (fail)
 refine H_hs.out.mono ?_
 rintro e w2 ⟨rfl, hw⟩
 go_wp2_with (fail)
 go_end0
 exact ⟨rfl, hw⟩

theorem stkNat_new (b n : Nat) (w : World) (h : Stk0 w b) (hf : w.frozen? ⟨b, 0, none⟩ = false) (h4 : 4 < n) (hn2 : n ≤ 100) :
 Calls Tryz.prog 185 #[.pointer (some ⟨b, 0, none⟩), .int .i64 n] w (fun e w' => ∃ L', e = .returned (.slice (some ⟨w.heap.size + 1, 0, none⟩) n n) ∧ Hid (StkW w' b w.heap.size (w.heap.size + 1) (nr4 n) L' ∧ Keep (fun k => k = b) w w')) := by
 have hlt : b < w.heap.size := World.block_lt_of_cell? _ _ h
 have h0 := h
 unfold Stk0 at h
 have t1 : decide ((n : Int) ≤ 4) = false := by simp; omega
 have t2 : ¬ ((n : Int) ≤ 4) := by omega
 have hnew : ∀ W, (w.alloc (.cells #[.slice none 0 0] 184)).setCell ⟨b, 0, none⟩ (.pointer (some ⟨w.heap.size, 0, none⟩)) = W → W.cell? ⟨w.heap.size, 0, none⟩ = some (.slice none 0 0) ∧ W.frozen? ⟨w.heap.size, 0, none⟩ = false ∧ W.cell? ⟨b, 0, none⟩ = some (.pointer (some ⟨w.heap.size, 0, none⟩)) ∧ W.heap.size = w.heap.size + 1 ∧ Keep (fun k => k = b) w W := by
  rintro W rfl
  have r := heap_alloc_new w (.cells #[.slice none 0 0] 184)
  have c : (w.alloc (.cells #[.slice none 0 0] 184)).cell? ⟨w.heap.size, 0, none⟩ = some (.slice none 0 0) := (rwc r 0).trans rfl
  have f := frozen_of_row (w.alloc (.cells #[.slice none 0 0] 184)) w.heap.size 0 _ _ r
  refine ⟨by rw [cell?_setCell_ne (.inl (by show w.heap.size ≠ b; omega))]; exact c, by rw [frozen_setCell1]; exact f, cell?_setCell_eq rfl ?_, by simp [World.setCell], ?_⟩
  · rw [((Keep.refl (fun _ => False) w).alloc _).cell (p := ⟨b, 0, none⟩) hlt (fun h => h), h]; rfl
  · exact ((Keep.refl (fun k => k = b) w).alloc _).setCell (p := ⟨b, 0, none⟩) (fun _ => rfl) _
 have ka := fun o => cfr h ((Keep.refl (fun _ => False) w).alloc o)
 have kf := fun o => frozen_keep hlt ((Keep.refl (fun _ => False) w).alloc o) (fun h => h) hf
 have hsi := fun W (h1 : W.cell? ⟨w.heap.size, 0, none⟩ = some (.slice none 0 0)) (h2 : W.frozen? ⟨w.heap.size, 0, none⟩ = false) => siNat_nil w.heap.size n W h1 h2 (by omega) hn2
 clear h0
 have H_hlt := hid hlt; have H_hnew := hid hnew; have H_hsi := hid hsi; have H_hf := hid hf; clear hlt hnew hsi hf
 go_enter Tryz.func185, Tryz.ntmps185
 go_wp2_with (fail)
 clear ka kf h
 generalize hw1 : (w.alloc _).setCell _ _ = w1
 obtain ⟨c1, c2, c3, c4, c5⟩ := H_hnew.out w1 hw1
 refine (H_hsi.out w1 c1 c2).mono ?_
 rintro e w2 ⟨L', rfl, hh⟩
 rw [c4] at hh ⊢
 have hb2 := H_hlt.out
 have hp : w2.cell? ⟨b, 0, none⟩ = some (.pointer (some ⟨w.heap.size, 0, none⟩)) := (hh.out.2.cell (p := ⟨b, 0, none⟩) (by show b < w1.heap.size; omega) (by show ¬ b = w.heap.size; omega)).trans c3
 have hk : Keep (fun k => k = b) w w2 := c5.trans hh.out.2 (fun _ _ h => h) (fun k hk h => by omega)
 clear c1 c2 c3 c4 c5
 have H_hh := hid hh; have H_hp := hid hp; have H_hk := hid hk; have H_hb2 := hid hb2; have H_hw1 := hid hw1; clear hh hp hk hb2 hw1
 go_wp2_with (fail)
 go_ret
 have hb2 := H_hb2.out
 exact ⟨L', rfl, hid ⟨⟨H_hp.out, H_hh.out.1, by omega, by omega⟩, H_hk.out⟩⟩

theorem VAt.set_far {w w' : World} {g off x : Nat} {L vs : List Nat} (h : VAt w g 0 vs) (bl : Blk .u64 w g L) (b2 : Blk .u64 w' g (L.set off x)) (hl : vs.length ≤ off) (hx : x < 18446744073709551616) : VAt w' g 0 vs := by
 obtain ⟨K, h1, h2, h3, h4⟩ := h
 obtain rfl : K = L := Blk.uniq h1 bl
 refine ⟨_, b2, by simpa using h2, ?_, fun a ha => ?_⟩
 · have e : seg (K.set off x) 0 vs.length = seg K 0 vs.length := seg_ext (by simpa using h2) h2 (fun j hj => by
    simp only [List.getD_eq_getElem?_getD]
    rw [List.getElem?_set_ne (by omega)])
   rw [e, h3]
 · rcases List.mem_or_eq_of_mem_set ha with h | rfl
   · exact h4 a h
   · exact hx

theorem siNat_any (si g off n : Nat) (L : List Nat) (w : World) (h : SiS w si g off L) (hn : 0 < n) (hn2 : n ≤ 100) (hoff : off ≤ 800) :
 Calls Tryz.prog 215 #[.pointer (some ⟨si, 0, none⟩), .int .i64 n] w (fun e w' => ∃ g' L', e = .returned (.slice (some ⟨g', off, none⟩) n n) ∧
  Hid (SiS w' si g' (off + nr4 n) L' ∧ (∀ vs, VAt w g 0 vs → vs.length ≤ off → VAt w' g 0 vs) ∧ (g' = g ∨ w.heap.size ≤ g') ∧ Keep (fun k => k = si ∨ k = g) w w')) := by
 rcases Nat.lt_or_ge L.length (off + nr4 n) with hr | hr
 · refine (siNat_more si g off n L w h hn hn2 hoff hr).mono ?_
   rintro e w' ⟨L', rfl, hh⟩
   exact ⟨_, L', rfl, hid ⟨hh.out.1, fun vs hv _ => hv.keep hh.out.2.2 (fun e => h.ne e.symm), .inr (Nat.le_refl _), hh.out.2.2.mono (fun _ _ h => .inl h)⟩⟩
 · refine (siNat_room si g off n L w h hn hn2 hoff hr).mono ?_
   rintro e w' ⟨rfl, hh⟩
   exact ⟨g, _, rfl, hid ⟨hh.out.1, fun vs hv hl => hv.set_far h.bl hh.out.1.bl hl (by decide), .inl rfl, hh.out.2⟩⟩

theorem stkNat_more (b si g off n : Nat) (L : List Nat) (w : World) (h : StkW w b si g off L) (hn : 0 < n) (hn2 : n ≤ 100) (hoff : off ≤ 800) :
 Calls Tryz.prog 185 #[.pointer (some ⟨b, 0, none⟩), .int .i64 n] w (fun e w' => ∃ g' L', e = .returned (.slice (some ⟨g', off, none⟩) n n) ∧
  Hid (StkW w' b si g' (off + nr4 n) L' ∧ (∀ vs, VAt w g 0 vs → vs.length ≤ off → VAt w' g 0 vs) ∧ (g' = g ∨ w.heap.size ≤ g') ∧ Keep (fun k => k = si ∨ k = g) w w')) := by
 have hp := h.p
 have hlt : b < w.heap.size := World.block_lt_of_cell? _ _ hp
 have hs := siNat_any si g off n L w h.s hn hn2 hoff
 have d1 := h.d1
 have d2 := h.d2
 clear h
 have H_hs := hid hs; have H_hlt := hid hlt; have H_d1 := hid d1; have H_d2 := hid d2; clear hs hlt d1 d2
 go_enter Tryz.func185, Tryz.ntmps185
 go_wp2_with (fail)
 refine H_hs.out.mono ?_
 rintro e w2 ⟨g', L', rfl, hh⟩
 have hp2 : w2.cell? ⟨b, 0, none⟩ = some (.pointer (some ⟨si, 0, none⟩)) := (hh.out.2.2.2.cell (p := ⟨b, 0, none⟩) H_hlt.out (fun h => h.elim (fun e => H_d1.out e) (fun e => H_d2.out e))).trans hp
 clear hp
 have H_hh := hid hh; have H_hp2 := hid hp2; clear hh hp2
 go_wp2_with (fail)
 go_ret
 refine ⟨g', L', rfl, hid ⟨⟨H_hp2.out, H_hh.out.1, H_d1.out, ?_⟩, H_hh.out.2.1, H_hh.out.2.2.1, H_hh.out.2.2.2⟩⟩
 rcases H_hh.out.2.2.1 with h | h
 · rw [h]; exact H_d2.out
 · have := H_hlt.out; omega

theorem StkW.put {w w' : World} {b si g n : Nat} {L L' : List Nat} (h : StkW w b si g n L) (hk : Keep (fun k => k = g) w w') (bl : Blk .u64 w' g L') (hl : L'.length = L.length) (hb : ∀ a ∈ L', a < 18446744073709551616) : StkW w' b si g n L' := by
 have h1 := h.h.keep hk h.d2 h.s.ne
 rw [← hl] at h1
 exact ⟨h1.p, ⟨h1.c, h1.f, bl, hb, by rw [hl]; exact h.s.le, by rw [hl]; exact h.s.mx, h.s.ne⟩, h.d1, h.d2⟩

end Go.Proofs.YtllencgncinphaaGreatDoor
