/- math/bits: Len64, LeadingZeros64; nlz. -/
import Derived.Test.YtllencgncinphaaGreatDoorK1
import Derived.Test.YtllencgncinphaaGreatDoorK26
namespace Go.Proofs.YtllencgncinphaaGreatDoor
open Go.RowKit

/-- the lengths in bits of the numbers below 256 -/
def lenTab : ByteArray := { data := #[0, 1, 2, 2, 3, 3, 3, 3, 4, 4, 4, 4, 4, 4, 4, 4, 5, 5, 5, 5, 5, 5, 5, 5, 5, 5, 5, 5, 5, 5, 5, 5, 6, 6, 6, 6, 6, 6, 6, 6, 6, 6, 6, 6, 6, 6, 6, 6, 6, 6, 6, 6, 6, 6, 6, 6, 6, 6, 6, 6, 6, 6, 6, 6, 7, 7, 7, 7, 7, 7, 7, 7, 7, 7, 7, 7, 7, 7, 7, 7, 7, 7, 7, 7, 7, 7, 7, 7, 7, 7, 7, 7, 7, 7, 7, 7, 7, 7, 7, 7, 7, 7, 7, 7, 7, 7, 7, 7, 7, 7, 7, 7, 7, 7, 7, 7, 7, 7, 7, 7, 7, 7, 7, 7, 7, 7, 7, 7, 8, 8, 8, 8, 8, 8, 8, 8, 8, 8, 8, 8, 8, 8, 8, 8, 8, 8, 8, 8, 8, 8, 8, 8, 8, 8, 8, 8, 8, 8, 8, 8, 8, 8, 8, 8, 8, 8, 8, 8, 8, 8, 8, 8, 8, 8, 8, 8, 8, 8, 8, 8, 8, 8, 8, 8, 8, 8, 8, 8, 8, 8, 8, 8, 8, 8, 8, 8, 8, 8, 8, 8, 8, 8, 8, 8, 8, 8, 8, 8, 8, 8, 8, 8, 8, 8, 8, 8, 8, 8, 8, 8, 8, 8, 8, 8, 8, 8, 8, 8, 8, 8, 8, 8, 8, 8, 8, 8, 8, 8, 8, 8, 8, 8, 8, 8, 8, 8, 8, 8, 8, 8, 8, 8, 8, 8, 8, 8] }

theorem lenTab_size : lenTab.size = 256 := by decide +kernel

set_option maxRecDepth 20000 in
theorem lenTab_all : ∀ i : Fin 256, (lenTab[i.val]'(by rw [lenTab_size]; exact i.isLt)).toNat ≤ 8 ∧ (0 < i.val → i.val < 2 ^ (lenTab[i.val]'(by rw [lenTab_size]; exact i.isLt)).toNat ∧ 2 ^ (lenTab[i.val]'(by rw [lenTab_size]; exact i.isLt)).toNat ≤ 2 * i.val) := by decide +kernel

theorem lenTab_at (y : Nat) (hy : y < 256) (h : y < lenTab.size) (h0 : 0 < y) : lenTab[y].toNat ≤ 8 ∧ y < 2 ^ lenTab[y].toNat ∧ 2 ^ lenTab[y].toNat ≤ 2 * y := by
  obtain ⟨h1, h2⟩ := lenTab_all ⟨y, hy⟩
  exact ⟨h1, h2 h0⟩

theorem wrap64_nat (n : Nat) (h : n < 1000) : wrap64 (n : Int) = (n : Int) := by unfold wrap64; omega

theorem len_fin (t n : Nat) (h : t ≤ 8) (hn : n ≤ 56) : wrap64 ((n : Int) + wrap64 (t : Int)) = ((n + t : Nat) : Int) ∧ wrap64 (wrap64 (t : Int)) = ((0 + t : Nat) : Int) := by
  have h1 := wrap64_nat t (by omega)
  have h2 := wrap64_nat (n + t) (by omega)
  refine ⟨?_, ?_⟩
  · rw [h1, show (n : Int) + (t : Int) = ((n + t : Nat) : Int) from by omega]; exact h2
  · rw [h1, h1, Nat.zero_add]

/-- how many bits a number has -/
def BitLen (x n : Nat) : Prop := x < 2 ^ n ∧ 2 ^ n ≤ 2 * x ∧ n ≤ 64

theorem bitLen_shift {x y S k t : Nat} (hS : S = 2 ^ k) (h1 : y * S ≤ x) (h2 : x < (y + 1) * S) (h3 : y < 2 ^ t) (h4 : 2 ^ t ≤ 2 * y) (hk : k + t ≤ 64) : BitLen x (k + t) := by
  have e : 2 ^ (k + t) = 2 ^ t * S := by rw [hS, ← Nat.pow_add, Nat.add_comm]
  refine ⟨?_, ?_, hk⟩
  · rw [e]
    exact Nat.lt_of_lt_of_le h2 (Nat.mul_le_mul_right _ h3)
  · rw [e]
    have := Nat.mul_le_mul_right S h4
    rw [Nat.mul_assoc] at this
    omega

set_option maxRecDepth 20000 in
set_option maxHeartbeats 1000000 in
theorem Len64_111 (x : Nat) (w : World) (hx : x < 18446744073709551616) (h0 : 0 < x) (h1 : 4294967296 ≤ x) (h2 : 65536 ≤ x / 4294967296) (h3 : 256 ≤ x / 4294967296 / 65536) :
    Calls Tryz.prog 247 #[.int .u64 x] w (fun e w' => ∃ n : Nat, e = .returned (.int .i64 n) ∧ BitLen x n ∧ w' = w) := by
  have t1 : decide ((4294967296 : Int) ≤ (x : Int)) = true := by simp; omega
  obtain ⟨y1, e1⟩ : ∃ y, y = x / 4294967296 := ⟨_, rfl⟩
  have i1 : (x : Int) / 4294967296 = (y1 : Int) := by omega
  rw [← e1] at h2
  have t2 : decide ((65536 : Int) ≤ (y1 : Int)) = true := by simp; omega
  obtain ⟨y2, e2⟩ : ∃ y, y = y1 / 65536 := ⟨_, rfl⟩
  have i2 : (y1 : Int) / 65536 = (y2 : Int) := by omega
  rw [← e1] at h3
  rw [← e2] at h3
  have t3 : decide ((256 : Int) ≤ (y2 : Int)) = true := by simp; omega
  obtain ⟨y3, e3⟩ : ∃ y, y = y2 / 256 := ⟨_, rfl⟩
  have i3 : (y2 : Int) / 256 = (y3 : Int) := by omega
  have hy : y3 < 256 := by omega
  have hy0 : 0 < y3 := by omega
  have hb : y3 * 72057594037927936 ≤ x ∧ x < (y3 + 1) * 72057594037927936 := by omega
  clear e1 e2 e3
  have H_hb := Lib.hid hb
  clear hb
  go_enter Tryz.func247, Tryz.ntmps247
  go_wp2
  go_ret
  have hsz : y3 < lenTab.size := by rw [lenTab_size]; exact hy
  obtain ⟨a1, a2, a3⟩ := lenTab_at y3 hy hsz hy0
  refine ⟨56 + lenTab[y3].toNat, ?_, bitLen_shift (S := 72057594037927936) (k := 56) rfl H_hb.out.1 H_hb.out.2 a2 a3 (Nat.le_trans (Nat.add_le_add_left a1 56) (by decide)), rfl⟩
  generalize ht : lenTab[y3].toNat = t at *
  change Ending.returned (Value.int IntKind.i64 (wrap64 (((56 : Nat) : Int) + wrap64 ((lenTab[y3].toNat : Nat) : Int)))) = _
  rw [ht]
  exact congrArg (fun z => Ending.returned (Value.int IntKind.i64 z)) (len_fin t 56 a1 (by decide)).1

set_option maxRecDepth 20000 in
set_option maxHeartbeats 1000000 in
theorem Len64_110 (x : Nat) (w : World) (hx : x < 18446744073709551616) (h0 : 0 < x) (h1 : 4294967296 ≤ x) (h2 : 65536 ≤ x / 4294967296) (h3 : x / 4294967296 / 65536 < 256) :
    Calls Tryz.prog 247 #[.int .u64 x] w (fun e w' => ∃ n : Nat, e = .returned (.int .i64 n) ∧ BitLen x n ∧ w' = w) := by
  have t1 : decide ((4294967296 : Int) ≤ (x : Int)) = true := by simp; omega
  obtain ⟨y1, e1⟩ : ∃ y, y = x / 4294967296 := ⟨_, rfl⟩
  have i1 : (x : Int) / 4294967296 = (y1 : Int) := by omega
  rw [← e1] at h2
  have t2 : decide ((65536 : Int) ≤ (y1 : Int)) = true := by simp; omega
  obtain ⟨y2, e2⟩ : ∃ y, y = y1 / 65536 := ⟨_, rfl⟩
  have i2 : (y1 : Int) / 65536 = (y2 : Int) := by omega
  rw [← e1] at h3
  rw [← e2] at h3
  have t3 : decide ((256 : Int) ≤ (y2 : Int)) = false := by simp; omega
  have t3n : ¬ 256 ≤ y2 := by omega
  have hy : y2 < 256 := by omega
  have hy0 : 0 < y2 := by omega
  have hb : y2 * 281474976710656 ≤ x ∧ x < (y2 + 1) * 281474976710656 := by omega
  clear e1 e2
  have H_hb := Lib.hid hb
  clear hb
  go_enter Tryz.func247, Tryz.ntmps247
  go_wp2
  go_ret
  have hsz : y2 < lenTab.size := by rw [lenTab_size]; exact hy
  obtain ⟨a1, a2, a3⟩ := lenTab_at y2 hy hsz hy0
  refine ⟨48 + lenTab[y2].toNat, ?_, bitLen_shift (S := 281474976710656) (k := 48) rfl H_hb.out.1 H_hb.out.2 a2 a3 (Nat.le_trans (Nat.add_le_add_left a1 48) (by decide)), rfl⟩
  generalize ht : lenTab[y2].toNat = t at *
  change Ending.returned (Value.int IntKind.i64 (wrap64 (((48 : Nat) : Int) + wrap64 ((lenTab[y2].toNat : Nat) : Int)))) = _
  rw [ht]
  exact congrArg (fun z => Ending.returned (Value.int IntKind.i64 z)) (len_fin t 48 a1 (by decide)).1

set_option maxRecDepth 20000 in
set_option maxHeartbeats 1000000 in
theorem Len64_101 (x : Nat) (w : World) (hx : x < 18446744073709551616) (h0 : 0 < x) (h1 : 4294967296 ≤ x) (h2 : x / 4294967296 < 65536) (h3 : 256 ≤ x / 4294967296) :
    Calls Tryz.prog 247 #[.int .u64 x] w (fun e w' => ∃ n : Nat, e = .returned (.int .i64 n) ∧ BitLen x n ∧ w' = w) := by
  have t1 : decide ((4294967296 : Int) ≤ (x : Int)) = true := by simp; omega
  obtain ⟨y1, e1⟩ : ∃ y, y = x / 4294967296 := ⟨_, rfl⟩
  have i1 : (x : Int) / 4294967296 = (y1 : Int) := by omega
  rw [← e1] at h2
  have t2 : decide ((65536 : Int) ≤ (y1 : Int)) = false := by simp; omega
  have t2n : ¬ 65536 ≤ y1 := by omega
  rw [← e1] at h3
  have t3 : decide ((256 : Int) ≤ (y1 : Int)) = true := by simp; omega
  obtain ⟨y3, e3⟩ : ∃ y, y = y1 / 256 := ⟨_, rfl⟩
  have i3 : (y1 : Int) / 256 = (y3 : Int) := by omega
  have hy : y3 < 256 := by omega
  have hy0 : 0 < y3 := by omega
  have hb : y3 * 1099511627776 ≤ x ∧ x < (y3 + 1) * 1099511627776 := by omega
  clear e1 e3
  have H_hb := Lib.hid hb
  clear hb
  go_enter Tryz.func247, Tryz.ntmps247
  go_wp2
  go_ret
  have hsz : y3 < lenTab.size := by rw [lenTab_size]; exact hy
  obtain ⟨a1, a2, a3⟩ := lenTab_at y3 hy hsz hy0
  refine ⟨40 + lenTab[y3].toNat, ?_, bitLen_shift (S := 1099511627776) (k := 40) rfl H_hb.out.1 H_hb.out.2 a2 a3 (Nat.le_trans (Nat.add_le_add_left a1 40) (by decide)), rfl⟩
  generalize ht : lenTab[y3].toNat = t at *
  change Ending.returned (Value.int IntKind.i64 (wrap64 (((40 : Nat) : Int) + wrap64 ((lenTab[y3].toNat : Nat) : Int)))) = _
  rw [ht]
  exact congrArg (fun z => Ending.returned (Value.int IntKind.i64 z)) (len_fin t 40 a1 (by decide)).1

set_option maxRecDepth 20000 in
set_option maxHeartbeats 1000000 in
theorem Len64_100 (x : Nat) (w : World) (hx : x < 18446744073709551616) (h0 : 0 < x) (h1 : 4294967296 ≤ x) (h2 : x / 4294967296 < 65536) (h3 : x / 4294967296 < 256) :
    Calls Tryz.prog 247 #[.int .u64 x] w (fun e w' => ∃ n : Nat, e = .returned (.int .i64 n) ∧ BitLen x n ∧ w' = w) := by
  have t1 : decide ((4294967296 : Int) ≤ (x : Int)) = true := by simp; omega
  obtain ⟨y1, e1⟩ : ∃ y, y = x / 4294967296 := ⟨_, rfl⟩
  have i1 : (x : Int) / 4294967296 = (y1 : Int) := by omega
  rw [← e1] at h2
  have t2 : decide ((65536 : Int) ≤ (y1 : Int)) = false := by simp; omega
  have t2n : ¬ 65536 ≤ y1 := by omega
  rw [← e1] at h3
  have t3 : decide ((256 : Int) ≤ (y1 : Int)) = false := by simp; omega
  have t3n : ¬ 256 ≤ y1 := by omega
  have hy : y1 < 256 := by omega
  have hy0 : 0 < y1 := by omega
  have hb : y1 * 4294967296 ≤ x ∧ x < (y1 + 1) * 4294967296 := by omega
  clear e1
  have H_hb := Lib.hid hb
  clear hb
  go_enter Tryz.func247, Tryz.ntmps247
  go_wp2
  go_ret
  have hsz : y1 < lenTab.size := by rw [lenTab_size]; exact hy
  obtain ⟨a1, a2, a3⟩ := lenTab_at y1 hy hsz hy0
  refine ⟨32 + lenTab[y1].toNat, ?_, bitLen_shift (S := 4294967296) (k := 32) rfl H_hb.out.1 H_hb.out.2 a2 a3 (Nat.le_trans (Nat.add_le_add_left a1 32) (by decide)), rfl⟩
  generalize ht : lenTab[y1].toNat = t at *
  change Ending.returned (Value.int IntKind.i64 (wrap64 (((32 : Nat) : Int) + wrap64 ((lenTab[y1].toNat : Nat) : Int)))) = _
  rw [ht]
  exact congrArg (fun z => Ending.returned (Value.int IntKind.i64 z)) (len_fin t 32 a1 (by decide)).1

set_option maxRecDepth 20000 in
set_option maxHeartbeats 1000000 in
theorem Len64_011 (x : Nat) (w : World) (hx : x < 18446744073709551616) (h0 : 0 < x) (h1 : x < 4294967296) (h2 : 65536 ≤ x) (h3 : 256 ≤ x / 65536) :
    Calls Tryz.prog 247 #[.int .u64 x] w (fun e w' => ∃ n : Nat, e = .returned (.int .i64 n) ∧ BitLen x n ∧ w' = w) := by
  have t1 : decide ((4294967296 : Int) ≤ (x : Int)) = false := by simp; omega
  have t2 : decide ((65536 : Int) ≤ (x : Int)) = true := by simp; omega
  have t1n : ¬ 4294967296 ≤ x := by omega
  obtain ⟨y2, e2⟩ : ∃ y, y = x / 65536 := ⟨_, rfl⟩
  have i2 : (x : Int) / 65536 = (y2 : Int) := by omega
  rw [← e2] at h3
  have t3 : decide ((256 : Int) ≤ (y2 : Int)) = true := by simp; omega
  obtain ⟨y3, e3⟩ : ∃ y, y = y2 / 256 := ⟨_, rfl⟩
  have i3 : (y2 : Int) / 256 = (y3 : Int) := by omega
  have hy : y3 < 256 := by omega
  have hy0 : 0 < y3 := by omega
  have hb : y3 * 16777216 ≤ x ∧ x < (y3 + 1) * 16777216 := by omega
  clear e2 e3
  have H_hb := Lib.hid hb
  clear hb
  go_enter Tryz.func247, Tryz.ntmps247
  go_wp2
  go_ret
  have hsz : y3 < lenTab.size := by rw [lenTab_size]; exact hy
  obtain ⟨a1, a2, a3⟩ := lenTab_at y3 hy hsz hy0
  refine ⟨24 + lenTab[y3].toNat, ?_, bitLen_shift (S := 16777216) (k := 24) rfl H_hb.out.1 H_hb.out.2 a2 a3 (Nat.le_trans (Nat.add_le_add_left a1 24) (by decide)), rfl⟩
  generalize ht : lenTab[y3].toNat = t at *
  change Ending.returned (Value.int IntKind.i64 (wrap64 (((24 : Nat) : Int) + wrap64 ((lenTab[y3].toNat : Nat) : Int)))) = _
  rw [ht]
  exact congrArg (fun z => Ending.returned (Value.int IntKind.i64 z)) (len_fin t 24 a1 (by decide)).1

set_option maxRecDepth 20000 in
set_option maxHeartbeats 1000000 in
theorem Len64_010 (x : Nat) (w : World) (hx : x < 18446744073709551616) (h0 : 0 < x) (h1 : x < 4294967296) (h2 : 65536 ≤ x) (h3 : x / 65536 < 256) :
    Calls Tryz.prog 247 #[.int .u64 x] w (fun e w' => ∃ n : Nat, e = .returned (.int .i64 n) ∧ BitLen x n ∧ w' = w) := by
  have t1 : decide ((4294967296 : Int) ≤ (x : Int)) = false := by simp; omega
  have t2 : decide ((65536 : Int) ≤ (x : Int)) = true := by simp; omega
  have t1n : ¬ 4294967296 ≤ x := by omega
  obtain ⟨y2, e2⟩ : ∃ y, y = x / 65536 := ⟨_, rfl⟩
  have i2 : (x : Int) / 65536 = (y2 : Int) := by omega
  rw [← e2] at h3
  have t3 : decide ((256 : Int) ≤ (y2 : Int)) = false := by simp; omega
  have t3n : ¬ 256 ≤ y2 := by omega
  have hy : y2 < 256 := by omega
  have hy0 : 0 < y2 := by omega
  have hb : y2 * 65536 ≤ x ∧ x < (y2 + 1) * 65536 := by omega
  clear e2
  have H_hb := Lib.hid hb
  clear hb
  go_enter Tryz.func247, Tryz.ntmps247
  go_wp2
  go_ret
  have hsz : y2 < lenTab.size := by rw [lenTab_size]; exact hy
  obtain ⟨a1, a2, a3⟩ := lenTab_at y2 hy hsz hy0
  refine ⟨16 + lenTab[y2].toNat, ?_, bitLen_shift (S := 65536) (k := 16) rfl H_hb.out.1 H_hb.out.2 a2 a3 (Nat.le_trans (Nat.add_le_add_left a1 16) (by decide)), rfl⟩
  generalize ht : lenTab[y2].toNat = t at *
  change Ending.returned (Value.int IntKind.i64 (wrap64 (((16 : Nat) : Int) + wrap64 ((lenTab[y2].toNat : Nat) : Int)))) = _
  rw [ht]
  exact congrArg (fun z => Ending.returned (Value.int IntKind.i64 z)) (len_fin t 16 a1 (by decide)).1

set_option maxRecDepth 20000 in
set_option maxHeartbeats 1000000 in
theorem Len64_001 (x : Nat) (w : World) (hx : x < 18446744073709551616) (h0 : 0 < x) (h1 : x < 4294967296) (h2 : x < 65536) (h3 : 256 ≤ x) :
    Calls Tryz.prog 247 #[.int .u64 x] w (fun e w' => ∃ n : Nat, e = .returned (.int .i64 n) ∧ BitLen x n ∧ w' = w) := by
  have t1 : decide ((4294967296 : Int) ≤ (x : Int)) = false := by simp; omega
  have t2 : decide ((65536 : Int) ≤ (x : Int)) = false := by simp; omega
  have t2n : ¬ 65536 ≤ x := by omega
  have t1n : ¬ 4294967296 ≤ x := by omega
  have t3 : decide ((256 : Int) ≤ (x : Int)) = true := by simp; omega
  obtain ⟨y3, e3⟩ : ∃ y, y = x / 256 := ⟨_, rfl⟩
  have i3 : (x : Int) / 256 = (y3 : Int) := by omega
  have hy : y3 < 256 := by omega
  have hy0 : 0 < y3 := by omega
  have hb : y3 * 256 ≤ x ∧ x < (y3 + 1) * 256 := by omega
  clear e3
  have H_hb := Lib.hid hb
  clear hb
  go_enter Tryz.func247, Tryz.ntmps247
  go_wp2
  go_ret
  have hsz : y3 < lenTab.size := by rw [lenTab_size]; exact hy
  obtain ⟨a1, a2, a3⟩ := lenTab_at y3 hy hsz hy0
  refine ⟨8 + lenTab[y3].toNat, ?_, bitLen_shift (S := 256) (k := 8) rfl H_hb.out.1 H_hb.out.2 a2 a3 (Nat.le_trans (Nat.add_le_add_left a1 8) (by decide)), rfl⟩
  generalize ht : lenTab[y3].toNat = t at *
  change Ending.returned (Value.int IntKind.i64 (wrap64 (((8 : Nat) : Int) + wrap64 ((lenTab[y3].toNat : Nat) : Int)))) = _
  rw [ht]
  exact congrArg (fun z => Ending.returned (Value.int IntKind.i64 z)) (len_fin t 8 a1 (by decide)).1

set_option maxRecDepth 20000 in
set_option maxHeartbeats 1000000 in
theorem Len64_000 (x : Nat) (w : World) (hx : x < 18446744073709551616) (h0 : 0 < x) (h1 : x < 4294967296) (h2 : x < 65536) (h3 : x < 256) :
    Calls Tryz.prog 247 #[.int .u64 x] w (fun e w' => ∃ n : Nat, e = .returned (.int .i64 n) ∧ BitLen x n ∧ w' = w) := by
  have t1 : decide ((4294967296 : Int) ≤ (x : Int)) = false := by simp; omega
  have t2 : decide ((65536 : Int) ≤ (x : Int)) = false := by simp; omega
  have t2n : ¬ 65536 ≤ x := by omega
  have t1n : ¬ 4294967296 ≤ x := by omega
  have t3 : decide ((256 : Int) ≤ (x : Int)) = false := by simp; omega
  have t3n : ¬ 256 ≤ x := by omega
  have hy : x < 256 := by omega
  have hy0 : 0 < x := by omega
  have hb : x * 1 ≤ x ∧ x < (x + 1) * 1 := by omega
  have H_hb := Lib.hid hb
  clear hb
  go_enter Tryz.func247, Tryz.ntmps247
  go_wp2
  go_ret
  have hsz : x < lenTab.size := by rw [lenTab_size]; exact hy
  obtain ⟨a1, a2, a3⟩ := lenTab_at x hy hsz hy0
  refine ⟨0 + lenTab[x].toNat, ?_, bitLen_shift (S := 1) (k := 0) rfl H_hb.out.1 H_hb.out.2 a2 a3 (Nat.le_trans (Nat.add_le_add_left a1 0) (by decide)), rfl⟩
  generalize ht : lenTab[x].toNat = t at *
  change Ending.returned (Value.int IntKind.i64 (wrap64 (wrap64 ((lenTab[x].toNat : Nat) : Int)))) = _
  rw [ht]
  exact congrArg (fun z => Ending.returned (Value.int IntKind.i64 z)) (len_fin t 0 a1 (by decide)).2

theorem Len64_any (x : Nat) (w : World) (hx : x < 18446744073709551616) (h0 : 0 < x) :
    Calls Tryz.prog 247 #[.int .u64 x] w (fun e w' => ∃ n : Nat, e = .returned (.int .i64 n) ∧ BitLen x n ∧ w' = w) := by
  rcases Nat.lt_or_ge x 4294967296 with h1 | h1
  · rcases Nat.lt_or_ge x 65536 with h2 | h2
    · rcases Nat.lt_or_ge x 256 with h3 | h3
      · exact Len64_000 x w hx h0 h1 h2 h3
      · exact Len64_001 x w hx h0 h1 h2 h3
    · rcases Nat.lt_or_ge (x / 65536) 256 with h3 | h3
      · exact Len64_010 x w hx h0 h1 h2 h3
      · exact Len64_011 x w hx h0 h1 h2 h3
  · rcases Nat.lt_or_ge (x / 4294967296) 65536 with h2 | h2
    · rcases Nat.lt_or_ge (x / 4294967296) 256 with h3 | h3
      · exact Len64_100 x w hx h0 h1 h2 h3
      · exact Len64_101 x w hx h0 h1 h2 h3
    · rcases Nat.lt_or_ge (x / 4294967296 / 65536) 256 with h3 | h3
      · exact Len64_110 x w hx h0 h1 h2 h3
      · exact Len64_111 x w hx h0 h1 h2 h3

/-- shifted so far a word begins with a 1 -/
def Lead (x s : Nat) : Prop := s < 64 ∧ 9223372036854775808 ≤ x * 2 ^ s ∧ x * 2 ^ s < 18446744073709551616

theorem lead_of {x n : Nat} (h0 : 0 < x) (h : BitLen x n) : Lead x (64 - n) := by
  obtain ⟨h1, h2, h3⟩ := h
  have hn : 0 < n := by
    rcases Nat.eq_zero_or_pos n with h | h
    · subst h; omega
    · exact h
  have e : 2 ^ n * 2 ^ (64 - n) = 18446744073709551616 := by rw [← Nat.pow_add, show n + (64 - n) = 64 by omega]
  have hp : 0 < 2 ^ (64 - n) := Nat.pow_pos (by omega)
  refine ⟨by omega, ?_, ?_⟩
  · have := Nat.mul_le_mul_right (2 ^ (64 - n)) h2
    rw [e, Nat.mul_assoc] at this
    omega
  · have := Nat.mul_lt_mul_of_pos_right h1 hp
    rwa [e] at this

theorem LeadingZeros64_any (x : Nat) (w : World) (hx : x < 18446744073709551616) (h0 : 0 < x) :
    Calls Tryz.prog 245 #[.int .u64 x] w (fun e w' => ∃ s : Nat, e = .returned (.int .i64 s) ∧ Lead x s ∧ w' = w) := by
  have hc := Len64_any x w hx h0
  have H_hc := Lib.hid hc; clear hc
  go_enter Tryz.func245, Tryz.ntmps245
  go_wp2_with (fail)
  refine H_hc.out.mono ?_
  rintro e w2 ⟨n, rfl, hb, hs⟩
  subst hs
  have hl := lead_of h0 hb
  have hb64 := hb.2.2
  have hI : (64 : Int) - (n : Int) = ((64 - n : Nat) : Int) := by omega
  obtain ⟨s, hs⟩ : ∃ s, s = 64 - n := ⟨_, rfl⟩
  rw [← hs] at hI hl
  clear hs hb
  have H_hl := Lib.hid hl; clear hl
  go_wp2_with (fail)
  go_ret
  exact ⟨s, rfl, H_hl.out, rfl⟩

theorem bitsLen_any (x : Nat) (w : World) (hx : x < 18446744073709551616) (h0 : 0 < x) :
    Calls Tryz.prog 232 #[.int .u64 x] w (fun e w' => ∃ n : Nat, e = .returned (.int .i64 n) ∧ BitLen x n ∧ w' = w) := by
  have hc := Len64_any x w hx h0
  have H_hc := Lib.hid hc; clear hc
  go_enter Tryz.func232, Tryz.ntmps232
  go_wp2_with (fail)
  refine H_hc.out.mono ?_
  rintro e w2 ⟨n, rfl, hb, hs⟩
  subst hs
  have H_hb := Lib.hid hb; clear hb
  go_wp2_with (fail)
  go_ret
  exact ⟨n, rfl, H_hb.out, rfl⟩

theorem LeadingZeros_any (x : Nat) (w : World) (hx : x < 18446744073709551616) (h0 : 0 < x) :
    Calls Tryz.prog 213 #[.int .u64 x] w (fun e w' => ∃ s : Nat, e = .returned (.int .i64 s) ∧ Lead x s ∧ w' = w) := by
  have hc := bitsLen_any x w hx h0
  have H_hc := Lib.hid hc; clear hc
  go_enter Tryz.func213, Tryz.ntmps213
  go_wp2_with (fail)
  refine H_hc.out.mono ?_
  rintro e w2 ⟨n, rfl, hb, hs⟩
  subst hs
  have hl := lead_of h0 hb
  have hb64 := hb.2.2
  have hI : (64 : Int) - (n : Int) = ((64 - n : Nat) : Int) := by omega
  obtain ⟨s, hs⟩ : ∃ s, s = 64 - n := ⟨_, rfl⟩
  rw [← hs] at hI hl
  clear hs hb
  have H_hl := Lib.hid hl; clear hl
  go_wp2_with (fail)
  go_ret
  exact ⟨s, rfl, H_hl.out, rfl⟩

theorem nlz_any (x : Nat) (w : World) (hx : x < 18446744073709551616) (h0 : 0 < x) :
    Calls Tryz.prog 184 #[.int .u64 x] w (fun e w' => ∃ s : Nat, e = .returned (.int .u64 s) ∧ Lead x s ∧ w' = w) := by
  have hc := LeadingZeros_any x w hx h0
  have H_hc := Lib.hid hc; clear hc
  go_enter Tryz.func184, Tryz.ntmps184
  go_wp2_with (fail)
  refine H_hc.out.mono ?_
  rintro e w2 ⟨s, rfl, hl, hs⟩
  subst hs
  have hs64 := hl.1
  have H_hl := Lib.hid hl; clear hl
  go_wp2_with (fail)
  go_ret
  exact ⟨s, rfl, H_hl.out, rfl⟩

end Go.Proofs.YtllencgncinphaaGreatDoor
