/-
  DERIVED. GIVEN WITH THE SEED: THE PROGRAM's TIES (one call each: nine closed facts by the kernel) AND EACH ROW's TIE, after the 31st guide's Derived/Test/Toyas{Tie, Card}.lean. No idea stands in it: it is a product of the set-up. Laid BY PROGRAM, IN A SANDBOX (cutbox-door.mjs). By AI agents, Wed Nov 11 2026. No macro, syntax, notation, axiom, sorry.
-/
import Derived.Test.YtibaeafmgncjdaaGreatDoorRows
import Derived.LaidByTextLater
import Derived.SevenTiedAt
import Derived.LaidSub
import Derived.LaidOnce
namespace Go.Proofs.YtibaeafmgncjdaaGreatDoor
open Go
set_option maxRecDepth 100000
theorem seatTie1 : Tryz.prog.laidByTextLater [("math/bits.deBruijn32tab", Rows.laid_math_bits_deBruijn32tab), ("math/bits.deBruijn64tab", Rows.laid_math_bits_deBruijn64tab), ("given.example/pub-alexandrine/pub/bigall.leafSize", Rows.laid_given_example_pub_alexandrine_pub_bigall_leafSize), ("given.example/pub-alexandrine/pub/bigall.divRecursiveThreshold", Rows.laid_given_example_pub_alexandrine_pub_bigall_divRecursiveThreshold), ("given.example/pub-alexandrine/pub/bigall.karatsubaThreshold", Rows.laid_given_example_pub_alexandrine_pub_bigall_karatsubaThreshold), ("given.example/pub-alexandrine/pub/bigall.basicSqrThreshold", Rows.laid_given_example_pub_alexandrine_pub_bigall_basicSqrThreshold), ("given.example/pub-alexandrine/pub/bigall.karatsubaSqrThreshold", Rows.laid_given_example_pub_alexandrine_pub_bigall_karatsubaSqrThreshold), ("given.example/pub-alexandrine/pub/govalues.errDecimalOverflow", Rows.laid_given_example_pub_alexandrine_pub_govalues_errDecimalOverflow), ("given.example/pub-alexandrine/pub/govalues.errScaleRange", Rows.laid_given_example_pub_alexandrine_pub_govalues_errScaleRange), ("given.example/pub-alexandrine/pub/govalues.pow10", Rows.laid_given_example_pub_alexandrine_pub_govalues_pow10)] [.data, .data, .data, .data, .data, .data, .data, .sentinel, .sentinel, .data] true :=
  Program.laidByTextLater_by_one 82 8 65 (by kernel_rfl) (by kernel_rfl) (by kernel_rfl) (by kernel_rfl) (by kernel_rfl) (by kernel_rfl) (fun _ _ => by kernel_rfl)
theorem noOwnUnsafe : Tryz.pinned.checked.prog.headLifts.contains "ownunsafe" = false := by kernel_rfl
theorem tie : Tryz.prog.laidByTextLater [("math/bits.deBruijn32tab", Rows.laid_math_bits_deBruijn32tab), ("math/bits.deBruijn64tab", Rows.laid_math_bits_deBruijn64tab), ("given.example/pub-alexandrine/pub/bigall.leafSize", Rows.laid_given_example_pub_alexandrine_pub_bigall_leafSize), ("given.example/pub-alexandrine/pub/bigall.divRecursiveThreshold", Rows.laid_given_example_pub_alexandrine_pub_bigall_divRecursiveThreshold), ("given.example/pub-alexandrine/pub/bigall.karatsubaThreshold", Rows.laid_given_example_pub_alexandrine_pub_bigall_karatsubaThreshold), ("given.example/pub-alexandrine/pub/bigall.basicSqrThreshold", Rows.laid_given_example_pub_alexandrine_pub_bigall_basicSqrThreshold), ("given.example/pub-alexandrine/pub/bigall.karatsubaSqrThreshold", Rows.laid_given_example_pub_alexandrine_pub_bigall_karatsubaSqrThreshold), ("given.example/pub-alexandrine/pub/govalues.errDecimalOverflow", Rows.laid_given_example_pub_alexandrine_pub_govalues_errDecimalOverflow), ("given.example/pub-alexandrine/pub/govalues.errScaleRange", Rows.laid_given_example_pub_alexandrine_pub_govalues_errScaleRange), ("given.example/pub-alexandrine/pub/govalues.pow10", Rows.laid_given_example_pub_alexandrine_pub_govalues_pow10)] [.data, .data, .data, .data, .data, .data, .data, .sentinel, .sentinel, .data] true :=
  Program.laidByTextLater.sub seatTie1 ["math/bits.deBruijn32tab", "math/bits.deBruijn64tab", "given.example/pub-alexandrine/pub/bigall.leafSize", "given.example/pub-alexandrine/pub/bigall.divRecursiveThreshold", "given.example/pub-alexandrine/pub/bigall.karatsubaThreshold", "given.example/pub-alexandrine/pub/bigall.basicSqrThreshold", "given.example/pub-alexandrine/pub/bigall.karatsubaSqrThreshold", "given.example/pub-alexandrine/pub/govalues.errDecimalOverflow", "given.example/pub-alexandrine/pub/govalues.errScaleRange", "given.example/pub-alexandrine/pub/govalues.pow10"] (by kernel_rfl) (by kernel_rfl)
theorem fnFixCmp_row_tie : Rows.fnFixCmpRow.laidByTextAt .later Tryz.pinned [.data, .data, .data, .data, .data, .data, .data, .sentinel, .sentinel, .data] true :=
  OpenClaim.laidByTextAt_later rfl rfl tie noOwnUnsafe
theorem fnFixMul_row_tie : Rows.fnFixMulRow.laidByTextAt .later Tryz.pinned [.data, .data, .data, .data, .data, .data, .data, .sentinel, .sentinel, .data] true :=
  OpenClaim.laidByTextAt_later rfl rfl tie noOwnUnsafe
theorem fnFixAdd_row_tie : Rows.fnFixAddRow.laidByTextAt .later Tryz.pinned [.data, .data, .data, .data, .data, .data, .data, .sentinel, .sentinel, .data] true :=
  OpenClaim.laidByTextAt_later rfl rfl tie noOwnUnsafe
theorem fnFixAddBig_row_tie : Rows.fnFixAddBigRow.laidByTextAt .later Tryz.pinned [.data, .data, .data, .data, .data, .data, .data, .sentinel, .sentinel, .data] true :=
  OpenClaim.laidByTextAt_later rfl rfl tie noOwnUnsafe
theorem fnFixAddSmall_row_tie : Rows.fnFixAddSmallRow.laidByTextAt .later Tryz.pinned [.data, .data, .data, .data, .data, .data, .data, .sentinel, .sentinel, .data] true :=
  OpenClaim.laidByTextAt_later rfl rfl tie noOwnUnsafe
theorem fnFixMulSmall_row_tie : Rows.fnFixMulSmallRow.laidByTextAt .later Tryz.pinned [.data, .data, .data, .data, .data, .data, .data, .sentinel, .sentinel, .data] true :=
  OpenClaim.laidByTextAt_later rfl rfl tie noOwnUnsafe
theorem fnFixMulBig_row_tie : Rows.fnFixMulBigRow.laidByTextAt .later Tryz.pinned [.data, .data, .data, .data, .data, .data, .data, .sentinel, .sentinel, .data] true :=
  OpenClaim.laidByTextAt_later rfl rfl tie noOwnUnsafe
theorem fnFixCmpBig_row_tie : Rows.fnFixCmpBigRow.laidByTextAt .later Tryz.pinned [.data, .data, .data, .data, .data, .data, .data, .sentinel, .sentinel, .data] true :=
  OpenClaim.laidByTextAt_later rfl rfl tie noOwnUnsafe
theorem fnFixClamp_row_tie : Rows.fnFixClampRow.laidByTextAt .later Tryz.pinned [.data, .data, .data, .data, .data, .data, .data, .sentinel, .sentinel, .data] true :=
  OpenClaim.laidByTextAt_later rfl rfl tie noOwnUnsafe
theorem fnFixEnds_row_tie : Rows.fnFixEndsRow.laidByTextAt .later Tryz.pinned [.data, .data, .data, .data, .data, .data, .data, .sentinel, .sentinel, .data] true :=
  OpenClaim.laidByTextAt_later rfl rfl tie noOwnUnsafe
theorem fnFixCmpUpto_row_tie : Rows.fnFixCmpUptoRow.laidByTextAt .later Tryz.pinned [.data, .data, .data, .data, .data, .data, .data, .sentinel, .sentinel, .data] true :=
  OpenClaim.laidByTextAt_later rfl rfl tie noOwnUnsafe
theorem fnFixMulUpto_row_tie : Rows.fnFixMulUptoRow.laidByTextAt .later Tryz.pinned [.data, .data, .data, .data, .data, .data, .data, .sentinel, .sentinel, .data] true :=
  OpenClaim.laidByTextAt_later rfl rfl tie noOwnUnsafe
theorem fnFixAddUpto_row_tie : Rows.fnFixAddUptoRow.laidByTextAt .later Tryz.pinned [.data, .data, .data, .data, .data, .data, .data, .sentinel, .sentinel, .data] true :=
  OpenClaim.laidByTextAt_later rfl rfl tie noOwnUnsafe
theorem fnFixAddBigUpto_row_tie : Rows.fnFixAddBigUptoRow.laidByTextAt .later Tryz.pinned [.data, .data, .data, .data, .data, .data, .data, .sentinel, .sentinel, .data] true :=
  OpenClaim.laidByTextAt_later rfl rfl tie noOwnUnsafe
theorem fnFixAddSmallUpto_row_tie : Rows.fnFixAddSmallUptoRow.laidByTextAt .later Tryz.pinned [.data, .data, .data, .data, .data, .data, .data, .sentinel, .sentinel, .data] true :=
  OpenClaim.laidByTextAt_later rfl rfl tie noOwnUnsafe
theorem fnFixMulSmallUpto_row_tie : Rows.fnFixMulSmallUptoRow.laidByTextAt .later Tryz.pinned [.data, .data, .data, .data, .data, .data, .data, .sentinel, .sentinel, .data] true :=
  OpenClaim.laidByTextAt_later rfl rfl tie noOwnUnsafe
theorem fnFixMulBigUpto_row_tie : Rows.fnFixMulBigUptoRow.laidByTextAt .later Tryz.pinned [.data, .data, .data, .data, .data, .data, .data, .sentinel, .sentinel, .data] true :=
  OpenClaim.laidByTextAt_later rfl rfl tie noOwnUnsafe
theorem fnFixCmpBigUpto_row_tie : Rows.fnFixCmpBigUptoRow.laidByTextAt .later Tryz.pinned [.data, .data, .data, .data, .data, .data, .data, .sentinel, .sentinel, .data] true :=
  OpenClaim.laidByTextAt_later rfl rfl tie noOwnUnsafe
theorem fnFixClampUpto_row_tie : Rows.fnFixClampUptoRow.laidByTextAt .later Tryz.pinned [.data, .data, .data, .data, .data, .data, .data, .sentinel, .sentinel, .data] true :=
  OpenClaim.laidByTextAt_later rfl rfl tie noOwnUnsafe
theorem fnFixEndsUpto_row_tie : Rows.fnFixEndsUptoRow.laidByTextAt .later Tryz.pinned [.data, .data, .data, .data, .data, .data, .data, .sentinel, .sentinel, .data] true :=
  OpenClaim.laidByTextAt_later rfl rfl tie noOwnUnsafe
end Go.Proofs.YtibaeafmgncjdaaGreatDoor
