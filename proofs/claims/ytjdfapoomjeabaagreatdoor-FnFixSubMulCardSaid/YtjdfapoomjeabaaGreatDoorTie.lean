/-
  DERIVED. GIVEN WITH THE SEED: THE PROGRAM's TIES (one call each: nine closed facts by the kernel) AND EACH ROW's TIE, after the 31st guide's Derived/Test/Toyas{Tie, Card}.lean. No idea stands in it: it is a product of the set-up. Laid BY PROGRAM, IN A SANDBOX (cutbox-door.mjs). By AI agents, Wed Nov 11 2026. No macro, syntax, notation, axiom, sorry.
-/
import Derived.Test.YtjdfapoomjeabaaGreatDoorRows
import Derived.LaidByTextLater
import Derived.SevenTiedAt
import Derived.LaidSub
import Derived.LaidOnce
namespace Go.Proofs.YtjdfapoomjeabaaGreatDoor
open Go
set_option maxRecDepth 100000
theorem seatTie1 : Tryz.prog.laidByTextLater [("math/bits.deBruijn32tab", Rows.laid_math_bits_deBruijn32tab), ("math/bits.deBruijn64tab", Rows.laid_math_bits_deBruijn64tab), ("given.example/pub-alexandrine/pub/bigall.leafSize", Rows.laid_given_example_pub_alexandrine_pub_bigall_leafSize), ("given.example/pub-alexandrine/pub/bigall.divRecursiveThreshold", Rows.laid_given_example_pub_alexandrine_pub_bigall_divRecursiveThreshold), ("given.example/pub-alexandrine/pub/bigall.karatsubaThreshold", Rows.laid_given_example_pub_alexandrine_pub_bigall_karatsubaThreshold), ("given.example/pub-alexandrine/pub/bigall.basicSqrThreshold", Rows.laid_given_example_pub_alexandrine_pub_bigall_basicSqrThreshold), ("given.example/pub-alexandrine/pub/bigall.karatsubaSqrThreshold", Rows.laid_given_example_pub_alexandrine_pub_bigall_karatsubaSqrThreshold), ("given.example/pub-alexandrine/pub/govalues.errDecimalOverflow", Rows.laid_given_example_pub_alexandrine_pub_govalues_errDecimalOverflow), ("given.example/pub-alexandrine/pub/govalues.errScaleRange", Rows.laid_given_example_pub_alexandrine_pub_govalues_errScaleRange), ("given.example/pub-alexandrine/pub/govalues.errInexactDivision", Rows.laid_given_example_pub_alexandrine_pub_govalues_errInexactDivision), ("given.example/pub-alexandrine/pub/govalues.pow10", Rows.laid_given_example_pub_alexandrine_pub_govalues_pow10)] [.data, .data, .data, .data, .data, .data, .data, .sentinel, .sentinel, .sentinel, .data] true :=
  Program.laidByTextLater_by_one 101 8 65 (by kernel_rfl) (by kernel_rfl) (by kernel_rfl) (by kernel_rfl) (by kernel_rfl) (by kernel_rfl) (fun _ _ => by kernel_rfl)
theorem noOwnUnsafe : Tryz.pinned.checked.prog.headLifts.contains "ownunsafe" = false := by kernel_rfl
theorem tie : Tryz.prog.laidByTextLater [("math/bits.deBruijn32tab", Rows.laid_math_bits_deBruijn32tab), ("math/bits.deBruijn64tab", Rows.laid_math_bits_deBruijn64tab), ("given.example/pub-alexandrine/pub/bigall.leafSize", Rows.laid_given_example_pub_alexandrine_pub_bigall_leafSize), ("given.example/pub-alexandrine/pub/bigall.divRecursiveThreshold", Rows.laid_given_example_pub_alexandrine_pub_bigall_divRecursiveThreshold), ("given.example/pub-alexandrine/pub/bigall.karatsubaThreshold", Rows.laid_given_example_pub_alexandrine_pub_bigall_karatsubaThreshold), ("given.example/pub-alexandrine/pub/bigall.basicSqrThreshold", Rows.laid_given_example_pub_alexandrine_pub_bigall_basicSqrThreshold), ("given.example/pub-alexandrine/pub/bigall.karatsubaSqrThreshold", Rows.laid_given_example_pub_alexandrine_pub_bigall_karatsubaSqrThreshold), ("given.example/pub-alexandrine/pub/govalues.errDecimalOverflow", Rows.laid_given_example_pub_alexandrine_pub_govalues_errDecimalOverflow), ("given.example/pub-alexandrine/pub/govalues.errScaleRange", Rows.laid_given_example_pub_alexandrine_pub_govalues_errScaleRange), ("given.example/pub-alexandrine/pub/govalues.pow10", Rows.laid_given_example_pub_alexandrine_pub_govalues_pow10)] [.data, .data, .data, .data, .data, .data, .data, .sentinel, .sentinel, .data] true :=
  Program.laidByTextLater.sub seatTie1 ["math/bits.deBruijn32tab", "math/bits.deBruijn64tab", "given.example/pub-alexandrine/pub/bigall.leafSize", "given.example/pub-alexandrine/pub/bigall.divRecursiveThreshold", "given.example/pub-alexandrine/pub/bigall.karatsubaThreshold", "given.example/pub-alexandrine/pub/bigall.basicSqrThreshold", "given.example/pub-alexandrine/pub/bigall.karatsubaSqrThreshold", "given.example/pub-alexandrine/pub/govalues.errDecimalOverflow", "given.example/pub-alexandrine/pub/govalues.errScaleRange", "given.example/pub-alexandrine/pub/govalues.pow10"] (by kernel_rfl) (by kernel_rfl)
theorem fnFixMul_row_tie : Rows.fnFixMulRow.laidByTextAt .later Tryz.pinned [.data, .data, .data, .data, .data, .data, .data, .sentinel, .sentinel, .data] true :=
  OpenClaim.laidByTextAt_later rfl rfl tie noOwnUnsafe
theorem fnFixAdd_row_tie : Rows.fnFixAddRow.laidByTextAt .later Tryz.pinned [.data, .data, .data, .data, .data, .data, .data, .sentinel, .sentinel, .data] true :=
  OpenClaim.laidByTextAt_later rfl rfl tie noOwnUnsafe
theorem fnFixSub_row_tie : Rows.fnFixSubRow.laidByTextAt .later Tryz.pinned [.data, .data, .data, .data, .data, .data, .data, .sentinel, .sentinel, .data] true :=
  OpenClaim.laidByTextAt_later rfl rfl tie noOwnUnsafe
theorem fnFixSubAbs_row_tie : Rows.fnFixSubAbsRow.laidByTextAt .later Tryz.pinned [.data, .data, .data, .data, .data, .data, .data, .sentinel, .sentinel, .data] true :=
  OpenClaim.laidByTextAt_later rfl rfl tie noOwnUnsafe
theorem fnFixAddExact_row_tie : Rows.fnFixAddExactRow.laidByTextAt .later Tryz.pinned [.data, .data, .data, .data, .data, .data, .data, .sentinel, .sentinel, .data] true :=
  OpenClaim.laidByTextAt_later rfl rfl tie noOwnUnsafe
theorem fnFixAddMul_row_tie : Rows.fnFixAddMulRow.laidByTextAt .later Tryz.pinned [.data, .data, .data, .data, .data, .data, .data, .sentinel, .sentinel, .data] true :=
  OpenClaim.laidByTextAt_later rfl rfl tie noOwnUnsafe
theorem fnFixSubMul_row_tie : Rows.fnFixSubMulRow.laidByTextAt .later Tryz.pinned [.data, .data, .data, .data, .data, .data, .data, .sentinel, .sentinel, .data] true :=
  OpenClaim.laidByTextAt_later rfl rfl tie noOwnUnsafe
theorem fnFixMulBig_row_tie : Rows.fnFixMulBigRow.laidByTextAt .later Tryz.pinned [.data, .data, .data, .data, .data, .data, .data, .sentinel, .sentinel, .data] true :=
  OpenClaim.laidByTextAt_later rfl rfl tie noOwnUnsafe
theorem fnFixMulExact_row_tie : Rows.fnFixMulExactRow.laidByTextAt .later Tryz.pinned [.data, .data, .data, .data, .data, .data, .data, .sentinel, .sentinel, .data] true :=
  OpenClaim.laidByTextAt_later rfl rfl tie noOwnUnsafe
theorem tie2 : Tryz.prog.laidByTextLater [("math/bits.deBruijn32tab", Rows.laid_math_bits_deBruijn32tab), ("math/bits.deBruijn64tab", Rows.laid_math_bits_deBruijn64tab), ("given.example/pub-alexandrine/pub/bigall.leafSize", Rows.laid_given_example_pub_alexandrine_pub_bigall_leafSize), ("given.example/pub-alexandrine/pub/bigall.divRecursiveThreshold", Rows.laid_given_example_pub_alexandrine_pub_bigall_divRecursiveThreshold), ("given.example/pub-alexandrine/pub/bigall.karatsubaThreshold", Rows.laid_given_example_pub_alexandrine_pub_bigall_karatsubaThreshold), ("given.example/pub-alexandrine/pub/bigall.basicSqrThreshold", Rows.laid_given_example_pub_alexandrine_pub_bigall_basicSqrThreshold), ("given.example/pub-alexandrine/pub/bigall.karatsubaSqrThreshold", Rows.laid_given_example_pub_alexandrine_pub_bigall_karatsubaSqrThreshold), ("given.example/pub-alexandrine/pub/govalues.errDecimalOverflow", Rows.laid_given_example_pub_alexandrine_pub_govalues_errDecimalOverflow), ("given.example/pub-alexandrine/pub/govalues.errScaleRange", Rows.laid_given_example_pub_alexandrine_pub_govalues_errScaleRange), ("given.example/pub-alexandrine/pub/govalues.errInexactDivision", Rows.laid_given_example_pub_alexandrine_pub_govalues_errInexactDivision), ("given.example/pub-alexandrine/pub/govalues.pow10", Rows.laid_given_example_pub_alexandrine_pub_govalues_pow10)] [.data, .data, .data, .data, .data, .data, .data, .sentinel, .sentinel, .sentinel, .data] true :=
  Program.laidByTextLater.sub seatTie1 ["math/bits.deBruijn32tab", "math/bits.deBruijn64tab", "given.example/pub-alexandrine/pub/bigall.leafSize", "given.example/pub-alexandrine/pub/bigall.divRecursiveThreshold", "given.example/pub-alexandrine/pub/bigall.karatsubaThreshold", "given.example/pub-alexandrine/pub/bigall.basicSqrThreshold", "given.example/pub-alexandrine/pub/bigall.karatsubaSqrThreshold", "given.example/pub-alexandrine/pub/govalues.errDecimalOverflow", "given.example/pub-alexandrine/pub/govalues.errScaleRange", "given.example/pub-alexandrine/pub/govalues.errInexactDivision", "given.example/pub-alexandrine/pub/govalues.pow10"] (by kernel_rfl) (by kernel_rfl)
theorem fnFixQuo_row_tie : Rows.fnFixQuoRow.laidByTextAt .later Tryz.pinned [.data, .data, .data, .data, .data, .data, .data, .sentinel, .sentinel, .sentinel, .data] true :=
  OpenClaim.laidByTextAt_later rfl rfl tie2 noOwnUnsafe
theorem fnFixMulUpto_row_tie : Rows.fnFixMulUptoRow.laidByTextAt .later Tryz.pinned [.data, .data, .data, .data, .data, .data, .data, .sentinel, .sentinel, .data] true :=
  OpenClaim.laidByTextAt_later rfl rfl tie noOwnUnsafe
theorem fnFixAddUpto_row_tie : Rows.fnFixAddUptoRow.laidByTextAt .later Tryz.pinned [.data, .data, .data, .data, .data, .data, .data, .sentinel, .sentinel, .data] true :=
  OpenClaim.laidByTextAt_later rfl rfl tie noOwnUnsafe
theorem fnFixSubUpto_row_tie : Rows.fnFixSubUptoRow.laidByTextAt .later Tryz.pinned [.data, .data, .data, .data, .data, .data, .data, .sentinel, .sentinel, .data] true :=
  OpenClaim.laidByTextAt_later rfl rfl tie noOwnUnsafe
theorem fnFixSubAbsUpto_row_tie : Rows.fnFixSubAbsUptoRow.laidByTextAt .later Tryz.pinned [.data, .data, .data, .data, .data, .data, .data, .sentinel, .sentinel, .data] true :=
  OpenClaim.laidByTextAt_later rfl rfl tie noOwnUnsafe
theorem fnFixAddExactUpto_row_tie : Rows.fnFixAddExactUptoRow.laidByTextAt .later Tryz.pinned [.data, .data, .data, .data, .data, .data, .data, .sentinel, .sentinel, .data] true :=
  OpenClaim.laidByTextAt_later rfl rfl tie noOwnUnsafe
theorem fnFixAddMulUpto_row_tie : Rows.fnFixAddMulUptoRow.laidByTextAt .later Tryz.pinned [.data, .data, .data, .data, .data, .data, .data, .sentinel, .sentinel, .data] true :=
  OpenClaim.laidByTextAt_later rfl rfl tie noOwnUnsafe
theorem fnFixSubMulUpto_row_tie : Rows.fnFixSubMulUptoRow.laidByTextAt .later Tryz.pinned [.data, .data, .data, .data, .data, .data, .data, .sentinel, .sentinel, .data] true :=
  OpenClaim.laidByTextAt_later rfl rfl tie noOwnUnsafe
theorem fnFixMulBigUpto_row_tie : Rows.fnFixMulBigUptoRow.laidByTextAt .later Tryz.pinned [.data, .data, .data, .data, .data, .data, .data, .sentinel, .sentinel, .data] true :=
  OpenClaim.laidByTextAt_later rfl rfl tie noOwnUnsafe
theorem fnFixQuoUpto_row_tie : Rows.fnFixQuoUptoRow.laidByTextAt .later Tryz.pinned [.data, .data, .data, .data, .data, .data, .data, .sentinel, .sentinel, .sentinel, .data] true :=
  OpenClaim.laidByTextAt_later rfl rfl tie2 noOwnUnsafe
theorem fnFixMulExactUpto_row_tie : Rows.fnFixMulExactUptoRow.laidByTextAt .later Tryz.pinned [.data, .data, .data, .data, .data, .data, .data, .sentinel, .sentinel, .data] true :=
  OpenClaim.laidByTextAt_later rfl rfl tie noOwnUnsafe
end Go.Proofs.YtjdfapoomjeabaaGreatDoor
