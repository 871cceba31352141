/-
  DERIVED. GIVEN WITH THE SEED: THE PROGRAM's TIES (one call each: nine closed facts by the kernel) AND EACH ROW's TIE, after the 31st guide's Derived/Test/Toyas{Tie, Card}.lean. No idea stands in it: it is a product of the set-up. Laid BY PROGRAM, IN A SANDBOX (cutbox-door.mjs). By AI agents, Wed Nov 11 2026. No macro, syntax, notation, axiom, sorry.
-/
import Derived.Test.YtllencgncinphaaGreatDoorRows
import Derived.LaidByTextLater
import Derived.SevenTiedAt
import Derived.LaidSub
import Derived.LaidOnce
namespace Go.Proofs.YtllencgncinphaaGreatDoor
open Go
set_option maxRecDepth 100000
theorem seatTie1 : Tryz.prog.laidByTextLater [("math/bits.deBruijn32tab", Rows.laid_math_bits_deBruijn32tab), ("math/bits.deBruijn64tab", Rows.laid_math_bits_deBruijn64tab), ("given.example/pub-alexandrine/pub/bigall.divRecursiveThreshold", Rows.laid_given_example_pub_alexandrine_pub_bigall_divRecursiveThreshold), ("given.example/pub-alexandrine/pub/bigall.karatsubaThreshold", Rows.laid_given_example_pub_alexandrine_pub_bigall_karatsubaThreshold), ("given.example/pub-alexandrine/pub/bigall.basicSqrThreshold", Rows.laid_given_example_pub_alexandrine_pub_bigall_basicSqrThreshold), ("given.example/pub-alexandrine/pub/bigall.karatsubaSqrThreshold", Rows.laid_given_example_pub_alexandrine_pub_bigall_karatsubaSqrThreshold), ("given.example/pub-alexandrine/pub/shopspring.DivisionPrecision", Rows.laid_given_example_pub_alexandrine_pub_shopspring_DivisionPrecision)] [.data, .data, .data, .data, .data, .data, .data] true :=
  Program.laidByTextLater_by_one 39 8 65 (by kernel_rfl) (by kernel_rfl) (by kernel_rfl) (by kernel_rfl) (by kernel_rfl) (by kernel_rfl) (fun _ _ => by kernel_rfl)
theorem noOwnUnsafe : Tryz.pinned.checked.prog.headLifts.contains "ownunsafe" = false := by kernel_rfl
theorem tie : Tryz.prog.laidByTextLater [("math/bits.deBruijn32tab", Rows.laid_math_bits_deBruijn32tab), ("math/bits.deBruijn64tab", Rows.laid_math_bits_deBruijn64tab), ("given.example/pub-alexandrine/pub/bigall.divRecursiveThreshold", Rows.laid_given_example_pub_alexandrine_pub_bigall_divRecursiveThreshold), ("given.example/pub-alexandrine/pub/bigall.karatsubaThreshold", Rows.laid_given_example_pub_alexandrine_pub_bigall_karatsubaThreshold), ("given.example/pub-alexandrine/pub/bigall.basicSqrThreshold", Rows.laid_given_example_pub_alexandrine_pub_bigall_basicSqrThreshold), ("given.example/pub-alexandrine/pub/bigall.karatsubaSqrThreshold", Rows.laid_given_example_pub_alexandrine_pub_bigall_karatsubaSqrThreshold)] [.data, .data, .data, .data, .data, .data] true :=
  Program.laidByTextLater.sub seatTie1 ["math/bits.deBruijn32tab", "math/bits.deBruijn64tab", "given.example/pub-alexandrine/pub/bigall.divRecursiveThreshold", "given.example/pub-alexandrine/pub/bigall.karatsubaThreshold", "given.example/pub-alexandrine/pub/bigall.basicSqrThreshold", "given.example/pub-alexandrine/pub/bigall.karatsubaSqrThreshold"] (by kernel_rfl) (by kernel_rfl)
theorem fnDecRescale_row_tie : Rows.fnDecRescaleRow.laidByTextAt .later Tryz.pinned [.data, .data, .data, .data, .data, .data] true :=
  OpenClaim.laidByTextAt_later rfl rfl tie noOwnUnsafe
theorem fnDecQuoRem_row_tie : Rows.fnDecQuoRemRow.laidByTextAt .later Tryz.pinned [.data, .data, .data, .data, .data, .data] true :=
  OpenClaim.laidByTextAt_later rfl rfl tie noOwnUnsafe
theorem fnDecMod_row_tie : Rows.fnDecModRow.laidByTextAt .later Tryz.pinned [.data, .data, .data, .data, .data, .data] true :=
  OpenClaim.laidByTextAt_later rfl rfl tie noOwnUnsafe
theorem fnDecTruncate_row_tie : Rows.fnDecTruncateRow.laidByTextAt .later Tryz.pinned [.data, .data, .data, .data, .data, .data] true :=
  OpenClaim.laidByTextAt_later rfl rfl tie noOwnUnsafe
theorem fnDecFloor_row_tie : Rows.fnDecFloorRow.laidByTextAt .later Tryz.pinned [.data, .data, .data, .data, .data, .data] true :=
  OpenClaim.laidByTextAt_later rfl rfl tie noOwnUnsafe
theorem fnDecDivRound_row_tie : Rows.fnDecDivRoundRow.laidByTextAt .later Tryz.pinned [.data, .data, .data, .data, .data, .data] true :=
  OpenClaim.laidByTextAt_later rfl rfl tie noOwnUnsafe
theorem fnDecCash_row_tie : Rows.fnDecCashRow.laidByTextAt .later Tryz.pinned [.data, .data, .data, .data, .data, .data] true :=
  OpenClaim.laidByTextAt_later rfl rfl tie noOwnUnsafe
theorem fnDecRound_row_tie : Rows.fnDecRoundRow.laidByTextAt .later Tryz.pinned [.data, .data, .data, .data, .data, .data] true :=
  OpenClaim.laidByTextAt_later rfl rfl tie noOwnUnsafe
theorem tie2 : Tryz.prog.laidByTextLater [("math/bits.deBruijn32tab", Rows.laid_math_bits_deBruijn32tab), ("math/bits.deBruijn64tab", Rows.laid_math_bits_deBruijn64tab), ("given.example/pub-alexandrine/pub/bigall.divRecursiveThreshold", Rows.laid_given_example_pub_alexandrine_pub_bigall_divRecursiveThreshold), ("given.example/pub-alexandrine/pub/bigall.karatsubaThreshold", Rows.laid_given_example_pub_alexandrine_pub_bigall_karatsubaThreshold), ("given.example/pub-alexandrine/pub/bigall.basicSqrThreshold", Rows.laid_given_example_pub_alexandrine_pub_bigall_basicSqrThreshold), ("given.example/pub-alexandrine/pub/bigall.karatsubaSqrThreshold", Rows.laid_given_example_pub_alexandrine_pub_bigall_karatsubaSqrThreshold), ("given.example/pub-alexandrine/pub/shopspring.DivisionPrecision", Rows.laid_given_example_pub_alexandrine_pub_shopspring_DivisionPrecision)] [.data, .data, .data, .data, .data, .data, .data] true :=
  Program.laidByTextLater.sub seatTie1 ["math/bits.deBruijn32tab", "math/bits.deBruijn64tab", "given.example/pub-alexandrine/pub/bigall.divRecursiveThreshold", "given.example/pub-alexandrine/pub/bigall.karatsubaThreshold", "given.example/pub-alexandrine/pub/bigall.basicSqrThreshold", "given.example/pub-alexandrine/pub/bigall.karatsubaSqrThreshold", "given.example/pub-alexandrine/pub/shopspring.DivisionPrecision"] (by kernel_rfl) (by kernel_rfl)
theorem fnDecDiv_row_tie : Rows.fnDecDivRow.laidByTextAt .later Tryz.pinned [.data, .data, .data, .data, .data, .data, .data] true :=
  OpenClaim.laidByTextAt_later rfl rfl tie2 noOwnUnsafe
theorem fnDecRescaleUpto_row_tie : Rows.fnDecRescaleUptoRow.laidByTextAt .later Tryz.pinned [.data, .data, .data, .data, .data, .data] true :=
  OpenClaim.laidByTextAt_later rfl rfl tie noOwnUnsafe
theorem fnDecQuoRemUpto_row_tie : Rows.fnDecQuoRemUptoRow.laidByTextAt .later Tryz.pinned [.data, .data, .data, .data, .data, .data] true :=
  OpenClaim.laidByTextAt_later rfl rfl tie noOwnUnsafe
theorem fnDecModUpto_row_tie : Rows.fnDecModUptoRow.laidByTextAt .later Tryz.pinned [.data, .data, .data, .data, .data, .data] true :=
  OpenClaim.laidByTextAt_later rfl rfl tie noOwnUnsafe
theorem fnDecTruncateUpto_row_tie : Rows.fnDecTruncateUptoRow.laidByTextAt .later Tryz.pinned [.data, .data, .data, .data, .data, .data] true :=
  OpenClaim.laidByTextAt_later rfl rfl tie noOwnUnsafe
theorem fnDecFloorUpto_row_tie : Rows.fnDecFloorUptoRow.laidByTextAt .later Tryz.pinned [.data, .data, .data, .data, .data, .data] true :=
  OpenClaim.laidByTextAt_later rfl rfl tie noOwnUnsafe
theorem fnDecDivRoundUpto_row_tie : Rows.fnDecDivRoundUptoRow.laidByTextAt .later Tryz.pinned [.data, .data, .data, .data, .data, .data] true :=
  OpenClaim.laidByTextAt_later rfl rfl tie noOwnUnsafe
theorem fnDecDivUpto_row_tie : Rows.fnDecDivUptoRow.laidByTextAt .later Tryz.pinned [.data, .data, .data, .data, .data, .data, .data] true :=
  OpenClaim.laidByTextAt_later rfl rfl tie2 noOwnUnsafe
theorem fnDecCashUpto_row_tie : Rows.fnDecCashUptoRow.laidByTextAt .later Tryz.pinned [.data, .data, .data, .data, .data, .data] true :=
  OpenClaim.laidByTextAt_later rfl rfl tie noOwnUnsafe
theorem fnDecRoundUpto_row_tie : Rows.fnDecRoundUptoRow.laidByTextAt .later Tryz.pinned [.data, .data, .data, .data, .data, .data] true :=
  OpenClaim.laidByTextAt_later rfl rfl tie noOwnUnsafe
end Go.Proofs.YtllencgncinphaaGreatDoor
