/- big: nat.divBasic: long division by words. -/
import Derived.Deep.Cut
import Derived.Test.YtllencgncinphaaGreatDoorKE23
namespace Go.Proofs.YtllencgncinphaaGreatDoor
open Go.RowKit
open Go.Lib (hid)

def DBRet (w : World) (gq oq gu ou n m : Nat) (Lq Lu us vs : List Nat) (T : Nat → Prop) (e : Ending) (w' : World) : Prop :=
 e = .returned (.tuple #[]) ∧ ∃ Q R, Q.length = m ∧ R.length = n ∧ (∀ a ∈ Q, a < 18446744073709551616) ∧ (∀ a ∈ R, a < 18446744073709551616) ∧ val us = val Q * val vs + val R ∧ val R < val vs ∧
  Blk .u64 w' gq (spl Lq oq Q) ∧ Blk .u64 w' gu (spl Lu ou (R ++ List.replicate m 0)) ∧ Keep (fun k => k = gq ∨ k = gu ∨ T k) w w'

end Go.Proofs.YtllencgncinphaaGreatDoor
