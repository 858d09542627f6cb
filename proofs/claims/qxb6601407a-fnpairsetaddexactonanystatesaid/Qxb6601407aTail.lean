import Derived.Test.Qxb6601407aEq
namespace Go.Proofs.Qxb6601407a
open Go.RowKit
/-- Does the code begin with region r? -/
def startsAt (r : Nat) : Code → Bool
  | .region i _ _ => i == r
  | .seq a _ => startsAt r a
  | _ => false
/-- What of the code is left at region r. -/
def restAt (r : Nat) : Code → Option Code
  | .seq a b => if startsAt r a then some (.seq a b) else match restAt r b with
    | some c => some c
    | none => restAt r a
  | .block _ c => restAt r c
  | .loop c => restAt r c
  | _ => none
end Go.Proofs.Qxb6601407a
