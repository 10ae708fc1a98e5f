/-
  A left neighbour with nothing to spare.
-/
import Derived.Test.Qxb6603483aOpen
namespace Go.Proofs.Qxb6603483a

/-- No item to be had from the left neighbour. -/
def Poor (S : List Sub) : Prop := S = [] ∨ ∃ S' u, S = S' ++ [u] ∧ u.n ≤ 31

end Go.Proofs.Qxb6603483a
