/- Rows out of lists. -/
import Derived.Test.YtfakfllmbfjofaaFlRow
open Go Go.Fl
namespace Go.Proofs.Ytfakfllmbfjofaa
theorem RI_list (k : IntKind) (l : List Nat) : (l.map fun b : Nat => Value.int k (b : Int)).toArray = RI k (fun j => ((l.getD j 0 : Nat) : Int)) l.length := by
  apply Array.ext_getElem?
  intro j
  by_cases hj : j < l.length
  · rw [RI_get hj]; simp [hj]
  · rw [RI_out hj]; simp; omega
end Go.Proofs.Ytfakfllmbfjofaa
