/- The contracts of structOf at both depths. Nothing is claimed here. -/
import Derived.Test.YtfilbgmbmlmdbaaGreatDoorMakeD
import Derived.Test.YtfilbgmbmlmdbaaGreatDoorTurnB
namespace Go.Proofs.YtfilbgmbmlmdbaaGreatDoor
open Go.RowKit

theorem structC_zero : StructC 0 Leaf 48 := fun nm ns hns n hn sv w hs =>
  structOf_any 0 (.inl rfl) Leaf 48 (by omega) (fun t ht => ht.facts.2) typeC_zero (fun t ht => .int ht) (fun sz sg im ht => ht.int_size) (fun m u ht => ht.arr_elem) nm ns hns n hn sv w hs
theorem structC_one : StructC 1 FT 200 := fun nm ns hns n hn sv w hs =>
  structOf_any 1 (.inr rfl) FT 200 (by omega) (fun t ht => ht.flat) (typeC_one structC_zero) (fun t ht => .inl (.int ht)) (fun sz sg im ht => ht.size) (fun m u ht => ht.arr) nm ns hns n hn sv w hs
#print axioms structC_one
end Go.Proofs.YtfilbgmbmlmdbaaGreatDoor
