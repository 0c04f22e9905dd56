/- The contract of blobOf. -/
import Derived.Test.YtfilbgmbmlmdbaaBlob
import Derived.Test.YtfilbgmbmlmdbaaListB
import Derived.Test.YtfilbgmbmlmdbaaMakeD
namespace Go.Proofs.Ytfilbgmbmlmdbaa
open Go.RowKit

theorem structC_zero : StructC 0 Leaf 48 := fun nm ns hns n hn sv w hs =>
  structOf_any 0 (.inl rfl) Leaf 48 (by omega) (fun t ht => ht.facts.2) typeC_zero (fun t ht => .int ht) (fun sz sg im ht => ht.int_size) (fun m u ht => ht.arr_elem) nm ns hns n hn sv w hs
theorem structC_one : StructC 1 FT 200 := fun nm ns hns n hn sv w hs =>
  structOf_any 1 (.inr rfl) FT 200 (by omega) (fun t ht => ht.flat) (typeC_one structC_zero) (fun t ht => .inl (.int ht)) (fun sz sg im ht => ht.size) (fun m u ht => ht.arr) nm ns hns n hn sv w hs
theorem blobOf_any (ln mn lcap : Nat) (la : Option Addr) (mv : Value) (w : World) (hl : U32s w (.slice la ln lcap) ln) (hm : U32s w mv mn) (hln : ln ≤ 100) (hmn : mn ≤ 100) (hlc : ln ≤ lcap) :
    Calls Try.prog 5 #[.slice la ln lcap, mv] w fun e w' => ∃ v n xs D, e = .returned v ∧ Rows w' v n xs D ∧ 1 ≤ n ∧ n ≤ 100000 ∧ Below w.heap.size w w' :=
  blobOf_of put_any structC_zero structC_one ln mn lcap la mv w hl hm hln hmn hlc
#print axioms blobOf_any
end Go.Proofs.Ytfilbgmbmlmdbaa
