/-
  DERIVED. GIVEN WITH THE SEED: THE PROGRAM's TIES (one call each: nine closed facts by the kernel) AND EACH ROW's TIE, after the 31st guide's Derived/Test/Toyas{Tie, Card}.lean. No idea stands in it: it is a product of the set-up. Laid BY PROGRAM, IN A SANDBOX (cutbox-door.mjs). By AI agents, Wed Nov 11 2026. No macro, syntax, notation, axiom, sorry.
-/
import Derived.Test.YtfilbgmbmlmdbaaGreatDoorRows
import Derived.LaidByTextLater
import Derived.SevenTiedAt
import Derived.LaidSub
import Derived.LaidOnce
namespace Go.Proofs.YtfilbgmbmlmdbaaGreatDoor
open Go
set_option maxRecDepth 100000
theorem seatTie1 : Tryz.prog.laidByTextLater [("loop.example/pub-g03460/pub/ebpfbtf.ErrNotSupported", Rows.laid_loop_example_pub_g03460_pub_ebpfbtf_ErrNotSupported), ("loop.example/pub-g03460/pub/ebpfbtf.ErrNotFound", Rows.laid_loop_example_pub_g03460_pub_ebpfbtf_ErrNotFound), ("loop.example/pub-g03460/pub/ebpfbtf.errImpossibleRelocation", Rows.laid_loop_example_pub_g03460_pub_ebpfbtf_errImpossibleRelocation), ("loop.example/pub-g03460/pub/ebpfbtf.errIncompatibleTypes", Rows.laid_loop_example_pub_g03460_pub_ebpfbtf_errIncompatibleTypes), ("loop.example/pub-g03460/pub/ebpfbtf.errNoSignedness", Rows.laid_loop_example_pub_g03460_pub_ebpfbtf_errNoSignedness), ("loop.example/pub-g03460/pub/ebpfbtf.errUnsizedType", Rows.laid_loop_example_pub_g03460_pub_ebpfbtf_errUnsizedType)] [.sentinel, .sentinel, .sentinel, .sentinel, .sentinel, .sentinel] true :=
  Program.laidByTextLater_by_one 123 8 2 (by kernel_rfl) (by kernel_rfl) (by kernel_rfl) (by kernel_rfl) (by kernel_rfl) (by kernel_rfl) (fun _ _ => by kernel_rfl)
theorem noOwnUnsafe : Tryz.pinned.checked.prog.headLifts.contains "ownunsafe" = false := by kernel_rfl
theorem tie : Tryz.prog.laidByTextLater [("loop.example/pub-g03460/pub/ebpfbtf.ErrNotSupported", Rows.laid_loop_example_pub_g03460_pub_ebpfbtf_ErrNotSupported), ("loop.example/pub-g03460/pub/ebpfbtf.ErrNotFound", Rows.laid_loop_example_pub_g03460_pub_ebpfbtf_ErrNotFound), ("loop.example/pub-g03460/pub/ebpfbtf.errImpossibleRelocation", Rows.laid_loop_example_pub_g03460_pub_ebpfbtf_errImpossibleRelocation), ("loop.example/pub-g03460/pub/ebpfbtf.errIncompatibleTypes", Rows.laid_loop_example_pub_g03460_pub_ebpfbtf_errIncompatibleTypes), ("loop.example/pub-g03460/pub/ebpfbtf.errNoSignedness", Rows.laid_loop_example_pub_g03460_pub_ebpfbtf_errNoSignedness), ("loop.example/pub-g03460/pub/ebpfbtf.errUnsizedType", Rows.laid_loop_example_pub_g03460_pub_ebpfbtf_errUnsizedType)] [.sentinel, .sentinel, .sentinel, .sentinel, .sentinel, .sentinel] true :=
  Program.laidByTextLater.sub seatTie1 ["loop.example/pub-g03460/pub/ebpfbtf.ErrNotSupported", "loop.example/pub-g03460/pub/ebpfbtf.ErrNotFound", "loop.example/pub-g03460/pub/ebpfbtf.errImpossibleRelocation", "loop.example/pub-g03460/pub/ebpfbtf.errIncompatibleTypes", "loop.example/pub-g03460/pub/ebpfbtf.errNoSignedness", "loop.example/pub-g03460/pub/ebpfbtf.errUnsizedType"] (by kernel_rfl) (by kernel_rfl)
theorem fnField_row_tie : Rows.fnFieldRow.laidByTextAt .later Tryz.pinned [.sentinel, .sentinel, .sentinel, .sentinel, .sentinel, .sentinel] true :=
  OpenClaim.laidByTextAt_later rfl rfl tie noOwnUnsafe
theorem fnType_row_tie : Rows.fnTypeRow.laidByTextAt .later Tryz.pinned [.sentinel, .sentinel, .sentinel, .sentinel, .sentinel, .sentinel] true :=
  OpenClaim.laidByTextAt_later rfl rfl tie noOwnUnsafe
theorem fnValue_row_tie : Rows.fnValueRow.laidByTextAt .later Tryz.pinned [.sentinel, .sentinel, .sentinel, .sentinel, .sentinel, .sentinel] true :=
  OpenClaim.laidByTextAt_later rfl rfl tie noOwnUnsafe
theorem fnMatches_row_tie : Rows.fnMatchesRow.laidByTextAt .later Tryz.pinned [.sentinel, .sentinel, .sentinel, .sentinel, .sentinel, .sentinel] true :=
  OpenClaim.laidByTextAt_later rfl rfl tie noOwnUnsafe
theorem fnFieldUpto_row_tie : Rows.fnFieldUptoRow.laidByTextAt .later Tryz.pinned [.sentinel, .sentinel, .sentinel, .sentinel, .sentinel, .sentinel] true :=
  OpenClaim.laidByTextAt_later rfl rfl tie noOwnUnsafe
theorem fnTypeUpto_row_tie : Rows.fnTypeUptoRow.laidByTextAt .later Tryz.pinned [.sentinel, .sentinel, .sentinel, .sentinel, .sentinel, .sentinel] true :=
  OpenClaim.laidByTextAt_later rfl rfl tie noOwnUnsafe
theorem fnValueUpto_row_tie : Rows.fnValueUptoRow.laidByTextAt .later Tryz.pinned [.sentinel, .sentinel, .sentinel, .sentinel, .sentinel, .sentinel] true :=
  OpenClaim.laidByTextAt_later rfl rfl tie noOwnUnsafe
theorem fnMatchesUpto_row_tie : Rows.fnMatchesUptoRow.laidByTextAt .later Tryz.pinned [.sentinel, .sentinel, .sentinel, .sentinel, .sentinel, .sentinel] true :=
  OpenClaim.laidByTextAt_later rfl rfl tie noOwnUnsafe
end Go.Proofs.YtfilbgmbmlmdbaaGreatDoor
