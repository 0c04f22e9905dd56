/-
  NARROWER THAN 'FOR EVERY INPUT', by the rows' own cells (each row's printed sentence says how): FnField: ifaces, laid · FnType: ifaces, laid · FnValue: ifaces, laid · FnMatches: ifaces, laid.
  DERIVED. THE GIVEN ROWS OF THIS SEAT. 4 by the template 'for every input the law returns true; each argument reads behind the call as it read before'; 0 by the template 'total and deterministic' (their statements: YtfilbgmbmlmdbaaGreatDoorTotals.lean).
  GIVEN WITH THE SEED: the statements are not yours to turn. If you find one false, say at which input.
  Laid BY PROGRAM, IN A SANDBOX (cutbox-rows.mjs): the forced cells as the released guide's own fill.sh prints them over the translation 4b92dc22d26c0f1c… (all of the seat's roots in one cut). By AI agents, Wed Nov 11 2026. No macro, syntax, notation, axiom, sorry.
-/
import Derived.Test.YtfilbgmbmlmdbaaGreatDoorChecked
import GoSem.Claim
import GoSem.ClaimJoined
import GoSem.ClaimMapViews
import Derived.JoinedTies
import Derived.KernelRfl
namespace Go.Proofs.YtfilbgmbmlmdbaaGreatDoor
/- THE CELL 'sum', in the pinned program and in every row, IS THE sha256 OF THE DUMP (.gsa) THAT YtfilbgmbmlmdbaaGreatDoorProg.lean LOADS. Nothing in Lean hashes anything: it is a label: what it is worth is what the hold of that sum in a sandbox is worth. -/
noncomputable def Tryz.pinned : Pinned := { name := "ytfilbgmbmlmdbaagreatdoor", sum := "4b92dc22d26c0f1cd3fc372bc35eb8798e7fba6756964958b66936d5191bb448", checked := Tryz.checked }
namespace Rows
def none {H : Type} : Left H := { results := [], args := [] }

/- WHAT THE LISTED PACKAGE-LEVEL VARIABLES READ AS WHEN THE CALL BEGINS. Each datum BY PROGRAM (the guide's laid-datum.mjs) off the statement by which the dump's own 'gosem.cut.vars' lays the variable. In a bare row this is a premise. The card (YtfilbgmbmlmdbaaGreatDoorCards.lean) ties it to the program's text. -/
def laid_loop_example_pub_g03460_pub_ebpfbtf_ErrNotSupported {H : Type} : DataW H := .iface "*errors.errorString" (.ptr (.agg [.lit (.string [110, 111, 116, 32, 115, 117, 112, 112, 111, 114, 116, 101, 100])]))
def laid_loop_example_pub_g03460_pub_ebpfbtf_ErrNotFound {H : Type} : DataW H := .iface "*errors.errorString" (.ptr (.agg [.lit (.string [110, 111, 116, 32, 102, 111, 117, 110, 100])]))
def laid_loop_example_pub_g03460_pub_ebpfbtf_errImpossibleRelocation {H : Type} : DataW H := .iface "*errors.errorString" (.ptr (.agg [.lit (.string [105, 109, 112, 111, 115, 115, 105, 98, 108, 101, 32, 114, 101, 108, 111, 99, 97, 116, 105, 111, 110])]))
def laid_loop_example_pub_g03460_pub_ebpfbtf_errIncompatibleTypes {H : Type} : DataW H := .iface "*errors.errorString" (.ptr (.agg [.lit (.string [105, 110, 99, 111, 109, 112, 97, 116, 105, 98, 108, 101, 32, 116, 121, 112, 101, 115])]))
def laid_loop_example_pub_g03460_pub_ebpfbtf_errNoSignedness {H : Type} : DataW H := .iface "*errors.errorString" (.ptr (.agg [.lit (.string [110, 111, 32, 115, 105, 103, 110, 101, 100, 110, 101, 115, 115])]))
def laid_loop_example_pub_g03460_pub_ebpfbtf_errUnsizedType {H : Type} : DataW H := .iface "*errors.errorString" (.ptr (.agg [.lit (.string [116, 121, 112, 101, 32, 105, 115, 32, 117, 110, 115, 105, 122, 101, 100])]))

/-- 'laws.FnField': WHATEVER THE INPUT: true; the input reads as it did. -/
def fnFieldSpec : ChangeSpec := { name := "fnField", vars := ["loop.example/pub-g03460/pub/ebpfbtf.ErrNotFound", "loop.example/pub-g03460/pub/ebpfbtf.errIncompatibleTypes", "loop.example/pub-g03460/pub/ebpfbtf.errImpossibleRelocation", "loop.example/pub-g03460/pub/ebpfbtf.errNoSignedness", "loop.example/pub-g03460/pub/ebpfbtf.ErrNotSupported", "loop.example/pub-g03460/pub/ebpfbtf.errUnsizedType"], fn := fun _ => fun
  | [d1, d2, d3, d4, d5, g1, g2, g3, g4, g5, g6] => { results := [.lit (.bool true)], args := [d1, d2, d3, d4, d5], vars := [g1, g2, g3, g4, g5, g6] }
  | _ => none }
def fnFieldRow : OpenClaim := { program := "ytfilbgmbmlmdbaagreatdoor", sum := "4b92dc22d26c0f1cd3fc372bc35eb8798e7fba6756964958b66936d5191bb448", func := "loop.example/pub-g03460/laws.FnField", spec := "fnField", inPlace := ["internal/reflectlite.TypeOf"], unfollowed := true, recurses := true, named := ["loop.example/pub-g03460/pub/ebpfbtf.ErrNotFound", "encoding/binary.LittleEndian", "encoding/binary.BigEndian", "loop.example/pub-g03460/pub/ebpfbtf.errIncompatibleTypes", "loop.example/pub-g03460/pub/ebpfbtf.errImpossibleRelocation", "loop.example/pub-g03460/pub/ebpfbtf.errNoSignedness", "loop.example/pub-g03460/pub/ebpfbtf.ErrNotSupported", "loop.example/pub-g03460/pub/ebpfbtf.errUnsizedType"], ifaces := true, plainKeys := false, apart := false, laid := [("loop.example/pub-g03460/pub/ebpfbtf.ErrNotSupported", laid_loop_example_pub_g03460_pub_ebpfbtf_ErrNotSupported), ("loop.example/pub-g03460/pub/ebpfbtf.ErrNotFound", laid_loop_example_pub_g03460_pub_ebpfbtf_ErrNotFound), ("loop.example/pub-g03460/pub/ebpfbtf.errImpossibleRelocation", laid_loop_example_pub_g03460_pub_ebpfbtf_errImpossibleRelocation), ("loop.example/pub-g03460/pub/ebpfbtf.errIncompatibleTypes", laid_loop_example_pub_g03460_pub_ebpfbtf_errIncompatibleTypes), ("loop.example/pub-g03460/pub/ebpfbtf.errNoSignedness", laid_loop_example_pub_g03460_pub_ebpfbtf_errNoSignedness), ("loop.example/pub-g03460/pub/ebpfbtf.errUnsizedType", laid_loop_example_pub_g03460_pub_ebpfbtf_errUnsizedType)] }
def FnFieldSaid : Prop := fnFieldRow.holds Tryz.pinned (OpenSpec.ofChange fnFieldSpec)

/-- ITS FALSE NEIGHBOUR: 'it returns false'. Refute it at one input. -/
def fnFieldWrong : ChangeSpec := { name := "fnField", vars := ["loop.example/pub-g03460/pub/ebpfbtf.ErrNotFound", "loop.example/pub-g03460/pub/ebpfbtf.errIncompatibleTypes", "loop.example/pub-g03460/pub/ebpfbtf.errImpossibleRelocation", "loop.example/pub-g03460/pub/ebpfbtf.errNoSignedness", "loop.example/pub-g03460/pub/ebpfbtf.ErrNotSupported", "loop.example/pub-g03460/pub/ebpfbtf.errUnsizedType"], fn := fun _ => fun
  | [d1, d2, d3, d4, d5, g1, g2, g3, g4, g5, g6] => { results := [.lit (.bool false)], args := [d1, d2, d3, d4, d5], vars := [g1, g2, g3, g4, g5, g6] }
  | _ => none }
def FnFieldWrongFalsely : Prop := fnFieldRow.holds Tryz.pinned (OpenSpec.ofChange fnFieldWrong)

/-- 'laws.FnType': WHATEVER THE INPUT: true; the input reads as it did. -/
def fnTypeSpec : ChangeSpec := { name := "fnType", vars := ["loop.example/pub-g03460/pub/ebpfbtf.ErrNotFound", "loop.example/pub-g03460/pub/ebpfbtf.errIncompatibleTypes", "loop.example/pub-g03460/pub/ebpfbtf.errImpossibleRelocation", "loop.example/pub-g03460/pub/ebpfbtf.errNoSignedness", "loop.example/pub-g03460/pub/ebpfbtf.ErrNotSupported", "loop.example/pub-g03460/pub/ebpfbtf.errUnsizedType"], fn := fun _ => fun
  | [d1, d2, d3, d4, g1, g2, g3, g4, g5, g6] => { results := [.lit (.bool true)], args := [d1, d2, d3, d4], vars := [g1, g2, g3, g4, g5, g6] }
  | _ => none }
def fnTypeRow : OpenClaim := { program := "ytfilbgmbmlmdbaagreatdoor", sum := "4b92dc22d26c0f1cd3fc372bc35eb8798e7fba6756964958b66936d5191bb448", func := "loop.example/pub-g03460/laws.FnType", spec := "fnType", inPlace := ["internal/reflectlite.TypeOf"], unfollowed := true, recurses := true, named := ["loop.example/pub-g03460/pub/ebpfbtf.ErrNotFound", "encoding/binary.LittleEndian", "encoding/binary.BigEndian", "loop.example/pub-g03460/pub/ebpfbtf.errIncompatibleTypes", "loop.example/pub-g03460/pub/ebpfbtf.errImpossibleRelocation", "loop.example/pub-g03460/pub/ebpfbtf.errNoSignedness", "loop.example/pub-g03460/pub/ebpfbtf.ErrNotSupported", "loop.example/pub-g03460/pub/ebpfbtf.errUnsizedType"], ifaces := true, plainKeys := false, apart := false, laid := [("loop.example/pub-g03460/pub/ebpfbtf.ErrNotSupported", laid_loop_example_pub_g03460_pub_ebpfbtf_ErrNotSupported), ("loop.example/pub-g03460/pub/ebpfbtf.ErrNotFound", laid_loop_example_pub_g03460_pub_ebpfbtf_ErrNotFound), ("loop.example/pub-g03460/pub/ebpfbtf.errImpossibleRelocation", laid_loop_example_pub_g03460_pub_ebpfbtf_errImpossibleRelocation), ("loop.example/pub-g03460/pub/ebpfbtf.errIncompatibleTypes", laid_loop_example_pub_g03460_pub_ebpfbtf_errIncompatibleTypes), ("loop.example/pub-g03460/pub/ebpfbtf.errNoSignedness", laid_loop_example_pub_g03460_pub_ebpfbtf_errNoSignedness), ("loop.example/pub-g03460/pub/ebpfbtf.errUnsizedType", laid_loop_example_pub_g03460_pub_ebpfbtf_errUnsizedType)] }
def FnTypeSaid : Prop := fnTypeRow.holds Tryz.pinned (OpenSpec.ofChange fnTypeSpec)

/-- ITS FALSE NEIGHBOUR: 'it returns false'. Refute it at one input. -/
def fnTypeWrong : ChangeSpec := { name := "fnType", vars := ["loop.example/pub-g03460/pub/ebpfbtf.ErrNotFound", "loop.example/pub-g03460/pub/ebpfbtf.errIncompatibleTypes", "loop.example/pub-g03460/pub/ebpfbtf.errImpossibleRelocation", "loop.example/pub-g03460/pub/ebpfbtf.errNoSignedness", "loop.example/pub-g03460/pub/ebpfbtf.ErrNotSupported", "loop.example/pub-g03460/pub/ebpfbtf.errUnsizedType"], fn := fun _ => fun
  | [d1, d2, d3, d4, g1, g2, g3, g4, g5, g6] => { results := [.lit (.bool false)], args := [d1, d2, d3, d4], vars := [g1, g2, g3, g4, g5, g6] }
  | _ => none }
def FnTypeWrongFalsely : Prop := fnTypeRow.holds Tryz.pinned (OpenSpec.ofChange fnTypeWrong)

/-- 'laws.FnValue': WHATEVER THE INPUT: true; the input reads as it did. -/
def fnValueSpec : ChangeSpec := { name := "fnValue", vars := ["loop.example/pub-g03460/pub/ebpfbtf.ErrNotFound", "loop.example/pub-g03460/pub/ebpfbtf.errIncompatibleTypes", "loop.example/pub-g03460/pub/ebpfbtf.errImpossibleRelocation", "loop.example/pub-g03460/pub/ebpfbtf.errNoSignedness", "loop.example/pub-g03460/pub/ebpfbtf.ErrNotSupported", "loop.example/pub-g03460/pub/ebpfbtf.errUnsizedType"], fn := fun _ => fun
  | [d1, d2, d3, d4, d5, d6, g1, g2, g3, g4, g5, g6] => { results := [.lit (.bool true)], args := [d1, d2, d3, d4, d5, d6], vars := [g1, g2, g3, g4, g5, g6] }
  | _ => none }
def fnValueRow : OpenClaim := { program := "ytfilbgmbmlmdbaagreatdoor", sum := "4b92dc22d26c0f1cd3fc372bc35eb8798e7fba6756964958b66936d5191bb448", func := "loop.example/pub-g03460/laws.FnValue", spec := "fnValue", inPlace := ["internal/reflectlite.TypeOf"], unfollowed := true, recurses := true, named := ["loop.example/pub-g03460/pub/ebpfbtf.ErrNotFound", "encoding/binary.LittleEndian", "encoding/binary.BigEndian", "loop.example/pub-g03460/pub/ebpfbtf.errIncompatibleTypes", "loop.example/pub-g03460/pub/ebpfbtf.errImpossibleRelocation", "loop.example/pub-g03460/pub/ebpfbtf.errNoSignedness", "loop.example/pub-g03460/pub/ebpfbtf.ErrNotSupported", "loop.example/pub-g03460/pub/ebpfbtf.errUnsizedType"], ifaces := true, plainKeys := false, apart := false, laid := [("loop.example/pub-g03460/pub/ebpfbtf.ErrNotSupported", laid_loop_example_pub_g03460_pub_ebpfbtf_ErrNotSupported), ("loop.example/pub-g03460/pub/ebpfbtf.ErrNotFound", laid_loop_example_pub_g03460_pub_ebpfbtf_ErrNotFound), ("loop.example/pub-g03460/pub/ebpfbtf.errImpossibleRelocation", laid_loop_example_pub_g03460_pub_ebpfbtf_errImpossibleRelocation), ("loop.example/pub-g03460/pub/ebpfbtf.errIncompatibleTypes", laid_loop_example_pub_g03460_pub_ebpfbtf_errIncompatibleTypes), ("loop.example/pub-g03460/pub/ebpfbtf.errNoSignedness", laid_loop_example_pub_g03460_pub_ebpfbtf_errNoSignedness), ("loop.example/pub-g03460/pub/ebpfbtf.errUnsizedType", laid_loop_example_pub_g03460_pub_ebpfbtf_errUnsizedType)] }
def FnValueSaid : Prop := fnValueRow.holds Tryz.pinned (OpenSpec.ofChange fnValueSpec)

/-- ITS FALSE NEIGHBOUR: 'it returns false'. Refute it at one input. -/
def fnValueWrong : ChangeSpec := { name := "fnValue", vars := ["loop.example/pub-g03460/pub/ebpfbtf.ErrNotFound", "loop.example/pub-g03460/pub/ebpfbtf.errIncompatibleTypes", "loop.example/pub-g03460/pub/ebpfbtf.errImpossibleRelocation", "loop.example/pub-g03460/pub/ebpfbtf.errNoSignedness", "loop.example/pub-g03460/pub/ebpfbtf.ErrNotSupported", "loop.example/pub-g03460/pub/ebpfbtf.errUnsizedType"], fn := fun _ => fun
  | [d1, d2, d3, d4, d5, d6, g1, g2, g3, g4, g5, g6] => { results := [.lit (.bool false)], args := [d1, d2, d3, d4, d5, d6], vars := [g1, g2, g3, g4, g5, g6] }
  | _ => none }
def FnValueWrongFalsely : Prop := fnValueRow.holds Tryz.pinned (OpenSpec.ofChange fnValueWrong)

/-- 'laws.FnMatches': WHATEVER THE INPUT: true; the input reads as it did. -/
def fnMatchesSpec : ChangeSpec := { name := "fnMatches", vars := ["loop.example/pub-g03460/pub/ebpfbtf.errIncompatibleTypes", "loop.example/pub-g03460/pub/ebpfbtf.errImpossibleRelocation", "loop.example/pub-g03460/pub/ebpfbtf.ErrNotSupported", "loop.example/pub-g03460/pub/ebpfbtf.ErrNotFound", "loop.example/pub-g03460/pub/ebpfbtf.errNoSignedness", "loop.example/pub-g03460/pub/ebpfbtf.errUnsizedType"], fn := fun _ => fun
  | [d1, d2, d3, d4, g1, g2, g3, g4, g5, g6] => { results := [.lit (.bool true)], args := [d1, d2, d3, d4], vars := [g1, g2, g3, g4, g5, g6] }
  | _ => none }
def fnMatchesRow : OpenClaim := { program := "ytfilbgmbmlmdbaagreatdoor", sum := "4b92dc22d26c0f1cd3fc372bc35eb8798e7fba6756964958b66936d5191bb448", func := "loop.example/pub-g03460/laws.FnMatches", spec := "fnMatches", inPlace := ["internal/reflectlite.TypeOf"], unfollowed := true, recurses := true, named := ["loop.example/pub-g03460/pub/ebpfbtf.errIncompatibleTypes", "loop.example/pub-g03460/pub/ebpfbtf.errImpossibleRelocation", "loop.example/pub-g03460/pub/ebpfbtf.ErrNotSupported", "loop.example/pub-g03460/pub/ebpfbtf.ErrNotFound", "encoding/binary.LittleEndian", "encoding/binary.BigEndian", "loop.example/pub-g03460/pub/ebpfbtf.errNoSignedness", "loop.example/pub-g03460/pub/ebpfbtf.errUnsizedType"], ifaces := true, plainKeys := false, apart := false, laid := [("loop.example/pub-g03460/pub/ebpfbtf.ErrNotSupported", laid_loop_example_pub_g03460_pub_ebpfbtf_ErrNotSupported), ("loop.example/pub-g03460/pub/ebpfbtf.ErrNotFound", laid_loop_example_pub_g03460_pub_ebpfbtf_ErrNotFound), ("loop.example/pub-g03460/pub/ebpfbtf.errImpossibleRelocation", laid_loop_example_pub_g03460_pub_ebpfbtf_errImpossibleRelocation), ("loop.example/pub-g03460/pub/ebpfbtf.errIncompatibleTypes", laid_loop_example_pub_g03460_pub_ebpfbtf_errIncompatibleTypes), ("loop.example/pub-g03460/pub/ebpfbtf.errNoSignedness", laid_loop_example_pub_g03460_pub_ebpfbtf_errNoSignedness), ("loop.example/pub-g03460/pub/ebpfbtf.errUnsizedType", laid_loop_example_pub_g03460_pub_ebpfbtf_errUnsizedType)] }
def FnMatchesSaid : Prop := fnMatchesRow.holds Tryz.pinned (OpenSpec.ofChange fnMatchesSpec)

/-- ITS FALSE NEIGHBOUR: 'it returns false'. Refute it at one input. -/
def fnMatchesWrong : ChangeSpec := { name := "fnMatches", vars := ["loop.example/pub-g03460/pub/ebpfbtf.errIncompatibleTypes", "loop.example/pub-g03460/pub/ebpfbtf.errImpossibleRelocation", "loop.example/pub-g03460/pub/ebpfbtf.ErrNotSupported", "loop.example/pub-g03460/pub/ebpfbtf.ErrNotFound", "loop.example/pub-g03460/pub/ebpfbtf.errNoSignedness", "loop.example/pub-g03460/pub/ebpfbtf.errUnsizedType"], fn := fun _ => fun
  | [d1, d2, d3, d4, g1, g2, g3, g4, g5, g6] => { results := [.lit (.bool false)], args := [d1, d2, d3, d4], vars := [g1, g2, g3, g4, g5, g6] }
  | _ => none }
def FnMatchesWrongFalsely : Prop := fnMatchesRow.holds Tryz.pinned (OpenSpec.ofChange fnMatchesWrong)

/- THE SECOND FORM. 'bulk': how many values and letters a reading holds, each counted each time it is reached (what is shared counts as often as it is met; a slice's spare places count too). A statement '..UptoSaid' is the law's where the arguments, and the package variables that the reading takes, are together of bulk at most 1048576: NARROWER than '..Said'. Prove '..Said' where nothing that the law and all that it calls make is longer than what came in: it says more and counts as full. Else prove '..UptoSaid'. A law counts once. -/
mutual
def uptoBulk {H : Type} : DataW H → Nat
  | .lit (.string bytes) => bytes.length + 1
  | .lit _ => 1
  | .nil => 1
  | .ptr d => uptoBulk d + 1
  | .slice elems spare => uptoBulkAll elems + uptoBulkAll spare + 1
  | .agg parts => uptoBulkAll parts + 1
  | .iface _ d => uptoBulk d + 1
  | .map entries => uptoBulkEntries entries + 1
  | .held _ => 1
def uptoBulkAll {H : Type} : List (DataW H) → Nat
  | [] => 0
  | d :: r => uptoBulk d + uptoBulkAll r
def uptoBulkEntries {H : Type} : List (Lit × DataW H) → Nat
  | [] => 0
  | x :: r => uptoBulkEntry x + uptoBulkEntries r
def uptoBulkEntry {H : Type} : Lit × DataW H → Nat
  | (.string bytes, d) => bytes.length + uptoBulk d + 1
  | (_, d) => uptoBulk d + 1
 end
def uptoSmall : (H : Type) → List (DataW H) → Bool := fun _ ds => decide (uptoBulkAll ds ≤ 1048576)
def OpenSpec.upto (s : _root_.Go.ChangeSpec) : _root_.Go.OpenSpec := { _root_.Go.OpenSpec.ofChange s with cond := some uptoSmall }

/-- 'laws.FnField', WHERE WHAT IT READS IS OF BULK AT MOST 1048576: true; the input reads as it did. -/
def fnFieldUptoRow : OpenClaim := { program := "ytfilbgmbmlmdbaagreatdoor", sum := "4b92dc22d26c0f1cd3fc372bc35eb8798e7fba6756964958b66936d5191bb448", func := "loop.example/pub-g03460/laws.FnField", spec := "fnField", inPlace := ["internal/reflectlite.TypeOf"], unfollowed := true, recurses := true, named := ["loop.example/pub-g03460/pub/ebpfbtf.ErrNotFound", "encoding/binary.LittleEndian", "encoding/binary.BigEndian", "loop.example/pub-g03460/pub/ebpfbtf.errIncompatibleTypes", "loop.example/pub-g03460/pub/ebpfbtf.errImpossibleRelocation", "loop.example/pub-g03460/pub/ebpfbtf.errNoSignedness", "loop.example/pub-g03460/pub/ebpfbtf.ErrNotSupported", "loop.example/pub-g03460/pub/ebpfbtf.errUnsizedType"], ifaces := true, plainKeys := false, apart := false, laid := [("loop.example/pub-g03460/pub/ebpfbtf.ErrNotSupported", laid_loop_example_pub_g03460_pub_ebpfbtf_ErrNotSupported), ("loop.example/pub-g03460/pub/ebpfbtf.ErrNotFound", laid_loop_example_pub_g03460_pub_ebpfbtf_ErrNotFound), ("loop.example/pub-g03460/pub/ebpfbtf.errImpossibleRelocation", laid_loop_example_pub_g03460_pub_ebpfbtf_errImpossibleRelocation), ("loop.example/pub-g03460/pub/ebpfbtf.errIncompatibleTypes", laid_loop_example_pub_g03460_pub_ebpfbtf_errIncompatibleTypes), ("loop.example/pub-g03460/pub/ebpfbtf.errNoSignedness", laid_loop_example_pub_g03460_pub_ebpfbtf_errNoSignedness), ("loop.example/pub-g03460/pub/ebpfbtf.errUnsizedType", laid_loop_example_pub_g03460_pub_ebpfbtf_errUnsizedType)], narrowed := true }
def FnFieldUptoSaid : Prop := fnFieldUptoRow.holds Tryz.pinned (OpenSpec.upto fnFieldSpec)

/-- 'laws.FnType', WHERE WHAT IT READS IS OF BULK AT MOST 1048576: true; the input reads as it did. -/
def fnTypeUptoRow : OpenClaim := { program := "ytfilbgmbmlmdbaagreatdoor", sum := "4b92dc22d26c0f1cd3fc372bc35eb8798e7fba6756964958b66936d5191bb448", func := "loop.example/pub-g03460/laws.FnType", spec := "fnType", inPlace := ["internal/reflectlite.TypeOf"], unfollowed := true, recurses := true, named := ["loop.example/pub-g03460/pub/ebpfbtf.ErrNotFound", "encoding/binary.LittleEndian", "encoding/binary.BigEndian", "loop.example/pub-g03460/pub/ebpfbtf.errIncompatibleTypes", "loop.example/pub-g03460/pub/ebpfbtf.errImpossibleRelocation", "loop.example/pub-g03460/pub/ebpfbtf.errNoSignedness", "loop.example/pub-g03460/pub/ebpfbtf.ErrNotSupported", "loop.example/pub-g03460/pub/ebpfbtf.errUnsizedType"], ifaces := true, plainKeys := false, apart := false, laid := [("loop.example/pub-g03460/pub/ebpfbtf.ErrNotSupported", laid_loop_example_pub_g03460_pub_ebpfbtf_ErrNotSupported), ("loop.example/pub-g03460/pub/ebpfbtf.ErrNotFound", laid_loop_example_pub_g03460_pub_ebpfbtf_ErrNotFound), ("loop.example/pub-g03460/pub/ebpfbtf.errImpossibleRelocation", laid_loop_example_pub_g03460_pub_ebpfbtf_errImpossibleRelocation), ("loop.example/pub-g03460/pub/ebpfbtf.errIncompatibleTypes", laid_loop_example_pub_g03460_pub_ebpfbtf_errIncompatibleTypes), ("loop.example/pub-g03460/pub/ebpfbtf.errNoSignedness", laid_loop_example_pub_g03460_pub_ebpfbtf_errNoSignedness), ("loop.example/pub-g03460/pub/ebpfbtf.errUnsizedType", laid_loop_example_pub_g03460_pub_ebpfbtf_errUnsizedType)], narrowed := true }
def FnTypeUptoSaid : Prop := fnTypeUptoRow.holds Tryz.pinned (OpenSpec.upto fnTypeSpec)

/-- 'laws.FnValue', WHERE WHAT IT READS IS OF BULK AT MOST 1048576: true; the input reads as it did. -/
def fnValueUptoRow : OpenClaim := { program := "ytfilbgmbmlmdbaagreatdoor", sum := "4b92dc22d26c0f1cd3fc372bc35eb8798e7fba6756964958b66936d5191bb448", func := "loop.example/pub-g03460/laws.FnValue", spec := "fnValue", inPlace := ["internal/reflectlite.TypeOf"], unfollowed := true, recurses := true, named := ["loop.example/pub-g03460/pub/ebpfbtf.ErrNotFound", "encoding/binary.LittleEndian", "encoding/binary.BigEndian", "loop.example/pub-g03460/pub/ebpfbtf.errIncompatibleTypes", "loop.example/pub-g03460/pub/ebpfbtf.errImpossibleRelocation", "loop.example/pub-g03460/pub/ebpfbtf.errNoSignedness", "loop.example/pub-g03460/pub/ebpfbtf.ErrNotSupported", "loop.example/pub-g03460/pub/ebpfbtf.errUnsizedType"], ifaces := true, plainKeys := false, apart := false, laid := [("loop.example/pub-g03460/pub/ebpfbtf.ErrNotSupported", laid_loop_example_pub_g03460_pub_ebpfbtf_ErrNotSupported), ("loop.example/pub-g03460/pub/ebpfbtf.ErrNotFound", laid_loop_example_pub_g03460_pub_ebpfbtf_ErrNotFound), ("loop.example/pub-g03460/pub/ebpfbtf.errImpossibleRelocation", laid_loop_example_pub_g03460_pub_ebpfbtf_errImpossibleRelocation), ("loop.example/pub-g03460/pub/ebpfbtf.errIncompatibleTypes", laid_loop_example_pub_g03460_pub_ebpfbtf_errIncompatibleTypes), ("loop.example/pub-g03460/pub/ebpfbtf.errNoSignedness", laid_loop_example_pub_g03460_pub_ebpfbtf_errNoSignedness), ("loop.example/pub-g03460/pub/ebpfbtf.errUnsizedType", laid_loop_example_pub_g03460_pub_ebpfbtf_errUnsizedType)], narrowed := true }
def FnValueUptoSaid : Prop := fnValueUptoRow.holds Tryz.pinned (OpenSpec.upto fnValueSpec)

/-- 'laws.FnMatches', WHERE WHAT IT READS IS OF BULK AT MOST 1048576: true; the input reads as it did. -/
def fnMatchesUptoRow : OpenClaim := { program := "ytfilbgmbmlmdbaagreatdoor", sum := "4b92dc22d26c0f1cd3fc372bc35eb8798e7fba6756964958b66936d5191bb448", func := "loop.example/pub-g03460/laws.FnMatches", spec := "fnMatches", inPlace := ["internal/reflectlite.TypeOf"], unfollowed := true, recurses := true, named := ["loop.example/pub-g03460/pub/ebpfbtf.errIncompatibleTypes", "loop.example/pub-g03460/pub/ebpfbtf.errImpossibleRelocation", "loop.example/pub-g03460/pub/ebpfbtf.ErrNotSupported", "loop.example/pub-g03460/pub/ebpfbtf.ErrNotFound", "encoding/binary.LittleEndian", "encoding/binary.BigEndian", "loop.example/pub-g03460/pub/ebpfbtf.errNoSignedness", "loop.example/pub-g03460/pub/ebpfbtf.errUnsizedType"], ifaces := true, plainKeys := false, apart := false, laid := [("loop.example/pub-g03460/pub/ebpfbtf.ErrNotSupported", laid_loop_example_pub_g03460_pub_ebpfbtf_ErrNotSupported), ("loop.example/pub-g03460/pub/ebpfbtf.ErrNotFound", laid_loop_example_pub_g03460_pub_ebpfbtf_ErrNotFound), ("loop.example/pub-g03460/pub/ebpfbtf.errImpossibleRelocation", laid_loop_example_pub_g03460_pub_ebpfbtf_errImpossibleRelocation), ("loop.example/pub-g03460/pub/ebpfbtf.errIncompatibleTypes", laid_loop_example_pub_g03460_pub_ebpfbtf_errIncompatibleTypes), ("loop.example/pub-g03460/pub/ebpfbtf.errNoSignedness", laid_loop_example_pub_g03460_pub_ebpfbtf_errNoSignedness), ("loop.example/pub-g03460/pub/ebpfbtf.errUnsizedType", laid_loop_example_pub_g03460_pub_ebpfbtf_errUnsizedType)], narrowed := true }
def FnMatchesUptoSaid : Prop := fnMatchesUptoRow.holds Tryz.pinned (OpenSpec.upto fnMatchesSpec)

end Rows
end Go.Proofs.YtfilbgmbmlmdbaaGreatDoor
