/- The sentinels of the package: what a row's list of them gives, a world that has them, how they read. Nothing is claimed here. -/
import Derived.Test.YtfilbgmbmlmdbaaGreatDoorCards
import Derived.Test.YtfilbgmbmlmdbaaGreatDoorTie
import Derived.SevenTiedAt
import Derived.ChangeSame
import Derived.ChangeVars
import Derived.JoinedOf
import Derived.RowKit
import Derived.RowKitTokens
import Derived.LaidLaws
import Derived.Stop.LaidErr
import Derived.Stop.Joined
import Derived.WalkKit
import Derived.ProofKit
import Derived.OpenShut
import Derived.ShutString
import Derived.ChangeOld
import Derived.Below
import Derived.WalkSmall
import Derived.Deep.DeepLaidRun
namespace Go.Proofs.YtfilbgmbmlmdbaaGreatDoor
open Go.ChangeShapes Go.WideShapes Go.ChangeAt Go.RowKit

theorem zOwn : ownKnob Tryz.prog.godebug = none := by kernel_rfl
theorem zLaidOut : laidOutB Tryz.prog = true := by kernel_rfl
theorem zCellsE : Tryz.prog.cellsOf 230 = 1 := by kernel_rfl
theorem zCellsS : Tryz.prog.cellsOf 9 = 1 := by kernel_rfl
theorem zStar : "*" ++ "errors.errorString" = "*errors.errorString" := by decide
theorem zRow (u : TypeId) (h : Tryz.prog.typeName? 3 u = some "*errors.errorString") : u = 228 :=
  typeName_ptr_named (nm := "errors.errorString") (by rw [zStar]; kernel_rfl) (by kernel_rfl) (by decide) u (by rw [zStar]; exact h)
theorem zG0 : Tryz.prog.globalNamed "loop.example/pub-g03460/pub/ebpfbtf.ErrNotFound" = some 0 := by kernel_rfl
theorem zT0 : (Tryz.prog.globals[0]?).map (·.type) = some 84 := by kernel_rfl
theorem zG3 : Tryz.prog.globalNamed "loop.example/pub-g03460/pub/ebpfbtf.errIncompatibleTypes" = some 3 := by kernel_rfl
theorem zT3 : (Tryz.prog.globals[3]?).map (·.type) = some 84 := by kernel_rfl
theorem zG4 : Tryz.prog.globalNamed "loop.example/pub-g03460/pub/ebpfbtf.errImpossibleRelocation" = some 4 := by kernel_rfl
theorem zT4 : (Tryz.prog.globals[4]?).map (·.type) = some 84 := by kernel_rfl
theorem zG5 : Tryz.prog.globalNamed "loop.example/pub-g03460/pub/ebpfbtf.errNoSignedness" = some 5 := by kernel_rfl
theorem zT5 : (Tryz.prog.globals[5]?).map (·.type) = some 84 := by kernel_rfl
theorem zG6 : Tryz.prog.globalNamed "loop.example/pub-g03460/pub/ebpfbtf.ErrNotSupported" = some 6 := by kernel_rfl
theorem zT6 : (Tryz.prog.globals[6]?).map (·.type) = some 84 := by kernel_rfl
theorem zG7 : Tryz.prog.globalNamed "loop.example/pub-g03460/pub/ebpfbtf.errUnsizedType" = some 7 := by kernel_rfl
theorem zT7 : (Tryz.prog.globals[7]?).map (·.type) = some 84 := by kernel_rfl
/-- The six variables, as a world has them. -/
structure Six (W : World) (a : Nat → Addr) : Prop where
  v0 : W.var? Tryz.prog "loop.example/pub-g03460/pub/ebpfbtf.ErrNotFound" = some #[.iface 228 (.pointer (some (a 0)))]
  v3 : W.var? Tryz.prog "loop.example/pub-g03460/pub/ebpfbtf.errIncompatibleTypes" = some #[.iface 228 (.pointer (some (a 3)))]
  v4 : W.var? Tryz.prog "loop.example/pub-g03460/pub/ebpfbtf.errImpossibleRelocation" = some #[.iface 228 (.pointer (some (a 4)))]
  v5 : W.var? Tryz.prog "loop.example/pub-g03460/pub/ebpfbtf.errNoSignedness" = some #[.iface 228 (.pointer (some (a 5)))]
  v6 : W.var? Tryz.prog "loop.example/pub-g03460/pub/ebpfbtf.ErrNotSupported" = some #[.iface 228 (.pointer (some (a 6)))]
  v7 : W.var? Tryz.prog "loop.example/pub-g03460/pub/ebpfbtf.errUnsizedType" = some #[.iface 228 (.pointer (some (a 7)))]
theorem six_of_laid {W : World} (h : laidMet Tryz.prog Rows.fnTypeRow.laid W) : ∃ a, Six W a := by
  obtain ⟨a6, s6, hv6, _⟩ := laid_sentinel h zG6 zT6 Tryz.underlying84 zRow Tryz.underlying228 Tryz.underlying230 rfl rfl Tryz.underlying9 zCellsE zCellsS
  obtain ⟨a0, s0, hv0, _⟩ := laid_sentinel h.tail zG0 zT0 Tryz.underlying84 zRow Tryz.underlying228 Tryz.underlying230 rfl rfl Tryz.underlying9 zCellsE zCellsS
  obtain ⟨a4, s4, hv4, _⟩ := laid_sentinel h.tail.tail zG4 zT4 Tryz.underlying84 zRow Tryz.underlying228 Tryz.underlying230 rfl rfl Tryz.underlying9 zCellsE zCellsS
  obtain ⟨a3, s3, hv3, _⟩ := laid_sentinel h.tail.tail.tail zG3 zT3 Tryz.underlying84 zRow Tryz.underlying228 Tryz.underlying230 rfl rfl Tryz.underlying9 zCellsE zCellsS
  obtain ⟨a5, s5, hv5, _⟩ := laid_sentinel h.tail.tail.tail.tail zG5 zT5 Tryz.underlying84 zRow Tryz.underlying228 Tryz.underlying230 rfl rfl Tryz.underlying9 zCellsE zCellsS
  obtain ⟨a7, s7, hv7, _⟩ := laid_sentinel h.tail.tail.tail.tail.tail zG7 zT7 Tryz.underlying84 zRow Tryz.underlying228 Tryz.underlying230 rfl rfl Tryz.underlying9 zCellsE zCellsS
  exact ⟨fun g => match g with | 0 => a0 | 3 => a3 | 4 => a4 | 5 => a5 | 6 => a6 | _ => a7, hv0, hv3, hv4, hv5, hv6, hv7⟩
theorem Six.below {W W' : World} {a : Nat → Addr} (h : Six W a) (hb : Below W.heap.size W W') : Six W' a := by
  have lt : ∀ {n : String} {g : Nat} {x : Value}, Tryz.prog.globalNamed n = some g → W.var? Tryz.prog n = some #[x] → g < W.heap.size := fun hg hv =>
    World.block_lt_of_cell? _ ⟨_, 0, none⟩ (World.var?_cell hg hv 0)
  exact ⟨var?_below hb zG0 (lt zG0 h.v0) h.v0, var?_below hb zG3 (lt zG3 h.v3) h.v3, var?_below hb zG4 (lt zG4 h.v4) h.v4, var?_below hb zG5 (lt zG5 h.v5) h.v5, var?_below hb zG6 (lt zG6 h.v6) h.v6, var?_below hb zG7 (lt zG7 h.v7) h.v7⟩
theorem Six.reads {H : Type} (enc : TypeId × Value → H) {W : World} {a : Nat → Addr} (h : Six W a) (sp : Nat → Bool) :
    DataW.TrodVars enc Tryz.prog W sp ["loop.example/pub-g03460/pub/ebpfbtf.ErrNotFound", "loop.example/pub-g03460/pub/ebpfbtf.errIncompatibleTypes", "loop.example/pub-g03460/pub/ebpfbtf.errImpossibleRelocation", "loop.example/pub-g03460/pub/ebpfbtf.errNoSignedness", "loop.example/pub-g03460/pub/ebpfbtf.ErrNotSupported", "loop.example/pub-g03460/pub/ebpfbtf.errUnsizedType"]
      [tok enc (.iface 228 (.pointer (some (a 0)))), tok enc (.iface 228 (.pointer (some (a 3)))), tok enc (.iface 228 (.pointer (some (a 4)))), tok enc (.iface 228 (.pointer (some (a 5)))), tok enc (.iface 228 (.pointer (some (a 6)))), tok enc (.iface 228 (.pointer (some (a 7))))]
      [.cell 0 0, .cell 3 0, .cell 4 0, .cell 5 0, .cell 6 0, .cell 7 0] :=
  ⟨0, 84, #[.iface 228 (.pointer (some (a 0)))], 1, [], [.cell 3 0, .cell 4 0, .cell 5 0, .cell 6 0, .cell 7 0], zG0, zT0, h.v0, trod_held (v := .iface 228 (.pointer (some (a 0)))) Tryz.underlying84 trivial 0, ⟨3, 84, #[.iface 228 (.pointer (some (a 3)))], 1, [], [.cell 4 0, .cell 5 0, .cell 6 0, .cell 7 0], zG3, zT3, h.v3, trod_held (v := .iface 228 (.pointer (some (a 3)))) Tryz.underlying84 trivial 0, ⟨4, 84, #[.iface 228 (.pointer (some (a 4)))], 1, [], [.cell 5 0, .cell 6 0, .cell 7 0], zG4, zT4, h.v4, trod_held (v := .iface 228 (.pointer (some (a 4)))) Tryz.underlying84 trivial 0, ⟨5, 84, #[.iface 228 (.pointer (some (a 5)))], 1, [], [.cell 6 0, .cell 7 0], zG5, zT5, h.v5, trod_held (v := .iface 228 (.pointer (some (a 5)))) Tryz.underlying84 trivial 0, ⟨6, 84, #[.iface 228 (.pointer (some (a 6)))], 1, [], [.cell 7 0], zG6, zT6, h.v6, trod_held (v := .iface 228 (.pointer (some (a 6)))) Tryz.underlying84 trivial 0, ⟨7, 84, #[.iface 228 (.pointer (some (a 7)))], 1, [], [], zG7, zT7, h.v7, trod_held (v := .iface 228 (.pointer (some (a 7)))) Tryz.underlying84 trivial 0, rfl, rfl⟩, rfl⟩, rfl⟩, rfl⟩, rfl⟩, rfl⟩
noncomputable def zLow : Nat := (World.holding Tryz.prog default ⟨#[], #[], []⟩).heap.size
/-- One cell laid. -/
def zPut (v : Value) : Obj → Obj
  | .cells _ t frozen => .cells #[v] t frozen
  | o => o
noncomputable def zWorld (os : Os) : World :=
  let w0 := World.holding Tryz.prog os ⟨#[(.cells #[.string { data := #[110, 111, 116, 32, 115, 117, 112, 112, 111, 114, 116, 101, 100] }] 230), (.cells #[.string { data := #[110, 111, 116, 32, 102, 111, 117, 110, 100] }] 230), (.cells #[.string { data := #[105, 109, 112, 111, 115, 115, 105, 98, 108, 101, 32, 114, 101, 108, 111, 99, 97, 116, 105, 111, 110] }] 230), (.cells #[.string { data := #[105, 110, 99, 111, 109, 112, 97, 116, 105, 98, 108, 101, 32, 116, 121, 112, 101, 115] }] 230), (.cells #[.string { data := #[110, 111, 32, 115, 105, 103, 110, 101, 100, 110, 101, 115, 115] }] 230), (.cells #[.string { data := #[116, 121, 112, 101, 32, 105, 115, 32, 117, 110, 115, 105, 122, 101, 100] }] 230)], #[], []⟩
  { w0 with heap := ((((((w0.heap.modify 6 (zPut (.iface 228 (.pointer (some ⟨zLow + 0, 0, none⟩))))).modify 0 (zPut (.iface 228 (.pointer (some ⟨zLow + 1, 0, none⟩))))).modify 4 (zPut (.iface 228 (.pointer (some ⟨zLow + 2, 0, none⟩))))).modify 3 (zPut (.iface 228 (.pointer (some ⟨zLow + 3, 0, none⟩))))).modify 5 (zPut (.iface 228 (.pointer (some ⟨zLow + 4, 0, none⟩))))).modify 7 (zPut (.iface 228 (.pointer (some ⟨zLow + 5, 0, none⟩))))) }
theorem zWorld_met (os : Os) (args : Array Value) : laidMet Tryz.prog Rows.fnTypeRow.laid ((zWorld os).forCall (fun _ _ => 0) ⟨#[], args, []⟩).memory :=
  laidMet_of_run3 8 (by kernel_rfl) (by kernel_rfl) (by kernel_rfl)
#print axioms six_of_laid
#print axioms zWorld_met
end Go.Proofs.YtfilbgmbmlmdbaaGreatDoor
