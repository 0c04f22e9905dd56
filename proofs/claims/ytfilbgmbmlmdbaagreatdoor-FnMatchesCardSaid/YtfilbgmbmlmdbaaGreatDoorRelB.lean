/- The number of a built type's kind. Nothing is claimed here. -/
import Derived.Test.YtfilbgmbmlmdbaaGreatDoorRelA
namespace Go.Proofs.YtfilbgmbmlmdbaaGreatDoor
open Go.RowKit

theorem taNoFwd (u : TypeId) (h : u ≠ 132) (W : World) (v : Value) : (Instr.typeAssert (.iface u v) 77 132 true).run Tryz.prog W = .ok (.tuple #[.pointer none, .bool false]) W := ta_no Tryz.underlying132 (fun W => by kernel_rfl) u h W v
theorem taNoProto (u : TypeId) (h : u ≠ 170) (W : World) (v : Value) : (Instr.typeAssert (.iface u v) 77 170 true).run Tryz.prog W = .ok (.tuple #[.pointer none, .bool false]) W := ta_no Tryz.underlying170 (fun W => by kernel_rfl) u h W v
set_option linter.unusedSimpArgs false in
set_option maxRecDepth 100000 in
set_option maxHeartbeats 4000000 in
theorem zzKind_any (w : World) (n og t : Nat) (f : Nat → RowD) (pt : Nat → TypeId) (ob : Nat → Nat) (h : Outs w n f og pt ob) (ht : t < n) :
    Calls Tryz.prog 69 #[objAt pt ob t] w fun e w' => e = .returned (.int .i64 ((f t).k + 1)) ∧ w' = w := by
  obtain ⟨cs, cs0, ty, lo, hob, hbk, hful⟩ := h.full t ht
  have a0 := taNoVoid
  have a1 := taNoInt
  have a2 := taNoPointer
  have a3 := taNoArray
  have a4 := taNoStruct
  have a5 := taNoUnion
  have a6 := taNoEnum
  have a7 := taNoFwd
  have a8 := taNoTypedef
  have a9 := taNoVolatile
  have y1 := @ta_yes _ _ Tryz.underlying151
  have y2 := @ta_yes _ _ Tryz.underlying164
  have y3 := @ta_yes _ _ Tryz.underlying167
  have y4 := @ta_yes _ _ Tryz.underlying162
  have y5 := @ta_yes _ _ Tryz.underlying163
  have y6 := @ta_yes _ _ Tryz.underlying144
  have y8 := @ta_yes _ _ Tryz.underlying196
  have y10 := @ta_yes _ _ Tryz.underlying202
  rcases hob.kinds with ⟨hk, hp⟩ | ⟨hk, hp⟩ | ⟨hk, hp⟩ | ⟨hk, hp⟩ | ⟨hk, hp⟩ | ⟨hk, hp⟩ | ⟨hk, hp⟩ | ⟨hk, hp⟩
  all_goals
    rw [hk]
    simp only [objAt, hp]
    clear hk hp hob hful hbk
    go_enter Tryz.func69, Tryz.ntmps69
    go_wp2_with fail
    go_ret
    exact ⟨rfl, rfl⟩
#print axioms zzKind_any
end Go.Proofs.YtfilbgmbmlmdbaaGreatDoor
