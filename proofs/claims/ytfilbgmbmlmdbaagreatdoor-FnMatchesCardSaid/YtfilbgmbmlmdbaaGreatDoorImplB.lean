/- The thin package's own making of types: each kind without its parts. -/
import Derived.Test.YtfilbgmbmlmdbaaGreatDoorImplA
namespace Go.Proofs.YtfilbgmbmlmdbaaGreatDoor
open Go.RowKit

/-- What a type of the package is made of, ahead of its parts: its interface's type, its cells, their type. -/
inductive ObjC (nm : ByteArray) (sz en fl : Int) : Int → TypeId → Array Value → TypeId → Prop
  | int : ObjC nm sz en fl 1 151 #[.string nm, .int .u32 sz, .int .u8 en] 156
  | ptr : ObjC nm sz en fl 2 164 #[.nilIface] 166
  | arr : ObjC nm sz en fl 3 167 #[.nilIface, .nilIface, .int .u32 sz] 169
  | str : ObjC nm sz en fl 4 162 #[.string nm, .int .u32 sz, .slice none 0 0, .slice none 0 0] 194
  | uni : ObjC nm sz en fl 5 163 #[.string nm, .int .u32 sz, .slice none 0 0, .slice none 0 0] 195
  | enm : ObjC nm sz en fl 6 144 #[.string nm, .int .u32 sz, .bool (fl == 1), .slice none 0 0] 150
  | tdf : ObjC nm sz en fl 8 196 #[.string nm, .nilIface, .slice none 0 0] 198
  | cst : ObjC nm sz en fl 10 202 #[.nilIface] 203

set_option maxRecDepth 100000 in
set_option maxHeartbeats 4000000 in
theorem made_any (w : World) (k : Int) (nm : ByteArray) (sz en fl of ix : Int) (mv : Value) (hk : KindOk k) (hsz : 0 ≤ sz ∧ sz < 4294967296) (hen : 0 ≤ en ∧ en < 256) :
    Calls Tryz.prog 49 #[.agg #[.int .i64 k, .string nm, .int .i64 sz, .int .i64 en, .int .i64 fl, .int .i64 of, .int .i64 ix, mv]] w fun e w' =>
      ∃ b pt cs ty, e = .returned (.iface pt (.pointer (some ⟨b, 0, none⟩))) ∧ ObjC nm sz en fl k pt cs ty ∧ Blk w' b cs ty ∧ w.heap.size ≤ b ∧ Below w.heap.size w w' := by
  have h1 := hsz.1
  have h2 := hsz.2
  have h3 := hen.1
  have h4 := hen.2
  rcases hk with rfl | rfl | rfl | rfl | rfl | rfl | rfl | rfl
  all_goals
    go_enter Tryz.func49, Tryz.ntmps49
    go_wp2
    go_ret
  all_goals exact ⟨w.heap.size + 1, _, _, _, rfl, by constructor, Blk.newAt _ _ _ (by simp), by omega, ((Below.refl _ _).alloc (Nat.le_refl _) _).alloc (by simp) _⟩
#print axioms made_any
end Go.Proofs.YtfilbgmbmlmdbaaGreatDoor
