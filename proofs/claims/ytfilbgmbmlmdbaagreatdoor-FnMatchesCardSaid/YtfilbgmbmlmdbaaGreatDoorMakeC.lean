/- Types of fields by numbers: the contract of typeOf, from that of structOf one level less deep. -/
import Derived.Test.YtfilbgmbmlmdbaaGreatDoorMakeB
namespace Go.Proofs.YtfilbgmbmlmdbaaGreatDoor
open Go.RowKit

theorem intOf_int (z : Int) (w : World) (h0 : 0 ≤ z) (h1 : z < 4294967296) : Calls Tryz.prog 23 #[.int .u32 z] w (Made w IntT) := by
  obtain ⟨n, rfl⟩ := Int.eq_ofNat_of_zero_le h0
  exact intOf_any n w (by omega)
theorem enumOf_int (z : Int) (w : World) (h0 : 0 ≤ z) (h1 : z < 4294967296) : Calls Tryz.prog 19 #[.int .u32 z] w (Made w EnmT) := by
  obtain ⟨n, rfl⟩ := Int.eq_ofNat_of_zero_le h0
  exact enumOf_any n w (by omega)

theorem Rep.alloc {w : World} {D : Nat → Prop} {b : Nat} {t : Ty} (r : Rep w D b t) (o : Obj) : Rep (w.alloc o) D b t :=
  Rep.keep (w := w) (w' := w.alloc o) (D := D) (D' := D) (fun k hk _ => Below.heap_alloc w o k hk) (fun _ _ h => h) r

section
variable {W w1 : World} {b B : Nat} {t : Ty} {F G : Ty → Prop} (r : Rep w1 (· < W.heap.size) b t) (hb : Below W.heap.size W w1) (hB : B = w1.heap.size)
include r hb hB
theorem made_ptr (hg : G (.ptr t)) : Made W G (.returned (.pointer (some ⟨B, 0, none⟩))) (w1.alloc (.cells #[.int .i64 2, .string ⟨#[]⟩, .int .i64 0, .bool false, .pointer (some ⟨b, 0, none⟩), .slice none 0 0] 38)) := by
  subst hB
  exact ⟨_, _, rfl, .ptr (Blk.new _ _ _) (fun h => Nat.not_lt.2 hb.size h) (r.alloc _), hg, hb.alloc hb.size _⟩
theorem made_arr {n : Nat} {z : Int} (hz : z = n) (hg : G (.arr n t)) : Made W G (.returned (.pointer (some ⟨B, 0, none⟩))) (w1.alloc (.cells #[.int .i64 3, .string ⟨#[]⟩, .int .i64 z, .bool false, .pointer (some ⟨b, 0, none⟩), .slice none 0 0] 38)) := by
  subst hB; subst hz
  exact ⟨_, _, rfl, .arr (Blk.new _ _ _) (fun h => Nat.not_lt.2 hb.size h) (r.alloc _), hg, hb.alloc hb.size _⟩
theorem made_named {nm : ByteArray} (hg : G (.named nm t)) : Made W G (.returned (.pointer (some ⟨B, 0, none⟩))) (w1.alloc (.cells #[.int .i64 8, .string nm, .int .i64 0, .bool false, .pointer (some ⟨b, 0, none⟩), .slice none 0 0] 38)) := by
  subst hB
  exact ⟨_, _, rfl, .named (Blk.new _ _ _) (fun h => Nat.not_lt.2 hb.size h) (r.alloc _), hg, hb.alloc hb.size _⟩
theorem made_cst (hg : G (.cst t)) : Made W G (.returned (.pointer (some ⟨B, 0, none⟩))) (w1.alloc (.cells #[.int .i64 10, .string ⟨#[]⟩, .int .i64 0, .bool false, .pointer (some ⟨b, 0, none⟩), .slice none 0 0] 38)) := by
  subst hB
  exact ⟨_, _, rfl, .cst (Blk.new _ _ _) (fun h => Nat.not_lt.2 hb.size h) (r.alloc _), hg, hb.alloc hb.size _⟩
end

/-- What typeOf makes, at a depth; what structOf makes of two numbers, one less deep. -/
def TypeC (d : Int) (F : Ty → Prop) : Prop := ∀ (z : Int) (w : World), 0 ≤ z → z < 4294967296 → Calls Tryz.prog 17 #[.int .u32 z, .int .i64 d] w (Made w F)

set_option maxRecDepth 100000 in
set_option maxHeartbeats 1000000 in
theorem typeOf_leaf (d : Int) (F : Ty → Prop) (hF : ∀ t, Leaf t → F t) (z : Int) (w : World) (h0 : 0 ≤ z) (h1 : z < 4294967296) (hz : z % 9 ≠ 8) :
    Calls Tryz.prog 17 #[.int .u32 z, .int .i64 d] w (Made w F) := by
  rcases (by omega : z % 9 = 0 ∨ z % 9 = 1 ∨ z % 9 = 2 ∨ z % 9 = 3 ∨ z % 9 = 4 ∨ z % 9 = 5 ∨ z % 9 = 6 ∨ z % 9 = 7) with h | h | h | h | h | h | h | h
  · clear hz
    go_enter Tryz.func17, Tryz.ntmps17
    go_wp2_with fail
    refine (intOf_int _ _ (by omega) (by omega)).mono ?_
    rintro e w1 ⟨b, t, rfl, r, ht, hb⟩
    go_wp2_with fail
    go_ret
    exact ⟨_, _, rfl, r, hF _ (.int ht), hb⟩
  · clear hz
    go_enter Tryz.func17, Tryz.ntmps17
    go_wp2_with fail
    refine (intOf_int _ _ (by omega) (by omega)).mono ?_
    rintro e w1 ⟨b, t, rfl, r, ht, hb⟩
    go_wp2_with fail
    go_ret
    exact ⟨_, _, rfl, r, hF _ (.int ht), hb⟩
  · clear hz
    go_enter Tryz.func17, Tryz.ntmps17
    go_wp2_with fail
    refine (intOf_int _ _ (by omega) (by omega)).mono ?_
    rintro e w1 ⟨b, t, rfl, r, ht, hb⟩
    go_wp2_with fail
    go_ret
    exact ⟨_, _, rfl, r, hF _ (.int ht), hb⟩
  · clear hz
    go_enter Tryz.func17, Tryz.ntmps17
    go_wp2_with fail
    refine (intOf_int _ _ (by omega) (by omega)).mono ?_
    rintro e w1 ⟨b, t, rfl, r, ht, hb⟩
    go_wp2_with fail
    go_ret
    exact made_ptr r hb (by simp) (hF _ (.ptr ht))
  · clear hz
    go_enter Tryz.func17, Tryz.ntmps17
    go_wp2_with fail
    refine (enumOf_int _ _ (by omega) (by omega)).mono ?_
    rintro e w1 ⟨b, t, rfl, r, ht, hb⟩
    go_wp2_with fail
    go_ret
    exact ⟨_, _, rfl, r, hF _ (.enm ht), hb⟩
  · clear hz
    go_enter Tryz.func17, Tryz.ntmps17
    go_wp2_with fail
    refine (intOf_int _ _ (by omega) (by omega)).mono ?_
    rintro e w1 ⟨b, t, rfl, r, ht, hb⟩
    go_wp2_with fail
    go_ret
    exact made_arr r hb (by simp) (n := (1 + z / 16 % 4).toNat) (by omega) (hF _ (.arr ht (by omega) (by omega)))
  · clear hz
    go_enter Tryz.func17, Tryz.ntmps17
    go_wp2_with fail
    refine (intOf_int _ _ (by omega) (by omega)).mono ?_
    rintro e w1 ⟨b, t, rfl, r, ht, hb⟩
    go_wp2_with fail
    go_ret
    exact made_named r hb (by simp) (hF _ (.named ht (by decide)))
  · clear hz
    go_enter Tryz.func17, Tryz.ntmps17
    go_wp2_with fail
    refine (intOf_int _ _ (by omega) (by omega)).mono ?_
    rintro e w1 ⟨b, t, rfl, r, ht, hb⟩
    go_wp2_with fail
    go_ret
    exact made_cst r hb (by simp) (hF _ (.cst ht))

/-- A slice of numbers of 32 bits, as it is read. -/
def U32s (w : World) (v : Value) (n : Nat) : Prop :=
  ∃ a cap, v = .slice a n cap ∧ (n = 0 ∨ ∃ b off, a = some ⟨b, off, none⟩ ∧ b < w.heap.size ∧ ∀ i, i < n → ∃ z : Int, w.cell? ⟨b, off + i, none⟩ = some (.int .u32 z) ∧ 0 ≤ z ∧ z < 4294967296)

#print axioms typeOf_leaf
end Go.Proofs.YtfilbgmbmlmdbaaGreatDoor
