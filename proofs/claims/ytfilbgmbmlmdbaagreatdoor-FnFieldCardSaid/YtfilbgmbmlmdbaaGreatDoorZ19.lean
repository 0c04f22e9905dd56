/- Whether a field of one built type may stand for one of another: the package's own function. Nothing is claimed here. -/
import Derived.Test.YtfilbgmbmlmdbaaGreatDoorZ18
import Derived.Test.YtfilbgmbmlmdbaaGreatDoorZ16
import Derived.Test.YtfilbgmbmlmdbaaGreatDoorZ11
import Derived.Test.YtfilbgmbmlmdbaaGreatDoorZ15
import Derived.Test.YtfilbgmbmlmdbaaGreatDoorZ12
import Derived.Stop.IfaceNil
import Derived.Test.YtfilbgmbmlmdbaaGreatDoorZ09
import Derived.Test.YtfilbgmbmlmdbaaGreatDoorZ17
set_option linter.unusedSimpArgs false
set_option linter.unusedVariables false
set_option maxRecDepth 1000000
set_option maxHeartbeats 16000000
namespace Go.Proofs.YtfilbgmbmlmdbaaGreatDoor
open Go.RowKit Go.MapKept
theorem taNoFloat (u : TypeId) (h : u ≠ 179) (W : World) (v : Value) : (Instr.typeAssert (.iface u v) 77 179 true).run Tryz.prog W = .ok (.tuple #[.pointer none, .bool false]) W := ta_no Tryz.underlying179 (fun W => by kernel_rfl) u h W v
section
variable {w : World} {v1 v2 u1 u2 : Value}
theorem mcompat_comp {z1 z2 : Value} (hu1 : Calls Tryz.prog 65 #[v1] w fun e w' => e = .returned u1 ∧ w' = w) (hu2 : Calls Tryz.prog 65 #[v2] w fun e w' => e = .returned u2 ∧ w' = w)
  (ha1 : ∀ W, (Instr.typeAssert u1 77 177 true).run Tryz.prog W = .ok (.tuple #[z1, .bool true]) W) (ha2 : ∀ W, (Instr.typeAssert u2 77 177 true).run Tryz.prog W = .ok (.tuple #[z2, .bool true]) W) :
  Calls Tryz.prog 46 #[v1, v2] w fun e w' => e = .returned .nilIface ∧ w' = w := by
 have H1 := Lib.hid hu1
 have H2 := Lib.hid hu2
 clear hu1 hu2
 go_enter Tryz.func46, Tryz.ntmps46
 go_wp2_with fail
 refine H1.out.mono ?_
 rintro e w9 ⟨rfl, rfl⟩
 go_wp2_with fail
 refine H2.out.mono ?_
 rintro e w9 ⟨rfl, rfl⟩
 go_wp2_with fail
 go_ret
 exact ⟨rfl, rfl⟩
theorem mcompat_ne {z1 z2 ev : Value} {c1 c2 : Bool} {k1 k2 : Int} (hu1 : Calls Tryz.prog 65 #[v1] w fun e w' => e = .returned u1 ∧ w' = w) (hu2 : Calls Tryz.prog 65 #[v2] w fun e w' => e = .returned u2 ∧ w' = w)
  (ha1 : ∀ W, (Instr.typeAssert u1 77 177 true).run Tryz.prog W = .ok (.tuple #[z1, .bool c1]) W) (ha2 : ∀ W, (Instr.typeAssert u2 77 177 true).run Tryz.prog W = .ok (.tuple #[z2, .bool c2]) W)
  (hk1 : Calls Tryz.prog 69 #[u1] w fun e w' => e = .returned (.int .i64 k1) ∧ w' = w) (hk2 : Calls Tryz.prog 69 #[u2] w fun e w' => e = .returned (.int .i64 k2) ∧ w' = w) (hc : (c1 && c2) = false) (hne : ¬ k1 = k2) (hev : w.cell? ⟨4, 0, none⟩ = some ev) :
  Calls Tryz.prog 46 #[v1, v2] w fun e w' => e = .returned ev ∧ w' = w := by
 have le := World.block_lt_of_cell? w _ hev
 simp only at le
 have H1 := Lib.hid hu1
 have H2 := Lib.hid hu2
 have HK1 := Lib.hid hk1
 have HK2 := Lib.hid hk2
 clear hu1 hu2 hk1 hk2
 cases c1 <;> cases c2
 case true.true => cases hc
 all_goals
  clear hc
  go_enter Tryz.func46, Tryz.ntmps46
  go_wp2_with fail
  refine H1.out.mono ?_
  rintro e w9 ⟨rfl, rfl⟩
  go_wp2_with fail
  refine H2.out.mono ?_
  rintro e w9 ⟨rfl, rfl⟩
  go_wp2_with fail
  refine HK1.out.mono ?_
  rintro e w9 ⟨rfl, rfl⟩
  go_wp2_with fail
  refine HK2.out.mono ?_
  rintro e w9 ⟨rfl, rfl⟩
  go_wp2_with fail
  go_ret
  exact ⟨rfl, rfl⟩
theorem mcompat_plain {z2 x : Value} {p : TypeId} {c2 : Bool} {k : Int} (hu1 : Calls Tryz.prog 65 #[v1] w fun e w' => e = .returned (.iface p x) ∧ w' = w) (hu2 : Calls Tryz.prog 65 #[v2] w fun e w' => e = .returned u2 ∧ w' = w)
  (ha1 : ∀ W, (Instr.typeAssert (.iface p x) 77 177 true).run Tryz.prog W = .ok (.tuple #[.nilIface, .bool false]) W) (ha2 : ∀ W, (Instr.typeAssert u2 77 177 true).run Tryz.prog W = .ok (.tuple #[z2, .bool c2]) W)
  (hk1 : Calls Tryz.prog 69 #[.iface p x] w fun e w' => e = .returned (.int .i64 k) ∧ w' = w) (hk2 : Calls Tryz.prog 69 #[u2] w fun e w' => e = .returned (.int .i64 k) ∧ w' = w) (hp : p = 151 ∨ p = 164 ∨ p = 167) :
  Calls Tryz.prog 46 #[v1, v2] w fun e w' => e = .returned .nilIface ∧ w' = w := by
 have H1 := Lib.hid hu1
 have H2 := Lib.hid hu2
 have HK1 := Lib.hid hk1
 have HK2 := Lib.hid hk2
 clear hu1 hu2 hk1 hk2
 have a1 := taNoArray
 have a2 := taNoPointer
 have a3 := taNoFloat
 have a4 := taNoInt
 have y1 := @ta_yes _ _ Tryz.underlying151
 have y2 := @ta_yes _ _ Tryz.underlying164
 have y3 := @ta_yes _ _ Tryz.underlying167
 rcases hp with rfl | rfl | rfl
 all_goals
  go_enter Tryz.func46, Tryz.ntmps46
  go_wp2_with fail
  refine H1.out.mono ?_
  rintro e w9 ⟨rfl, rfl⟩
  go_wp2_with fail
  refine H2.out.mono ?_
  rintro e w9 ⟨rfl, rfl⟩
  go_wp2_with fail
  refine HK1.out.mono ?_
  rintro e w9 ⟨rfl, rfl⟩
  go_wp2_with fail
  refine HK2.out.mono ?_
  rintro e w9 ⟨rfl, rfl⟩
  go_wp2_with fail
  go_ret
  exact ⟨rfl, rfl⟩
theorem mcompat_enum {b c : Nat} {nm1 nm2 : ByteArray} {ev : Value} {k : Int} (hu1 : Calls Tryz.prog 65 #[v1] w fun e w' => e = .returned (.iface 144 (.pointer (some ⟨b, 0, none⟩))) ∧ w' = w) (hu2 : Calls Tryz.prog 65 #[v2] w fun e w' => e = .returned (.iface 144 (.pointer (some ⟨c, 0, none⟩))) ∧ w' = w)
  (hk1 : Calls Tryz.prog 69 #[.iface 144 (.pointer (some ⟨b, 0, none⟩))] w fun e w' => e = .returned (.int .i64 k) ∧ w' = w) (hk2 : Calls Tryz.prog 69 #[.iface 144 (.pointer (some ⟨c, 0, none⟩))] w fun e w' => e = .returned (.int .i64 k) ∧ w' = w)
  (x0 : w.cell? ⟨b, 0, none⟩ = some (.string nm1)) (y0 : w.cell? ⟨c, 0, none⟩ = some (.string nm2)) (l1 : nm1.size ≤ 2) (l2 : nm2.size ≤ 2) (hev : w.cell? ⟨4, 0, none⟩ = some ev) :
  Calls Tryz.prog 46 #[v1, v2] w fun e w' => e = .returned (if ess nm1 nm2 = true then .nilIface else ev) ∧ ∃ nd, w' = w.drewN nd := by
 have le := World.block_lt_of_cell? w _ hev
 have lb := World.block_lt_of_cell? w _ x0
 have lc := World.block_lt_of_cell? w _ y0
 simp only at le lb lc
 have H1 := Lib.hid hu1
 have H2 := Lib.hid hu2
 have HK1 := Lib.hid hk1
 have HK2 := Lib.hid hk2
 have HN := Lib.hid (fun W : World => names_any W nm1 nm2 l1 l2)
 clear hu1 hu2 hk1 hk2 l1 l2
 have a0 := asLackCEnum
 have a1 := taNoArray 144 (by decide)
 have a2 := taNoPointer 144 (by decide)
 have a3 := taNoFloat 144 (by decide)
 have a4 := taNoInt 144 (by decide)
 have y6 := @ta_yes _ _ Tryz.underlying144
 have y7 := @taStrict _ _ Tryz.underlying144
 cases hb : ess nm1 nm2
 all_goals
  rw [hb] at HN
  go_enter Tryz.func46, Tryz.ntmps46
  go_wp2_with fail
  refine H1.out.mono ?_
  rintro e w9 ⟨rfl, rfl⟩
  go_wp2_with fail
  refine H2.out.mono ?_
  rintro e w9 ⟨rfl, rfl⟩
  go_wp2_with fail
  refine HK1.out.mono ?_
  rintro e w9 ⟨rfl, rfl⟩
  go_wp2_with fail
  refine HK2.out.mono ?_
  rintro e w9 ⟨rfl, rfl⟩
  go_wp2_with fail
  go_quiet ((go_at_call 70; exact Calls.quiet_of_same (HN.out _)))
  go_wp2_with fail
  go_ret
  exact ⟨rfl, _, rfl⟩
end
theorem errNew_any (w : World) (s : ByteArray) : Calls Tryz.prog 57 #[.string s] w fun e w' => e = .returned (.iface 228 (.pointer (some ⟨w.heap.size, 0, none⟩))) ∧ w' = w.alloc (.cells #[.string s] 230) := by
 go_enter Tryz.func57, Tryz.ntmps57
 go_wp2_with fail
 go_ret
 exact ⟨rfl, rfl⟩
def OtherErr (a : Addr) (w : World) (v : Value) : Prop := ∃ b cs ty, v = .iface 228 (.pointer (some b)) ∧ b ≠ a ∧ w.heap[b.block]? = some (.cells cs ty (0, 0))
theorem OtherErr.below {a : Addr} {w w' : World} {v : Value} (h : OtherErr a w v) (hb : Below w.heap.size w w') : OtherErr a w' v := by
 obtain ⟨b, cs, ty, h1, h2, h3⟩ := h
 exact ⟨b, cs, ty, h1, h2, (hb.block _ (Array.getElem?_eq_some_iff.1 h3).1).trans h3⟩
def NewErr (lo : Nat) (w : World) (v : Value) : Prop := ∃ b cs ty, v = .iface 228 (.pointer (some ⟨b, 0, none⟩)) ∧ lo ≤ b ∧ w.heap[b]? = some (.cells cs ty (0, 0))
theorem NewErr.of (w : World) (s : ByteArray) : NewErr w.heap.size (w.alloc (.cells #[.string s] 230)) (.iface 228 (.pointer (some ⟨w.heap.size, 0, none⟩))) := ⟨_, _, _, rfl, Nat.le_refl _, heap_alloc_new w _⟩
theorem NewErr.below {lo : Nat} {w w' : World} {v : Value} (h : NewErr lo w v) (hb : Below w.heap.size w w') : NewErr lo w' v := by
 obtain ⟨b, cs, ty, h1, h2, h3⟩ := h
 exact ⟨b, cs, ty, h1, h2, (hb.block _ (Array.getElem?_eq_some_iff.1 h3).1).trans h3⟩
theorem NewErr.set {lo : Nat} {w : World} {v : Value} (h : NewErr lo w v) {p : Addr} (hp : p.block < lo) (u : Value) : NewErr lo (w.setCell p u) v := by
 obtain ⟨b, cs, ty, h1, h2, h3⟩ := h
 exact ⟨b, cs, ty, h1, h2, (Below.heap_setCell _ _ _ _ (by omega)).trans h3⟩
theorem NewErr.other {lo : Nat} {w : World} {v : Value} {a : Addr} (h : NewErr lo w v) (ha : a.block < lo) : OtherErr a w v := by
 obtain ⟨b, cs, ty, h1, h2, h3⟩ := h
 exact ⟨_, cs, ty, h1, (fun e => by rw [← e] at ha; simp only at ha; omega), h3⟩
theorem OtherErr.new {a : Addr} (w : World) (s : ByteArray) (ha : a.block < w.heap.size) : OtherErr a (w.alloc (.cells #[.string s] 230)) (.iface 228 (.pointer (some ⟨w.heap.size, 0, none⟩))) :=
 ⟨_, _, _, rfl, (fun e => by rw [← e] at ha; exact Nat.lt_irrefl _ ha), heap_alloc_new w _⟩
theorem isPow_any (w : World) {n : Nat} (h : n = 1 ∨ n = 2 ∨ n = 4 ∨ n = 8) : Calls Tryz.prog 93 #[.int .i64 (n : Nat)] w fun e w' => e = .returned (.bool true) ∧ w' = w := by
 rcases h with rfl | rfl | rfl | rfl
 all_goals
  go_enter Tryz.func93, Tryz.ntmps93
  go_wp2_with fail
  go_ret
  exact ⟨rfl, rfl⟩
theorem bitsBytes_any (w : World) {n : Nat} (h : n < 4294967296) : Calls Tryz.prog 82 #[.int .u32 (n : Nat)] w fun e w' => e = .returned (.int .u32 ((n / 8 : Nat) : Int)) ∧ w' = w := by
 have e8 : ((n / 8 : Nat) : Int) = (n : Int) / 8 := Int.natCast_ediv _ _
 rw [e8]
 go_enter Tryz.func82, Tryz.ntmps82
 go_wp2_with fail
 go_ret
 exact ⟨rfl, rfl⟩
theorem boolNum_any (w : World) (b : Bool) : Calls Tryz.prog 67 #[.bool b] w fun e w' => e = .returned (.int .u64 (if b then 1 else 0)) ∧ w' = w := by
 cases b
 all_goals
  go_enter Tryz.func67, Tryz.ntmps67
  go_wp2_with fail
  go_ret
  exact ⟨rfl, rfl⟩
section
variable {w : World} {v : Value} {b c : Nat}
theorem align_Int {sz : Nat} (hu : Calls Tryz.prog 65 #[v] w fun e w' => e = .returned (.iface 151 (.pointer (some ⟨b, 0, none⟩))) ∧ w' = w) (hc : w.cell? ⟨b, 1, none⟩ = some (.int .u32 (sz : Nat))) (hs : sz = 1 ∨ sz = 2 ∨ sz = 4 ∨ sz = 8) :
  Calls Tryz.prog 89 #[v] w fun e w' => e = .returned (.tuple #[.int .i64 (sz : Nat), .nilIface]) ∧ w' = w := by
 have lb := World.block_lt_of_cell? w _ hc
 simp only at lb
 have HU := Lib.hid hu
 clear hu
 have a6 := taNoEnum 151 (by decide)
 have y1 := @ta_yes _ _ Tryz.underlying151
 rcases hs with rfl | rfl | rfl | rfl
 all_goals
  go_enter Tryz.func89, Tryz.ntmps89
  go_wp2_with fail
  refine HU.out.mono ?_
  rintro e w9 ⟨rfl, rfl⟩
  go_wp2_with fail
  refine isPow_any _ (by decide) |>.mono ?_
  rintro e w9 ⟨rfl, rfl⟩
  go_wp2_with fail
  go_ret2
  exact ⟨rfl, rfl⟩
theorem align_Enum {sz : Nat} (hu : Calls Tryz.prog 65 #[v] w fun e w' => e = .returned (.iface 144 (.pointer (some ⟨b, 0, none⟩))) ∧ w' = w) (hc : w.cell? ⟨b, 1, none⟩ = some (.int .u32 (sz : Nat))) (hs : sz = 1 ∨ sz = 2 ∨ sz = 4 ∨ sz = 8) :
  Calls Tryz.prog 89 #[v] w fun e w' => e = .returned (.tuple #[.int .i64 (sz : Nat), .nilIface]) ∧ w' = w := by
 have lb := World.block_lt_of_cell? w _ hc
 simp only at lb
 have HU := Lib.hid hu
 clear hu
 have y6 := @ta_yes _ _ Tryz.underlying144
 rcases hs with rfl | rfl | rfl | rfl
 all_goals
  go_enter Tryz.func89, Tryz.ntmps89
  go_wp2_with fail
  refine HU.out.mono ?_
  rintro e w9 ⟨rfl, rfl⟩
  go_wp2_with fail
  refine (size_Enum _ _ _ hc).mono ?_
  rintro e w9 ⟨rfl, rfl⟩
  go_wp2_with fail
  refine isPow_any _ (by decide) |>.mono ?_
  rintro e w9 ⟨rfl, rfl⟩
  go_wp2_with fail
  go_ret2
  exact ⟨rfl, rfl⟩
theorem align_Arr {z : Nat} {x : Value} {p : TypeId} (hu : Calls Tryz.prog 65 #[v] w fun e w' => e = .returned (.iface 167 (.pointer (some ⟨b, 0, none⟩))) ∧ w' = w) (hc : w.cell? ⟨b, 1, none⟩ = some (.iface p x))
  (he : Calls Tryz.prog 89 #[.iface p x] w fun e w' => e = .returned (.tuple #[.int .i64 (z : Nat), .nilIface]) ∧ w' = w) :
  Calls Tryz.prog 89 #[v] w fun e w' => e = .returned (.tuple #[.int .i64 (z : Nat), .nilIface]) ∧ w' = w := by
 have lb := World.block_lt_of_cell? w _ hc
 simp only at lb
 have HU := Lib.hid hu
 have HE := Lib.hid he
 clear hu he
 have a6 := taNoEnum 167 (by decide)
 have a1 := taNoInt 167 (by decide)
 have y3 := @ta_yes _ _ Tryz.underlying167
 go_enter Tryz.func89, Tryz.ntmps89
 go_wp2_with fail
 refine HU.out.mono ?_
 rintro e w9 ⟨rfl, rfl⟩
 go_wp2_with fail
 refine HE.out.mono ?_
 rintro e w9 ⟨rfl, rfl⟩
 go_wp2_with fail
 go_ret2
 exact ⟨rfl, rfl⟩
theorem align_Not {x : Value} {p : TypeId} (hu : Calls Tryz.prog 65 #[v] w fun e w' => e = .returned (.iface p x) ∧ w' = w) (hp : p = 164 ∨ p = 162 ∨ p = 163) :
  Calls Tryz.prog 89 #[v] w fun e w' => ∃ ev, e = .returned (.tuple #[.int .i64 0, ev]) ∧ NewErr w.heap.size w' ev ∧ Below w.heap.size w w' := by
 have HU := Lib.hid hu
 clear hu
 have a6 := taNoEnum
 have a1 := taNoInt
 have a3 := taNoArray
 rcases hp with rfl | rfl | rfl
 all_goals
  go_enter Tryz.func89, Tryz.ntmps89
  go_wp2_with fail
  refine HU.out.mono ?_
  rintro e w9 ⟨rfl, rfl⟩
  go_wp2_with fail
  refine (errNew_any _ _).mono ?_
  rintro e w9 ⟨rfl, rfl⟩
  go_wp2_with fail
  go_ret2
  exact ⟨_, rfl, NewErr.of _ _, (Below.refl _ _).alloc (Nat.le_refl _) _⟩
end
abbrev cfC (v : Value) (o bo bs : Int) : Array Value := #[v, .int .u32 o, .int .u32 bo, .int .u32 bs]
theorem ButMap.set {mb : Nat} {w w1 : World} (h : ButMap mb w w1) (i : Nat) (u : Value) : ButMap mb w (w1.setCell ⟨mb, i, none⟩ u) :=
 ⟨h.os, h.tape, h.output, by simpa using h.size, fun k hk hne => (Below.heap_setCell _ _ _ _ hne).trans (h.block k hk hne)⟩
theorem adjustN_any {w : World} {b : Nat} {v : Value} {o sz n : Nat} {bo bs : Int} (hb : Blk w b (cfC v o bo bs) 137) (hs : SizeC w v (sz : Nat)) (hn : n ≤ 255) (hsz : sz ≤ 200000) (ho : o ≤ 1000000000) :
  Calls Tryz.prog 80 #[.pointer (some ⟨b, 0, none⟩), .int .i64 (n : Nat)] w fun e w' => e = .returned .nilIface ∧ Blk w' b (cfC v ((o + n * sz : Nat) : Int) bo bs) 137 ∧ ButMap b w w' := by
 by_cases h0 : n = 0
 ·subst h0
  go_enter Tryz.func80, Tryz.ntmps80
  go_wp2_with fail
  go_ret
  exact ⟨rfl, by simpa using hb, ButMap.refl _ _⟩
 ·have hn0 : ¬ (n : Int) = 0 := by omega
  have hle : n * sz ≤ 255 * 200000 := Nat.mul_le_mul hn hsz
  obtain ⟨q, hq⟩ : ∃ q, q = n * sz := ⟨_, rfl⟩
  have hqq : IntKind.u32.wrap ((n : Int) * (sz : Int)) = (q : Int) := by
   rw [hq, ← Int.natCast_mul]
   exact IntWalk.u32_in _ (by omega)
  rw [← hq] at hle ⊢
  obtain ⟨c0, c1, c2, c3⟩ := hb.four
  have lb := hb.lt
  have HS := Lib.hid (hs w (CellsKept.refl w))
  have HB := Lib.hid hb
  clear hq hs hb
  go_enter Tryz.func80, Tryz.ntmps80
  go_wp2_with fail
  refine HS.out.mono ?_
  rintro e w9 ⟨rfl, hb9⟩
  have HB9 := Lib.hid (HB.out.old hb9)
  have HW9 := Lib.hid hb9
  clear c0 c1 c2 c3 hb9
  obtain ⟨c0, c1, c2, c3⟩ := HB9.out.four
  have f1 := HB9.out.free 1
  have lb9 := HB9.out.lt
  go_wp2_with fail
  go_ret
  refine ⟨rfl, ?_, ((ButMap.refl _ _).below HW9.out).set _ _⟩
  have := HB9.out.set 1 (.int .u32 ((o : Int) + q))
  rw [Int.natCast_add]
  exact this
def AlignC (w : World) (v : Value) (z : Nat) : Prop := ∀ W, CellsKept w W → Calls Tryz.prog 89 #[v] W fun e w' => Below W.heap.size W w' ∧ (if z = 0 then ∃ ev, e = .returned (.tuple #[.int .i64 0, ev]) ∧ NewErr W.heap.size w' ev else e = .returned (.tuple #[.int .i64 (z : Nat), .nilIface]))
theorem adjustB_no {w : World} {b p : Nat} {v : Value} {o : Int} {bo bs : Int} (hb : Blk w b (cfC v o bo bs) 137) (hs : AlignC w v 0) :
  Calls Tryz.prog 84 #[.pointer (some ⟨b, 0, none⟩), .int .u32 (p : Nat)] w fun e w' => ∃ ev, e = .returned ev ∧ NewErr w.heap.size w' ev ∧ Below w.heap.size w w' := by
 obtain ⟨c0, c1, c2, c3⟩ := hb.four
 have lb := hb.lt
 have HS := Lib.hid (hs w (CellsKept.refl w))
 clear hb hs
 go_enter Tryz.func84, Tryz.ntmps84
 go_wp2_with fail
 refine HS.out.mono ?_
 rintro e w9 ⟨hb9, he⟩
 first | rw [if_pos rfl] at he | rw [if_pos trivial] at he
 obtain ⟨ev, rfl, hoe⟩ := he
 obtain ⟨q, cs, ty, rfl, h1, h2⟩ := hoe
 have H1 := Lib.hid h1
 have H2 := Lib.hid h2
 have HB := Lib.hid hb9
 clear h1 h2 hb9 c0 c1 c2 c3
 go_wp2_with fail
 go_ret
 exact ⟨_, rfl, ⟨q, cs, ty, rfl, H1.out, H2.out⟩, HB.out⟩
theorem adjustB_yes {w : World} {b p o z : Nat} {v : Value} {bo bs : Int} (hb : Blk w b (cfC v o bo bs) 137) (hs : AlignC w v z) (hz : z ≠ 0) (hz8 : z ≤ 8) (hp : p ≤ 1000000) (ho : o ≤ 1000000000) :
  Calls Tryz.prog 84 #[.pointer (some ⟨b, 0, none⟩), .int .u32 (p : Nat)] w fun e w' => e = .returned .nilIface ∧ Blk w' b (cfC v ((o + p / 8 / z * z : Nat) : Int) ((p - 8 * (p / 8 / z * z) : Nat) : Int) bs) 137 ∧ ButMap b w w' := by
 obtain ⟨c0, c1, c2, c3⟩ := hb.four
 have lb := hb.lt
 have HS := Lib.hid (hs w (CellsKept.refl w))
 have HB := Lib.hid hb
 obtain ⟨q, hq⟩ : ∃ q, q = p / 8 / z := ⟨_, rfl⟩
 obtain ⟨m, hm⟩ : ∃ m, m = q * z := ⟨_, rfl⟩
 have hle : m ≤ p / 8 := by rw [hm, hq]; exact Nat.div_mul_le_self _ _
 have z2 : IntKind.u32.wrap ((p : Int) / 8 / (z : Int) * (z : Int)) = (m : Int) := by
  have : (p : Int) / 8 / (z : Int) = (q : Int) := by rw [hq, Int.natCast_ediv, Int.natCast_ediv]; rfl
  rw [this, ← Int.natCast_mul, ← hm]
  exact IntWalk.u32_in _ (by omega)
 have e1 : ¬ (z : Int) = 0 := by omega
 rw [← hq, ← hm]
 clear hb hs hq hm
 go_enter Tryz.func84, Tryz.ntmps84
 go_wp2_with fail
 refine HS.out.mono ?_
 rintro e w9 ⟨hb9, he⟩
 rw [if_neg hz] at he
 obtain rfl := he
 have HB9 := Lib.hid (HB.out.old hb9)
 have HW9 := Lib.hid hb9
 clear c0 c1 c2 c3 hb9
 obtain ⟨c0, c1, c2, c3⟩ := HB9.out.four
 have f1 := HB9.out.free 1
 have f2 := HB9.out.free 2
 have lb9 := HB9.out.lt
 go_wp2_with fail
 go_ret
 refine ⟨rfl, ?_, (((ButMap.refl _ _).below HW9.out).set _ _).set _ _⟩
 have := (HB9.out.set 2 (.int .u32 ((p : Int) - m * 8))).set 1 (.int .u32 ((o : Int) + m))
 rw [Int.natCast_add, show ((p - 8 * m : Nat) : Int) = (p : Int) - m * 8 by omega]
 exact this
theorem sizeBits_any {w : World} {b sz bs : Nat} {v : Value} {o bo : Int} (hb : Blk w b (cfC v o bo bs) 137) (hs : SizeC w v (sz : Nat)) (hsz : sz ≤ 200000) :
  Calls Tryz.prog 64 #[.pointer (some ⟨b, 0, none⟩)] w fun e w' => e = .returned (.tuple #[.int .u32 ((if 0 < bs then bs else 8 * sz : Nat) : Int), .nilIface]) ∧ Below w.heap.size w w' := by
 obtain ⟨c0, c1, c2, c3⟩ := hb.four
 have lb := hb.lt
 have HS := Lib.hid (hs w (CellsKept.refl w))
 clear hb hs
 by_cases h0 : 0 < bs
 ·rw [if_pos h0]
  have h0i : (0 : Int) < bs := by omega
  clear h0
  go_enter Tryz.func64, Tryz.ntmps64
  go_wp2_with fail
  go_ret2
  exact ⟨rfl, Below.refl _ _⟩
 ·rw [if_neg h0]
  have h0i : ¬ (0 : Int) < bs := by omega
  clear h0
  go_enter Tryz.func64, Tryz.ntmps64
  go_wp2_with fail
  refine HS.out.mono ?_
  rintro e w9 ⟨rfl, hb9⟩
  have HW9 := Lib.hid hb9
  clear hb9
  go_wp2_with fail
  go_ret2
  refine ⟨?_, HW9.out⟩
  rw [Int.natCast_mul, Int.mul_comm]
  rfl
theorem isC_iff (t : Ty) : isC t = true ↔ t.kind = 4 ∨ t.kind = 5 := by
 unfold isC; simp
theorem behind_kind : ∀ t : Ty, t.behind.kind ≠ 8 ∧ t.behind.kind ≠ 10 := by
 intro t
 induction t with
 | named _ _ ih => exact ih
 | cst _ ih => exact ih
 | comp un => cases un <;> simp [Ty.behind, Ty.kind]
 | _ => exact ⟨by simp [Ty.behind, Ty.kind], by simp [Ty.behind, Ty.kind]⟩
section
variable {w : World} {n og i : Nat} {f : Nat → RowD} {pt : Nat → TypeId} {ob : Nat → Nat} {t : Ty}
theorem FOk.und (h : FOk t) (r : RT f i t) (hi : i < n) (hR : Refs n f) : RT f (und f i) t.behind ∧ und f i < n ∧ FOk t.behind ∧ t.behind.behind = t.behind := by
 have same : (f i).k ≠ 8 → (f i).k ≠ 10 → Go.Proofs.YtfilbgmbmlmdbaaGreatDoor.und f i = i := fun h1 h2 => if_neg (by omega)
 cases h with
 | leaf h => cases h with
  | int h =>
   obtain ⟨sz, sg, nm, rfl, hs⟩ := h
   have hk : (f i).k = 1 := r.kind
   rw [same (by omega) (by omega)]
   exact ⟨r, hi, .leaf (.int ⟨sz, sg, nm, rfl, hs⟩), rfl⟩
  | ptr h =>
   have hk : (f i).k = 2 := r.kind
   rw [same (by omega) (by omega)]
   exact ⟨r, hi, .leaf (.ptr h), rfl⟩
  | enm h =>
   obtain ⟨nm, sg, m, vn, vv, rfl, hs⟩ := h
   have hk : (f i).k = 6 := r.kind
   rw [same (by omega) (by omega)]
   exact ⟨r, hi, .leaf (.enm ⟨nm, sg, m, vn, vv, rfl, hs⟩), rfl⟩
  | arr h h1 h6 =>
   have hk : (f i).k = 3 := r.kind
   rw [same (by omega) (by omega)]
   exact ⟨r, hi, .leaf (.arr h h1 h6), rfl⟩
  | named h hn =>
   obtain ⟨sz, sg, nm, rfl, hs⟩ := h
   cases r with
   | @named _ j _ _ hk hn ho r =>
    have e : Go.Proofs.YtfilbgmbmlmdbaaGreatDoor.und f i = j := by unfold Go.Proofs.YtfilbgmbmlmdbaaGreatDoor.und; rw [if_pos (.inl hk), ho]; simp
    have := hR.of_ i hi
    rw [e]
    exact ⟨r, by omega, .leaf (.int ⟨sz, sg, nm, rfl, hs⟩), rfl⟩
  | cst h =>
   obtain ⟨sz, sg, nm, rfl, hs⟩ := h
   cases r with
   | @cst _ j _ hk ho r =>
    have e : Go.Proofs.YtfilbgmbmlmdbaaGreatDoor.und f i = j := by unfold Go.Proofs.YtfilbgmbmlmdbaaGreatDoor.und; rw [if_pos (.inr hk), ho]; simp
    have := hR.of_ i hi
    rw [e]
    exact ⟨r, by omega, .leaf (.int ⟨sz, sg, nm, rfl, hs⟩), rfl⟩
 | comp hs hn hp hy ha =>
  rename_i un nm sz m pn py pa pb
  have hk : (f i).k = (if un then 5 else 4) := by rw [r.kind]; cases un <;> rfl
  rw [same (by rw [hk]; cases un <;> decide) (by rw [hk]; cases un <;> decide)]
  exact ⟨r, hi, .comp hs hn hp hy ha, rfl⟩
theorem Outs.compA (h : Outs w n f og pt ob) (hi : i < n) (r : RT f i t) (hb : t.behind = t) : ∃ z, (isC t = false → z = .nilIface) ∧ (isC t = true → z = objAt pt ob i) ∧
  ∀ W, (Instr.typeAssert (objAt pt ob i) 77 177 true).run Tryz.prog W = .ok (.tuple #[z, .bool (isC t)]) W := by
 have hk := h.kindOf hi r.kind
 cases t with
 | int => simp only [objAt, hk.1 rfl]; exact ⟨_, fun _ => rfl, (fun e => by cases e), asLackCInt _⟩
 | ptr => simp only [objAt, hk.2.1 rfl]; exact ⟨_, fun _ => rfl, (fun e => by cases e), asLackCPointer _⟩
 | arr => simp only [objAt, hk.2.2.1 rfl]; exact ⟨_, fun _ => rfl, (fun e => by cases e), asLackCArray _⟩
 | enm => simp only [objAt, hk.2.2.2.2.2 rfl]; exact ⟨_, fun _ => rfl, (fun e => by cases e), asLackCEnum _⟩
 | comp un => cases un with
  | false => simp only [objAt, hk.2.2.2.1 rfl]; exact ⟨_, (fun e => by cases e), fun _ => rfl, asHasCStruct _⟩
  | true => simp only [objAt, hk.2.2.2.2.1 rfl]; exact ⟨_, (fun e => by cases e), fun _ => rfl, asHasCUnion _⟩
 | named nm u => exact absurd (by rw [hb]; rfl) (behind_kind (.named nm u)).1
 | cst u => exact absurd (by rw [hb]; rfl) (behind_kind (.cst u)).2
end
structure Pkg (T : Two) (w : World) (a : Addr) : Prop where
 i : T.In w
 r1 : Refs T.n1 T.f1
 r2 : Refs T.n2 T.f2
 imp : w.cell? ⟨4, 0, none⟩ = some (.iface 228 (.pointer (some a)))
theorem Pkg.ck {T : Two} {w w' : World} {a : Addr} (h : Pkg T w a) (hc : CellsKept w w') : Pkg T w' a := ⟨h.i.ck hc, h.r1, h.r2, hc.cell h.imp⟩
theorem pcompat_any {T : Two} {w : World} {a : Addr} {i j : Nat} {t u : Ty} (h : Pkg T w a) (ht : FOk t) (hu : FOk u) (r : RT T.f1 i t) (s : RT T.f2 j u) (hi : i < T.n1) (hj : j < T.n2) :
  Calls Tryz.prog 46 #[objAt T.pt1 T.ob1 i, objAt T.pt2 T.ob2 j] w fun e w' => e = .returned (if cmpF t u = true then .nilIface else .iface 228 (.pointer (some a))) ∧ ∃ nd, w' = w.drewN nd := by
 have up : ∀ {v : Value} {P : Prop} {e : Ending} {w' : World}, (e = .returned v ∧ w' = w) → v = (if cmpF t u = true then .nilIface else .iface 228 (.pointer (some a))) → (e = .returned (if cmpF t u = true then .nilIface else .iface 228 (.pointer (some a))) ∧ ∃ nd, w' = w.drewN nd) := fun h e => ⟨by rw [← e]; exact h.1, 0, h.2⟩
 obtain ⟨r', hi', ot, bt⟩ := ht.und r hi h.r1
 obtain ⟨s', hj', ou, bu⟩ := hu.und s hj h.r2
 have hu1 := underlying_any w T.n1 T.og1 i T.f1 T.pt1 T.ob1 h.i.h1 hi h.i.p1
 have hu2 := underlying_any w T.n2 T.og2 j T.f2 T.pt2 T.ob2 h.i.h2 hj h.i.p2
 have hk1 := zzKind_any w T.n1 T.og1 _ T.f1 T.pt1 T.ob1 h.i.h1 hi'
 have hk2 := zzKind_any w T.n2 T.og2 _ T.f2 T.pt2 T.ob2 h.i.h2 hj'
 obtain ⟨z1, y1, x1, a1⟩ := h.i.h1.compA hi' r' bt
 obtain ⟨z2, y2, x2, a2⟩ := h.i.h2.compA hj' s' bu
 rw [r'.kind] at hk1
 rw [s'.kind] at hk2
 have e1 := (h.i.h1.kindOf hi' r'.kind)
 have e2 := (h.i.h2.kindOf hj' s'.kind)
 by_cases hc : (isC t.behind && isC u.behind) = true
 ·obtain ⟨c1, c2⟩ := Bool.and_eq_true_iff.1 hc
  rw [c1] at a1
  rw [c2] at a2
  exact (mcompat_comp hu1 hu2 a1 a2).mono fun e w' q => up (P := True) q (by rw [if_pos (cmpF_comp hc)])
 ·have hc : (isC t.behind && isC u.behind) = false := by simpa using hc
  by_cases hk : t.behind.kind = u.behind.kind
  ·have hcm : cmpF t u = cmpK t.behind u.behind := rfl
   rw [← hk] at hk2
   have hn1 : isC t.behind = false := by
    cases h1 : isC t.behind with
    | false => rfl
    | true =>
     have : isC u.behind = true := by rw [isC_iff] at h1 ⊢; omega
     rw [h1, this] at hc; cases hc
   rw [hn1] at a1
   obtain rfl := y1 hn1
   rw [hcm] at up ⊢
   generalize t.behind = t1 at *
   generalize u.behind = u1 at *
   cases t1 with
   | int => cases u1 with
    | int => exact (mcompat_plain hu1 hu2 a1 a2 hk1 hk2 (.inl (e1.1 rfl))).mono fun e w' q => up (P := True) q rfl
    | comp un => cases un <;> cases hk
    | _ => cases hk
   | ptr => cases u1 with
    | ptr => exact (mcompat_plain hu1 hu2 a1 a2 hk1 hk2 (.inr (.inl (e1.2.1 rfl)))).mono fun e w' q => up (P := True) q rfl
    | comp un => cases un <;> cases hk
    | _ => cases hk
   | arr => cases u1 with
    | arr => exact (mcompat_plain hu1 hu2 a1 a2 hk1 hk2 (.inr (.inr (e1.2.2.1 rfl)))).mono fun e w' q => up (P := True) q rfl
    | comp un => cases un <;> cases hk
    | _ => cases hk
   | enm nm1 => cases u1 with
    | enm nm2 =>
     obtain ⟨p1, c1, _⟩ := h.i.h1.enmC hi' r'
     obtain ⟨p2, c2, _⟩ := h.i.h2.enmC hj' s'
     simp only [objAt, p1] at hu1 hk1
     simp only [objAt, p2] at hu2 hk2
     have l1 : nm1.size ≤ 2 := by
      cases ot with
      | leaf h => cases h with
       | int h => obtain ⟨_, _, _, e, _⟩ := h; cases e
       | enm h => obtain ⟨_, _, _, _, _, e, _, _, h, _⟩ := h; cases e; exact h
     have l2 : nm2.size ≤ 2 := by
      cases ou with
      | leaf h => cases h with
       | int h => obtain ⟨_, _, _, e, _⟩ := h; cases e
       | enm h => obtain ⟨_, _, _, _, _, e, _, _, h, _⟩ := h; cases e; exact h
     exact (mcompat_enum hu1 hu2 hk1 hk2 c1 c2 l1 l2 h.imp)
    | comp un => cases un <;> cases hk
    | _ => cases hk
   | named nm x => exact absurd (by rw [bt]; rfl) (behind_kind (.named nm x)).1
   | cst x => exact absurd (by rw [bt]; rfl) (behind_kind (.cst x)).2
   | comp un => cases un <;> cases hn1
  ·exact (mcompat_ne hu1 hu2 a1 a2 hk1 hk2 hc (by omega) h.imp).mono fun e w' q => up (P := True) q (by rw [cmpF_ne hk hc]; rfl)
section
variable {w : World} {n og i : Nat} {f : Nat → RowD} {pt : Nat → TypeId} {ob : Nat → Nat} {t : Ty}
theorem size_fok (h : Outs w n f og pt ob) (ht : FOk t) (r : RT f i t) (hi : i < n) (hR : Refs n f) : SizeC w (objAt pt ob i) (t.bytes : Int) := by
 intro W hW
 have o := h.ck hW
 have hof := hR.of_ i hi
 have hix := hR.ix_ i hi
 cases ht with
 | leaf ht => cases ht with
  | int hint =>
   obtain ⟨hk, hs, h0, h8⟩ := hint.row r
   rw [← hs]
   exact sizeof_Int o hi hk h0 (by omega)
  | ptr hu => cases r with
   | @ptr _ j _ hk ho r => exact sizeof_Pointer o hi hk
  | enm he =>
   obtain ⟨nm, sg, q, vn, vv, rfl, _⟩ := he
   cases r with
   | enm hk hn hs hl hq hr =>
    have := sizeof_Enum o hi hk (by omega) (by omega)
    rw [hs] at this
    exact this
  | @arr q u hu q1 q6 => cases r with
   | @arr _ j x _ _ hk hs ho hx rx r =>
    obtain ⟨hk1, hs1, h0, h8⟩ := hu.row r
    have := sizeof_Array o hi hk (by omega) ho hk1 h0 (by omega) x hx (by omega) (by omega)
    rw [hs, hs1] at this
    have e : ((Ty.arr q u).bytes : Int) = (q : Int) * (u.bytes : Int) := Int.natCast_mul _ _
    rw [e]
    exact this
  | named hu hn => cases r with
   | @named _ j _ _ hk hn ho r =>
    obtain ⟨hk1, hs1, h0, h8⟩ := hu.row r
    have := sizeof_Typedef o hi hk (by omega) ho hk1 h0 (by omega)
    rw [hs1] at this
    exact this
  | cst hu => cases r with
   | @cst _ j _ hk ho r =>
    obtain ⟨hk1, hs1, h0, h8⟩ := hu.row r
    have := sizeof_Const o hi hk (by omega) ho hk1 h0 (by omega)
    rw [hs1] at this
    exact this
 | @comp un nm sz m pn py pa pb hs hn hp hy ha => cases r with
  | comp hk hn hs' hq hr r =>
   cases un with
   | false =>
    have := sizeof_Struct o hi (show (f i).k = 4 from hk) (by omega) (by omega)
    rw [hs'] at this
    exact this
   | true =>
    have := sizeof_Union o hi (show (f i).k = 5 from hk) (by omega) (by omega)
    rw [hs'] at this
    exact this
theorem align_leaf (h : Outs w n f og pt ob) (ht : IntT t) (r : RT f i t) (hi : i < n) (hp : Peels n f) : Calls Tryz.prog 89 #[objAt pt ob i] w fun e w' => e = .returned (.tuple #[.int .i64 (al t : Nat), .nilIface]) ∧ w' = w := by
 obtain ⟨sz, sg, nm, rfl, hs, hl⟩ := ht
 have hk : (f i).k = 1 := r.kind
 have hu := underlying_any w n og i f pt ob h hi hp
 rw [show und f i = i from if_neg (by omega)] at hu
 obtain ⟨e, c0, c1, c2⟩ := h.intC hi r
 simp only [objAt, e] at hu ⊢
 exact align_Int hu c1 hs
theorem align_fok (h : Outs w n f og pt ob) (ht : FOk t) (r : RT f i t) (hi : i < n) (hp : Peels n f) (hR : Refs n f) : AlignC w (objAt pt ob i) (al t) := by
 intro W hW
 have o := h.ck hW
 obtain ⟨r', hi', ot, bt⟩ := ht.und r hi hR
 have hu := underlying_any W n og i f pt ob o hi hp
 have e1 := o.kindOf hi' r'.kind
 rw [← al_behind t]
 have yes : ∀ {z : Nat}, z ≠ 0 → Calls Tryz.prog 89 #[objAt pt ob i] W (fun e w' => e = .returned (.tuple #[.int .i64 (z : Nat), .nilIface]) ∧ w' = W) →
   Calls Tryz.prog 89 #[objAt pt ob i] W (fun e w' => Below W.heap.size W w' ∧ (if z = 0 then ∃ ev, e = .returned (.tuple #[.int .i64 0, ev]) ∧ NewErr W.heap.size w' ev else e = .returned (.tuple #[.int .i64 (z : Nat), .nilIface]))) := fun hz hc =>
  hc.mono fun e w' q => by
   obtain ⟨rfl, rfl⟩ := q
   exact ⟨Below.refl _ _, by rw [if_neg hz]⟩
 have no : Calls Tryz.prog 89 #[objAt pt ob i] W (fun e w' => ∃ ev, e = .returned (.tuple #[.int .i64 0, ev]) ∧ NewErr W.heap.size w' ev ∧ Below W.heap.size W w') →
   Calls Tryz.prog 89 #[objAt pt ob i] W (fun e w' => Below W.heap.size W w' ∧ (if 0 = 0 then ∃ ev, e = .returned (.tuple #[.int .i64 0, ev]) ∧ NewErr W.heap.size w' ev else e = .returned (.tuple #[.int .i64 ((0 : Nat) : Int), .nilIface]))) := fun hc =>
  hc.mono fun e w' q => by
   obtain ⟨ev, rfl, h2, h3⟩ := q
   exact ⟨h3, by rw [if_pos rfl]; exact ⟨ev, rfl, h2⟩⟩
 generalize t.behind = t1 at *
 cases ot with
 | leaf ot => cases ot with
  | int hint =>
   obtain ⟨sz, sg, nm, rfl, hs, hl⟩ := hint
   obtain ⟨e, c0, c1, c2⟩ := o.intC hi' r'
   simp only [objAt, e] at hu
   exact yes (by show sz ≠ 0; omega) (align_Int hu c1 hs)
  | ptr hx =>
   simp only [objAt, e1.2.1 rfl] at hu
   exact no (align_Not hu (.inl rfl))
  | enm he =>
   obtain ⟨nm, sg, q, vn, vv, rfl, _⟩ := he
   obtain ⟨e, c0, c1⟩ := o.enmC hi' r'
   simp only [objAt, e] at hu
   exact yes (by show 4 ≠ 0; decide) (align_Enum (sz := 4) hu c1 (by decide))
  | @arr q u hx q1 q6 => cases r' with
   | @arr _ j x _ _ hk hs ho hx' rx r =>
    have hof := hR.of_ _ hi'
    have hj : j < n := by omega
    have hc := (o.arrCell hi' hk ho hx').2
    simp only [objAt, e1.2.2.1 rfl] at hu
    exact yes (by show al u ≠ 0; obtain ⟨sz, sg, nm, rfl, hs, _⟩ := hx; show sz ≠ 0; omega) (align_Arr hu hc.1 (align_leaf (t := u) o hx r hj hp))
  | named hx hn => exact absurd (by rw [bt]; rfl) (behind_kind (.named _ _)).1
  | cst hx => exact absurd (by rw [bt]; rfl) (behind_kind (.cst _)).2
 | @comp un nm sz m pn py pa pb hs hn hp' hy ha' =>
  cases un with
  | false =>
   simp only [objAt, e1.2.2.2.1 rfl] at hu
   exact no (align_Not hu (.inr (.inl rfl)))
  | true =>
   simp only [objAt, e1.2.2.2.2.1 rfl] at hu
   exact no (align_Not hu (.inr (.inr rfl)))
end
def TgtKey (w : World) (x : Value) : Prop := ∃ v o, x = .iface 274 (.agg #[v, .int .u32 o]) ∧ IfaceKey Tryz.prog w v
theorem ot_comp : (Tryz.prog.info? 274).map (·.comparable) = some true := by kernel_rfl
theorem part_comp (w : World) (cs : Array Value) (j : Nat) (v : Value) (h : cs[j]? = some v) : (part 177 cs j).run Tryz.prog w = .ok v w := by
 simp [part, isAgg, h]
theorem part_bits (w : World) (cs : Array Value) (j : Nat) (v : Value) (h : cs[j]? = some v) : (part 135 cs j).run Tryz.prog w = .ok v w := by
 simp [part, isAgg, h]
theorem check_ot {w : World} {v : Value} {o : Int} (hv : IfaceKey Tryz.prog w v) (em : Bool) (n : Nat) : (Instr.checkKey em (n + 4) 177 (.iface 274 (.agg #[v, .int .u32 o]))).run Tryz.prog w = .ok () w := by
 obtain ⟨i, hi, hc⟩ := Option.map_eq_some_iff.1 ot_comp
 have h1 := iface_check Tryz.underlying177 hv em n
 have p0 := part_comp w #[v, .int .u32 o] 0 v rfl
 have p1 := part_bits w #[v, .int .u32 o] 1 (.int .u32 o) rfl
 have h3 : (Instr.checkKey em (n + 2) 135 (.int .u32 o)).run Tryz.prog w = .ok () w := by
  rw [Instr.checkKey]
  simp [run_underlying Tryz.underlying135]
 have h2 : (Instr.checkKey em (n + 3) 274 (.agg #[v, .int .u32 o])).run Tryz.prog w = .ok () w := by
  rw [Instr.checkKey]
  simp [run_underlying Tryz.underlying274, p0, p1, h1, h3]
 rw [Instr.checkKey]
 simp [run_underlying Tryz.underlying177, typeInfo, hi, hc, h2]
theorem tgt_same {w : World} {v v' : Value} {o o' : Int} (hv : IfaceKey Tryz.prog w v) (hv' : IfaceKey Tryz.prog w v') :
  ∃ r, (Op.equal 177 (.iface 274 (.agg #[v, .int .u32 o])) (.iface 274 (.agg #[v', .int .u32 o']))).run Tryz.prog w = .ok r w ∧ (r = true ↔ v' = v ∧ o' = o) := by
 obtain ⟨i, hi, hc⟩ := Option.map_eq_some_iff.1 ot_comp
 obtain ⟨r1, h1, i1⟩ := iface_sameAt Tryz.underlying177 hv hv' 9996
 have pa := part_comp w #[v, .int .u32 o] 0 v rfl
 have pb := part_bits w #[v, .int .u32 o] 1 (.int .u32 o) rfl
 have pa' := part_comp w #[v', .int .u32 o'] 0 v' rfl
 have pb' := part_bits w #[v', .int .u32 o'] 1 (.int .u32 o') rfl
 have hf : Tryz.prog.fieldsOf 274 = #[{ name := "composite", type := 177, offset := 0, embedded := true, tag := "", pkgPath := "loop.example/pub-g03460/pub/ebpfbtf", byteOffset := 0 }, { name := "offset", type := 135, offset := 1, embedded := false, tag := "", pkgPath := "loop.example/pub-g03460/pub/ebpfbtf", byteOffset := 16 }] := by
  simp [Program.fieldsOf, Tryz.underlying274]
 have he := run_equalIn_struct (P := Tryz.prog) w 9998 274 #[v, .int .u32 o] #[v', .int .u32 o'] (by rw [hf]; exact Tryz.underlying274) (by kernel_rfl)
 rw [hf] at he
 have hb : (Op.equalIn 9998 135 (.int .u32 o) (.int .u32 o')).run Tryz.prog w = .ok (o == o') w := by
  have h : ∀ d : Nat, (Op.equalIn (d + 1) 135 (.int .u32 o) (.int .u32 o')).run Tryz.prog w = .ok (o == o') w := fun d => by
   simp [Op.equalIn, run_underlying Tryz.underlying135]
  exact h 9997
 have he2 : (Op.equal 177 (.iface 274 (.agg #[v, .int .u32 o])) (.iface 274 (.agg #[v', .int .u32 o']))).run Tryz.prog w = (Op.equalIn 9999 274 (.agg #[v, .int .u32 o]) (.agg #[v', .int .u32 o'])).run Tryz.prog w := by
  have h : ∀ d : Nat, (Op.equalIn (d + 1) 177 (.iface 274 (.agg #[v, .int .u32 o])) (.iface 274 (.agg #[v', .int .u32 o']))).run Tryz.prog w = (Op.equalIn d 274 (.agg #[v, .int .u32 o]) (.agg #[v', .int .u32 o'])).run Tryz.prog w := fun d => by
   conv => lhs; rw [Op.equalIn]
   simp [run_underlying Tryz.underlying177, typeInfo, hi, hc]
  exact h 9999
 rw [he2, he]
 cases r1 with
 | false =>
  refine ⟨false, by simp [Op.eqFields, pa, pa', h1], ?_⟩
  have : ¬ v' = v := fun e => by have := i1.2 e; cases this
  simp [this]
 | true =>
  have e1 := i1.1 rfl
  subst e1
  refine ⟨o == o', by cases hoo : o == o' <;> simp [Op.eqFields, pa, pa', pb, pb', h1, hb, hoo], ?_⟩
  exact ⟨fun h => ⟨rfl, (beq_iff_eq.1 h).symm⟩, fun h => beq_iff_eq.2 h.2.symm⟩
theorem tgt_keys (w : World) : KeyIn Tryz.prog 177 w (TgtKey w) where
 check em v := by
  rintro ⟨x, o, rfl, hx⟩
  exact check_ot hx em 9996
 late := ⟨_, Tryz.underlying177, by rintro x y es ⟨v, o, rfl, _⟩; simp [Instr.findNow, Instr.sameNow]⟩
 same := by
  rintro x y ⟨v, o, rfl, hv⟩ ⟨v', o', rfl, hv'⟩
  obtain ⟨r, h1, h2⟩ := tgt_same (o := o) (o' := o') hv hv'
  refine ⟨r, h1, h2.trans ⟨fun h => by rw [h.1, h.2], fun h => ?_⟩⟩
  simp only [Value.iface.injEq, Value.agg.injEq, Array.mk.injEq, List.cons.injEq, Value.int.injEq, true_and, and_true] at h
  exact h
 stays := by
  rintro x ⟨v, o, rfl, ⟨tp, te, i, j, c, cs, ty, rfl, _⟩⟩
  have h : ∀ n : Nat, Instr.sameBits (n + 3) (.iface 274 (.agg #[.iface tp (.pointer (some ⟨c, 0, none⟩)), .int .u32 o])) (.iface 274 (.agg #[.iface tp (.pointer (some ⟨c, 0, none⟩)), .int .u32 o])) = true := fun n => by simp [Instr.sameBits]
  exact h 9997
def MapN (w : World) (b : Nat) (m : Value → Option Value) (k : Nat) : Prop :=
 ∃ es clock, w.heap[b]? = some (.map es clock) ∧ (∀ e ∈ es.toList, m e.key = some e.val) ∧ (∀ x v, m x = some v → ∃ e ∈ es.toList, e.key = x) ∧ es.size ≤ k
theorem MapN.is {w : World} {b k : Nat} {m : Value → Option Value} (h : MapN w b m k) : IsMapOf w b m := by
 obtain ⟨es, clock, h1, h2, h3, _⟩ := h; exact ⟨es, clock, h1, h2, h3⟩
theorem MapN.lt {w : World} {b k : Nat} {m : Value → Option Value} (h : MapN w b m k) : b < w.heap.size := h.is.lt
theorem MapN.of_eq {w w' : World} {b k : Nat} {m : Value → Option Value} (h : MapN w b m k) (e : w'.heap[b]? = w.heap[b]?) : MapN w' b m k := by
 obtain ⟨es, clock, hb, r⟩ := h; exact ⟨es, clock, e.trans hb, r⟩
theorem MapN.made (w : World) : MapN (w.alloc (.map #[] 0)) w.heap.size (fun _ => none) 0 :=
 ⟨#[], 0, (MapKept.heap_alloc w _).1, by simp, by simp, Nat.le_refl _⟩
section
variable {P : Program} {k e t : TypeId} {w : World} {G : Value → Prop} {b : Nat} {m : Value → Option Value}
theorem MapN.len {n : Nat} (h : MapN w b m n) (ht : P.underlying t = some (.map k e)) (ty : TypeId) : ∃ q : Nat, q ≤ n ∧ (Builtin.len_ #[t] ty #[.map (some b)]).run P w = .ok (.int .i64 (q : Nat)) w := by
 obtain ⟨es, clock, hb, _, _, hn⟩ := h
 exact ⟨es.size, hn, by simp [Builtin.len_, run_underlying ht, MapKept.run_getObj_map hb, goInt, Result.andThen]⟩
theorem IsMapOf.look1 (h : IsMapOf w b m) (K : KeyIn P k w G) (hG : ∀ x v, m x = some v → G x) (ht : P.underlying t = some (.map k e)) {z : Value} (hz : (zeroValue e).run P w = .ok z w) {x : Value} (hx : G x) :
  (Instr.lookup t (.map (some b)) x false).run P w = .ok ((m x).getD z) w := by
 obtain ⟨es, clock, hb, h1, h2⟩ := h
 have hk : ∀ y ∈ es.toList, G y.key := fun y hy => hG _ _ (h1 y hy)
 rcases findKey_keys K hx es.toList hk with ⟨hf, hn⟩ | ⟨j, y, hf, hj, hy⟩
 ·have hm : m x = none := by
   cases hm : m x with
   | none => rfl
   | some v => obtain ⟨y, hy, hyx⟩ := h2 x v hm; exact absurd hyx (hn y hy)
  simp [Instr.lookup, run_underlying ht, MapKept.run_getObj_map hb, K.check _ _ hx, hf, hz, hm, Result.andThen]
 ·have hmem : y ∈ es.toList := List.mem_of_getElem? hj
  have hm : m x = some y.val := by rw [← hy]; exact h1 y hmem
  simp [Instr.lookup, run_underlying ht, MapKept.run_getObj_map hb, K.check _ _ hx, hf, hm, Result.andThen]
theorem MapN.store {n : Nat} (h : MapN w b m n) (K : KeyIn P k w G) (hG : ∀ x v, m x = some v → G x) (ht : P.underlying t = some (.map k e)) {x v : Value} (hx : G x) (hn : m x = none) :
  ∃ w', (Instr.mapUpdate t (.map (some b)) x v).run P w = .ok () w' ∧ w.grownBy w' (some b) ∧ w'.heap.size = w.heap.size ∧ ∀ m' : Value → Option Value, m' x = some v → (∀ y, y ≠ x → m' y = m y) → MapN w' b m' (n + 1) := by
 obtain ⟨es, clock, hb, h1, h2, hes⟩ := h
 have hk : ∀ y ∈ es.toList, G y.key := fun y hy => hG _ _ (h1 y hy)
 rcases findKey_keys K hx es.toList hk with ⟨hf, hne⟩ | ⟨j, y, hf, hj, hy⟩
 ·refine ⟨ChangeMaps.setBlock w b (.map (es.push { key := x, val := v, born := clock }) (clock + 1)), ?_, ?_, ?_, fun m' hm1 hm2 => ⟨_, _, ChangeMaps.heap_setBlock_same hb _, ?_, ?_, by simpa using hes⟩⟩
  ·simp [Instr.mapUpdate, run_underlying ht, MapKept.run_getObj_map hb, K.check _ _ hx, hf, MapKept.run_setObj_map _ hb, Result.andThen, ChangeMaps.setBlock]
  ·exact ⟨rfl, rfl, rfl, by simp [ChangeMaps.setBlock], fun i _ hi => ChangeMaps.heap_setBlock_other hb _ (fun e => hi (by rw [e]))⟩
  ·simp [ChangeMaps.setBlock]
  ·intro y hy
   simp only [Array.toList_push, List.mem_append, List.mem_singleton] at hy
   rcases hy with hy | rfl
   ·rw [hm2 _ (hne y hy)]; exact h1 y hy
   ·exact hm1
  ·intro y u hu
   by_cases hyx : y = x
   ·exact ⟨{ key := x, val := v, born := clock }, by simp, hyx.symm⟩
   ·rw [hm2 y hyx] at hu
    obtain ⟨y', hy', he⟩ := h2 y u hu
    exact ⟨y', by simp only [Array.toList_push, List.mem_append]; exact .inl hy', he⟩
 ·have hmem : y ∈ es.toList := List.mem_of_getElem? hj
  have hm : m x = some y.val := by rw [← hy]; exact h1 y hmem
  rw [hn] at hm; cases hm
theorem wpList_look1 {ops : Array Oper} {rest : List Oper} {o : Oper} {a : Act} {Q : Exit → Act → World → Prop} (hg : o.guard = none) (mo xo : Operand) (hop : o.op = Op.lookup t mo xo false)
  (ht : P.underlying t = some (.map k e)) {z : Value} (hz : (zeroValue e).run P w = .ok z w) (K : KeyIn P k w G) (hm : a.eval mo = .map (some b)) (h : IsMapOf w b m) (hG : ∀ x v, m x = some v → G x)
  (x : Value) (hx : a.eval xo = x) (hgx : G x) (r : Value) (hr : (m x).getD z = r) (hK : wpList P ops Q rest (a.put o.dst r) w) : wpList P ops Q (o :: rest) a w := by
 subst hr
 refine wpList_plain hg fun K' hK' => ?_
 have hrun := h.look1 K hG ht hz hgx
 unfold Oper.wp
 simp [execOp, hop, hm, hx, hrun, Result.andThen]
 exact hK' _ _ hK
theorem wpList_storeN {n : Nat} {ops : Array Oper} {rest : List Oper} {o : Oper} {a : Act} {Q : Exit → Act → World → Prop} (hg : o.guard = none) (mo xo vo : Operand) (hop : o.op = Op.mapUpdate t mo xo vo)
  (ht : P.underlying t = some (.map k e)) (K : KeyIn P k w G) (hm : a.eval mo = .map (some b)) (h : MapN w b m n) (hG : ∀ x v, m x = some v → G x)
  (x v : Value) (hx : a.eval xo = x) (hv : a.eval vo = v) (hgx : G x) (hn : m x = none)
  (hK : ∀ w', w.grownBy w' (some b) → w'.heap.size = w.heap.size → (∀ m' : Value → Option Value, m' x = some v → (∀ y, y ≠ x → m' y = m y) → MapN w' b m' (n + 1)) → wpList P ops Q rest (a.put o.dst undef) w') : wpList P ops Q (o :: rest) a w := by
 refine wpList_plain hg fun K' hK' => ?_
 obtain ⟨w', hrun, r1, r2, r3⟩ := h.store (v := v) K hG ht hgx hn
 unfold Oper.wp
 simp [execOp, hop, hm, hx, hv, hrun, Result.andThen]
 exact hK' _ _ (hK w' r1 r2 r3)
end
theorem members_Union (w : World) (b : Nat) (v : Value) (h : w.cell? ⟨b, 2, none⟩ = some v) : Calls Tryz.prog 138 #[.pointer (some ⟨b, 0, none⟩)] w fun e w' => e = .returned v ∧ w' = w := by
 go_enter Tryz.func138, Tryz.ntmps138
 go_wp2
 go_ret
 exact ⟨rfl, rfl⟩
structure MemC (w : World) (p : TypeId) (b : Nat) (F : FuncId) (v : Value) : Prop where
 m : ∀ W : World, (Go.method 419 p (.pointer (some ⟨b, 0, none⟩)) "loop.example/pub-g03460/pub/ebpfbtf.members").run Tryz.prog W = .ok (F, .pointer (some ⟨b, 0, none⟩)) W
 c : ∀ W : World, (callFunc F #[.pointer (some ⟨b, 0, none⟩)]).run Tryz.prog W = .ok (.enter F #[.pointer (some ⟨b, 0, none⟩)]) W
 n : ∀ W, CellsKept w W → Calls Tryz.prog F #[.pointer (some ⟨b, 0, none⟩)] W fun e w' => e = .returned v ∧ w' = W
theorem MemC.ck {w w' : World} {p : TypeId} {b : Nat} {F : FuncId} {v : Value} (h : MemC w p b F v) (hc : CellsKept w w') : MemC w' p b F v := ⟨h.m, h.c, fun W hW => h.n W (hc.trans hW)⟩
section
variable {w : World} {n og i : Nat} {f : Nat → RowD} {pt : Nat → TypeId} {ob : Nat → Nat}
theorem Outs.compC (h : Outs w n f og pt ob) (hR : Refs n f) (hi : i < n) {un : Bool} {sz q : Nat} {nm : ByteArray} {pn : Nat → ByteArray} {py : Nat → Ty} {pa pb : Nat → Nat} (r : RT f i (.comp un nm sz q pn py pa pb)) :
  (pt (i + 1) = 162 ∨ pt (i + 1) = 163) ∧ ∃ (u : Option Addr) (cap : Nat) (pc : Nat → Nat) (F : FuncId), MemC w (pt (i + 1)) (ob (i + 1)) F (.slice u q cap) ∧
   ∀ k, k < q → pc k < n ∧ RT f (pc k) (py k) ∧ ∃ g, u = some ⟨g, 0, none⟩ ∧ MemAt w g k (pn k) (pt (pc k + 1)) (ob (pc k + 1)) (pa k : Nat) (pb k : Nat) := by
 have h0 := h
 obtain ⟨cs, cs0, ty, lo, hob, hbk, hful⟩ := h.full i hi
 cases r with
 | @comp _ _ _ _ _ _ _ _ _ pc hk hn hs hqq hr hr2 =>
  have hmem := hR.mem i hi
  have hful' : FullC w lo pt ob nm sz (f i).en (f i).fl (f i).of (f i).ix q (f i).ys (if un then 5 else 4) cs := by rw [← hk, ← hn, ← hs, ← hqq]; exact hful
  rw [hqq] at hmem
  have key : ∀ {u : Option Addr} {cap : Nat} {xs : List Value}, w.ownsRow lo 189 5 (.slice u q cap) q xs → BRows (f i).ys xs pt ob q →
    ∀ k, k < q → pc k < n ∧ RT f (pc k) (py k) ∧ ∃ g, u = some ⟨g, 0, none⟩ ∧ MemAt w g k (pn k) (pt (pc k + 1)) (ob (pc k + 1)) (pa k : Nat) (pb k : Nat) := by
   intro u cap xs ho hb k hk
   have hoc := hmem k hk _ _ _ _ _ (hr k hk)
   refine ⟨by omega, hr2 k hk, ?_⟩
   obtain ⟨g, cap', hse, hg⟩ := own_form ho (by omega)
   cases hse
   refine ⟨g, rfl, ?_⟩
   obtain ⟨nm', o, a, b, v, hp, ho1, c0, c1, c2, c3, c4⟩ := hb k hk
   obtain ⟨p0, p1, p2, p3, p4⟩ := hp
   obtain ⟨q0, q1, q2, q3, q4⟩ := hr k hk
   rw [p0] at q0; rw [p1] at q1; rw [p2] at q2; rw [p3] at q3
   simp only [Option.some.injEq, Value.string.injEq, Value.int.injEq, true_and] at q0 q1 q2 q3
   obtain rfl : o = pc k + 1 := by omega
   subst q0 q2 q3
   rw [Nat.mul_comm] at c0 c1 c2 c3 c4
   exact ⟨hg, own_cell ho c0, own_cell ho c1, own_cell ho c2, own_cell ho c3, own_cell ho c4⟩
  cases un with
  | false =>
   have hk4 : (f i).k = 4 := hk
   have e := (h.kindOf hi hk4).2.2.2.1 rfl
   refine ⟨.inl e, ?_⟩
   cases hful' with
   | str hk' ho hb =>
    obtain ⟨u, cap, rfl⟩ := own_slice ho
    have hc := hbk.cell 2
    simp only [List.getElem?_toArray, List.getElem?_cons_succ, List.getElem?_cons_zero] at hc
    rw [e]
    exact ⟨u, cap, pc, 134, ⟨fun W => by kernel_rfl, fun W => by kernel_rfl, fun W hW => members_Struct _ _ _ (hW.cell hc)⟩, key ho hb⟩
  | true =>
   have hk5 : (f i).k = 5 := hk
   have e := (h.kindOf hi hk5).2.2.2.2.1 rfl
   refine ⟨.inr e, ?_⟩
   cases hful' with
   | str hk' ho hb =>
    obtain ⟨u, cap, rfl⟩ := own_slice ho
    have hc := hbk.cell 2
    simp only [List.getElem?_toArray, List.getElem?_cons_succ, List.getElem?_cons_zero] at hc
    rw [e]
    exact ⟨u, cap, pc, 138, ⟨fun W => by kernel_rfl, fun W => by kernel_rfl, fun W hW => members_Union _ _ _ (hW.cell hc)⟩, key ho hb⟩
theorem asComp_yes (h : Outs w n f og pt ob) (hi : i < n) (hp : Peels n f) {un : Bool} {sz q : Nat} {nm : ByteArray} {pn : Nat → ByteArray} {py : Nat → Ty} {pa pb : Nat → Nat} (r : RT f i (.comp un nm sz q pn py pa pb)) :
  Calls Tryz.prog 81 #[objAt pt ob i] w fun e w' => e = .returned (.tuple #[objAt pt ob i, .bool true]) ∧ w' = w := by
 refine (As_Comp w n og i f pt ob h hi (hp i hi)).mono ?_
 rintro e w' ⟨rfl, rfl⟩
 have hk := r.kind
 exact ⟨by rw [if_pos]; rw [hk]; cases un; exact .inl rfl; exact .inr rfl, rfl⟩
theorem asComp_no (h : Outs w n f og pt ob) (hi : i < n) (hp : Peels n f) {t : Ty} (r : RT f i t) (hc : isC t = false) :
  Calls Tryz.prog 81 #[objAt pt ob i] w fun e w' => e = .returned (.tuple #[.nilIface, .bool false]) ∧ w' = w := by
 refine (As_Comp w n og i f pt ob h hi (hp i hi)).mono ?_
 rintro e w' ⟨rfl, rfl⟩
 have hk := r.kind
 refine ⟨?_, rfl⟩
 rw [if_neg]
 intro h2
 have : isC t = true := (isC_iff t).2 (by omega)
 rw [this] at hc; cases hc
end
theorem Outs.obInj {w : World} {n og : Nat} {f : Nat → RowD} {pt : Nat → TypeId} {ob : Nat → Nat} (h : Outs w n f og pt ob) {x y : Nat} (hx : x < n) (hy : y < n) (e : ob (x + 1) = ob (y + 1)) : x = y := by
 rcases Nat.lt_trichotomy x y with q | q | q
 ·have := h.inj x y q hy; omega
 ·exact q
 ·have := h.inj y x q hx; omega
theorem wpList_mkIface {P : Program} {w : World} {t : TypeId} {ops : Array Oper} {rest : List Oper} {o : Oper} {a : Act} {Q : Exit → Act → World → Prop} (hg : o.guard = none) (xo : Operand) (hop : o.op = Op.makeInterface t xo)
  (x : Value) (hx : a.eval xo = x) (hi : P.concrete t = true) (hK : wpList P ops Q rest (a.put o.dst (.iface t x)) w) : wpList P ops Q (o :: rest) a w := by
 refine wpList_plain hg fun K' hK' => ?_
 unfold Oper.wp
 simp [execOp, hop, hx, run_makeInterface w t x hi, Result.andThen]
 exact hK' _ _ hK
theorem ot_concrete : Tryz.prog.concrete 274 = true := by kernel_rfl
def NoR (f : Nat → RowD) (nm : ByteArray) (r : Nat) : Prop := ∀ j, j < (f r).q → ∀ nm' o a b v, PRow (f r).ys j nm' o a b v → nm' ≠ nm
theorem NoR.hit {f : Nat → RowD} {nm : ByteArray} {r o : Nat} {un : Bool} {tn : ByteArray} {sz n : Nat} {pn : Nat → ByteArray} {py : Nat → Ty} {pa pb : Nat → Nat} (h : NoR f nm r) (hr : RT f r (.comp un tn sz n pn py pa pb)) : hit nm (.comp un tn sz n pn py pa pb, o) = none := by
 cases hr with
 | comp hk hn hs hq hp hc =>
  have : direct n pn nm = none := direct_none fun i hi => h i (by omega) _ _ _ _ _ (hp i hi)
  simp only [Go.Proofs.YtfilbgmbmlmdbaaGreatDoor.hit, this, Option.map_none]
theorem noR_of {f : Nat → RowD} {nm : ByteArray} {r : Nat} {un : Bool} {tn : ByteArray} {sz n : Nat} {pn : Nat → ByteArray} {py : Nat → Ty} {pa pb : Nat → Nat} (hr : RT f r (.comp un tn sz n pn py pa pb)) (h : ∀ i, i < n → pn i ≠ nm) : NoR f nm r := by
 cases hr with
 | comp hk hn hs hq hp hc =>
  intro j hj nm' o a b v hpr
  have e := ((hp j (by omega)).uniq hpr).1
  rw [← e]
  exact h j (by omega)
structure TLst (n : Nat) (f : Nat → RowD) (pt : Nat → TypeId) (ob : Nat → Nat) (LL : List (Ty × Nat)) (B m : Nat) (v : Value) (xs : List Value) (w : World) : Prop where
 own : w.ownsRow B 274 2 v m xs
 row : ∀ i, i < m → ∃ r x o, LL[i]? = some (x, o) ∧ Tgt x o ∧ r < n ∧ RT f r x ∧ xs[2 * i]? = some (objAt pt ob r) ∧ xs[2 * i + 1]? = some (.int .u32 (o : Nat))
theorem TLst.of {n : Nat} {f : Nat → RowD} {pt : Nat → TypeId} {ob : Nat → Nat} {LL : List (Ty × Nat)} {B m : Nat} {v : Value} {xs : List Value} {w w' : World} (h : TLst n f pt ob LL B m v xs w) (he : ∀ g, v.ownBlock = some g → g < w.heap.size → w'.heap[g]? = w.heap[g]?) : TLst n f pt ob LL B m v xs w' :=
 ⟨ownsRow_of h.own he, h.row⟩
theorem TLst.below {n : Nat} {f : Nat → RowD} {pt : Nat → TypeId} {ob : Nat → Nat} {LL : List (Ty × Nat)} {B m : Nat} {v : Value} {xs : List Value} {w w' : World} (h : TLst n f pt ob LL B m v xs w) (hb : Below w.heap.size w w') : TLst n f pt ob LL B m v xs w' := h.of fun g _ hl => hb.block g hl
theorem TLst.push {n : Nat} {f : Nat → RowD} {pt : Nat → TypeId} {ob : Nat → Nat} {LL : List (Ty × Nat)} {B m g cap r o : Nat} {v : Value} {xs : List Value} {w w' : World} {x : Ty} (h : TLst n f pt ob LL B m v xs w) (ha : Appended w B 274 2 v m 1 xs [objAt pt ob r, .int .u32 (o : Nat)] g cap w')
  (hl : LL[m]? = some (x, o)) (ht : Tgt x o) (hr : r < n) (hrt : RT f r x) : TLst n f pt ob LL B (m + 1) (.slice (some ⟨g, 0, none⟩) (m + 1) cap) (xs ++ [objAt pt ob r, .int .u32 (o : Nat)]) w' := by
 have hx := h.own.1
 refine ⟨ha.1, fun i hi => ?_⟩
 by_cases h1 : i < m
 ·obtain ⟨r', x', o', e1, e2, e3, e4, e5, e6⟩ := h.row i h1
  exact ⟨r', x', o', e1, e2, e3, e4, by rw [List.getElem?_append_left (by omega)]; exact e5, by rw [List.getElem?_append_left (by omega)]; exact e6⟩
 ·obtain rfl : i = m := by omega
  exact ⟨r, x, o, hl, ht, hr, hrt, by rw [List.getElem?_append_right (by omega), show 2 * i - xs.length = 0 by omega]; rfl, by rw [List.getElem?_append_right (by omega), show 2 * i + 1 - xs.length = 1 by omega]; rfl⟩
structure VMap (n : Nat) (f : Nat → RowD) (pt : Nat → TypeId) (ob : Nat → Nat) (nm : ByteArray) (mb k : Nat) (mm : Value → Option Value) (w : World) : Prop where
 mp : MapN w mb mm k
 keys : ∀ x u, mm x = some u → u = .bool true ∧ ∃ r o, x = .iface 274 (.agg #[objAt pt ob r, .int .u32 o]) ∧ r < n ∧ NoR f nm r
theorem VMap.of_eq {n : Nat} {f : Nat → RowD} {pt : Nat → TypeId} {ob : Nat → Nat} {nm : ByteArray} {mb k : Nat} {mm : Value → Option Value} {w w' : World} (h : VMap n f pt ob nm mb k mm w) (e : w'.heap[mb]? = w.heap[mb]?) : VMap n f pt ob nm mb k mm w' := ⟨h.mp.of_eq e, h.keys⟩
theorem VMap.tgt {n og : Nat} {f : Nat → RowD} {pt : Nat → TypeId} {ob : Nat → Nat} {nm : ByteArray} {mb k : Nat} {mm : Value → Option Value} {w w' : World} (h : VMap n f pt ob nm mb k mm w) (ho : Outs w' n f og pt ob) : ∀ x u, mm x = some u → TgtKey w' x := fun x u hx => by
 obtain ⟨_, r, o, rfl, hr, _⟩ := h.keys x u hx
 exact ⟨_, _, rfl, ho.key hr⟩
theorem MapN.newAt (w : World) {B : Nat} (hB : B = w.heap.size) : MapN (w.alloc (.map #[] 0)) B (fun _ => none) 0 := by subst hB; exact MapN.made w
theorem elemTgt : ElemOk Tryz.prog 275 274 2 24 := .of (z := .agg #[.nilIface, .int .u32 0]) Tryz.underlying275 (by kernel_rfl) (by rfl) (by decide)
end Go.Proofs.YtfilbgmbmlmdbaaGreatDoor
