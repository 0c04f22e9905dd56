/- Whether types are compatible: the package's rule, nothing having been met. Nothing is claimed here. -/
import Derived.Test.YtfilbgmbmlmdbaaGreatDoorZ10
import Derived.Deep.DeepCutAuto
import Derived.Deep.CutBlock
import Derived.Test.YtfilbgmbmlmdbaaGreatDoorZ08
import Derived.Laws.ResultCell
set_option linter.unusedSimpArgs false
set_option linter.unusedVariables false
set_option maxRecDepth 1000000
set_option maxHeartbeats 16000000
namespace Go.Proofs.YtfilbgmbmlmdbaaGreatDoor
open Go.RowKit Go.MapKept
theorem Met.drew {w : World} {mb : Nat} (h : Met w mb) : Met w.drew mb := by
 obtain ⟨m, hm, hk⟩ := h.mp
 exact ⟨⟨m, hm, fun x u hx => ⟨(hk x u hx).1.ck (CellsKept.below ((Below.refl _ _).drew)), (hk x u hx).2⟩⟩⟩
theorem ButMap.back {w w5 w10 : World} (h : ButMap (w.heap.size + 1) w5.drew w10) (hb : Below w.heap.size w w5) : Below w.heap.size w w10 :=
 ⟨h.os.trans hb.os, h.tape.trans hb.tape, h.output.trans hb.output, Nat.le_trans hb.size h.size, fun k hk => (h.block k (Nat.lt_of_lt_of_le hk hb.size) (by omega)).trans (hb.block k hk)⟩
theorem taStrict {T e : TypeId} (hu : Tryz.prog.underlying T = some (.pointer e)) (W : World) (v : Value) :
  (Instr.typeAssert (.iface T v) 77 T false).run Tryz.prog W = .ok v W := by
 simp [Instr.typeAssert, run_underlying hu, Result.andThen]
theorem Outs.kindOf {w : World} {n og : Nat} {f : Nat → RowD} {pt : Nat → TypeId} {ob : Nat → Nat} (h : Outs w n f og pt ob) {i : Nat} (hi : i < n) {k : Int} (hk : (f i).k = k) :
  (k = 1 → pt (i + 1) = 151) ∧ (k = 2 → pt (i + 1) = 164) ∧ (k = 3 → pt (i + 1) = 167) ∧ (k = 4 → pt (i + 1) = 162) ∧ (k = 5 → pt (i + 1) = 163) ∧ (k = 6 → pt (i + 1) = 144) := by
 obtain ⟨cs, cs0, ty, lo, hob, _, _⟩ := h.full i hi
 rcases hob.kinds with ⟨a, b⟩ | ⟨a, b⟩ | ⟨a, b⟩ | ⟨a, b⟩ | ⟨a, b⟩ | ⟨a, b⟩ | ⟨a, b⟩ | ⟨a, b⟩ <;> refine ⟨?_, ?_, ?_, ?_, ?_, ?_⟩ <;> intro e <;> first | exact b | omega
theorem Outs.arrCell {w : World} {n og : Nat} {f : Nat → RowD} {pt : Nat → TypeId} {ob : Nat → Nat} (h : Outs w n f og pt ob) {i j x : Nat} (hi : i < n) (hk : (f i).k = 3) (ho : (f i).of = j + 1) (hx : (f i).ix = x + 1) :
  w.cell? ⟨ob (i + 1), 0, none⟩ = some (objAt pt ob x) ∧ w.cell? ⟨ob (i + 1), 1, none⟩ = some (objAt pt ob j) ∧ w.cell? ⟨ob (i + 1), 2, none⟩ = some (.int .u32 (f i).sz) ∧ ob (i + 1) < w.heap.size := by
 obtain ⟨cs, cs0, ty, lo, hob, hbk, hful⟩ := h.full i hi
 have e : cs = #[.iface (pt (f i).ix) (.pointer (some ⟨ob (f i).ix, 0, none⟩)), .iface (pt (f i).of) (.pointer (some ⟨ob (f i).of, 0, none⟩)), .int .u32 (f i).sz] := by
  generalize (f i).k = k at hful hk
  cases hful <;> first | rfl | omega
 rw [ho, hx] at e
 subst e
 exact ⟨hbk.cell 0, hbk.cell 1, hbk.cell 2, hbk.lt⟩
section
variable {w : World} {n1 og1 t1 n2 og2 t2 : Nat} {f1 f2 : Nat → RowD} {pt1 pt2 : Nat → TypeId} {ob1 ob2 : Nat → Nat}
end
theorem size_Int (w : World) (b : Nat) (z : Int) (h : w.cell? ⟨b, 1, none⟩ = some (.int .u32 z)) : Calls Tryz.prog 130 #[.pointer (some ⟨b, 0, none⟩)] w fun e w' => e = .returned (.int .u32 z) ∧ w' = w := by
 go_enter Tryz.func130, Tryz.ntmps130
 go_wp2
 go_ret
 exact ⟨rfl, rfl⟩
theorem size_Pointer (w : World) (v : Value) : Calls Tryz.prog 142 #[v] w fun e w' => e = .returned (.int .u32 8) ∧ w' = w := by
 go_enter Tryz.func142, Tryz.ntmps142
 go_wp2
 go_ret
 exact ⟨rfl, rfl⟩
theorem size_Struct (w : World) (b : Nat) (z : Int) (h : w.cell? ⟨b, 1, none⟩ = some (.int .u32 z)) : Calls Tryz.prog 135 #[.pointer (some ⟨b, 0, none⟩)] w fun e w' => e = .returned (.int .u32 z) ∧ w' = w := by
 go_enter Tryz.func135, Tryz.ntmps135
 go_wp2
 go_ret
 exact ⟨rfl, rfl⟩
theorem size_Union (w : World) (b : Nat) (z : Int) (h : w.cell? ⟨b, 1, none⟩ = some (.int .u32 z)) : Calls Tryz.prog 139 #[.pointer (some ⟨b, 0, none⟩)] w fun e w' => e = .returned (.int .u32 z) ∧ w' = w := by
 go_enter Tryz.func139, Tryz.ntmps139
 go_wp2
 go_ret
 exact ⟨rfl, rfl⟩
theorem size_Enum (w : World) (b : Nat) (z : Int) (h : w.cell? ⟨b, 1, none⟩ = some (.int .u32 z)) : Calls Tryz.prog 92 #[.pointer (some ⟨b, 0, none⟩)] w fun e w' => e = .returned (.int .u32 z) ∧ w' = w := by
 go_enter Tryz.func92, Tryz.ntmps92
 go_wp2
 go_ret
 exact ⟨rfl, rfl⟩
theorem hasSInt (v : Value) (W : World) : (Instr.typeAssert (.iface 151 v) 77 236 true).run Tryz.prog W = .ok (.tuple #[.iface 151 v, .bool true]) W := run_typeAssert_hasB Tryz.underlying236 (by kernel_rfl) v _ W
theorem hasSPointer (v : Value) (W : World) : (Instr.typeAssert (.iface 164 v) 77 236 true).run Tryz.prog W = .ok (.tuple #[.iface 164 v, .bool true]) W := run_typeAssert_hasB Tryz.underlying236 (by kernel_rfl) v _ W
theorem hasSStruct (v : Value) (W : World) : (Instr.typeAssert (.iface 162 v) 77 236 true).run Tryz.prog W = .ok (.tuple #[.iface 162 v, .bool true]) W := run_typeAssert_hasB Tryz.underlying236 (by kernel_rfl) v _ W
theorem hasSUnion (v : Value) (W : World) : (Instr.typeAssert (.iface 163 v) 77 236 true).run Tryz.prog W = .ok (.tuple #[.iface 163 v, .bool true]) W := run_typeAssert_hasB Tryz.underlying236 (by kernel_rfl) v _ W
theorem hasSEnum (v : Value) (W : World) : (Instr.typeAssert (.iface 144 v) 77 236 true).run Tryz.prog W = .ok (.tuple #[.iface 144 v, .bool true]) W := run_typeAssert_hasB Tryz.underlying236 (by kernel_rfl) v _ W
theorem lackSTypedef (v : Value) (W : World) : (Instr.typeAssert (.iface 196 v) 77 236 true).run Tryz.prog W = .ok (.tuple #[.nilIface, .bool false]) W := run_typeAssert_lacksB Tryz.underlying236 (by kernel_rfl) (by kernel_rfl) v _ W
theorem lackSConst (v : Value) (W : World) : (Instr.typeAssert (.iface 202 v) 77 236 true).run Tryz.prog W = .ok (.tuple #[.nilIface, .bool false]) W := run_typeAssert_lacksB Tryz.underlying236 (by kernel_rfl) (by kernel_rfl) v _ W
section
variable {w : World} {n og t : Nat} {f : Nat → RowD} {pt : Nat → TypeId} {ob : Nat → Nat}
theorem Outs.sizeCell (h : Outs w n f og pt ob) {i : Nat} (hi : i < n) (hk : (f i).k = 1 ∨ (f i).k = 4 ∨ (f i).k = 5 ∨ (f i).k = 6) : w.cell? ⟨ob (i + 1), 1, none⟩ = some (.int .u32 (f i).sz) := by
 obtain ⟨cs, cs0, ty, lo, hob, hbk, hful⟩ := h.full i hi
 have e : cs[1]? = some (.int .u32 (f i).sz) := by
  generalize (f i).k = k at hful hk
  cases hful <;> first | rfl | omega
 rw [← e]
 exact hbk.cell 1
theorem sizeof_Int (h : Outs w n f og pt ob) (ht : t < n) (hk : (f t).k = 1) (hs0 : 0 ≤ (f t).sz) (hs1 : (f t).sz < 4294967296) :
  Calls Tryz.prog 59 #[objAt pt ob t] w fun e w' => e = .returned (.tuple #[.int .i64 (f t).sz, .nilIface]) ∧ Below w.heap.size w w' := by
 have hpt := (h.kindOf ht hk).1 rfl
 have hcell := h.sizeCell ht (by omega)
 obtain ⟨z, hz⟩ : ∃ z, z = (f t).sz := ⟨_, rfl⟩
 rw [← hz] at hcell hs0 hs1 ⊢
 clear hz
 have a1 := taNoArray 151 (by decide)
 have a2 := hasSInt
 simp only [objAt, hpt]
 clear hpt h hk
 go_enter Tryz.func59, Tryz.ntmps59
 go_wp2_with fail
 go_loopg [0, 4, 5, 12] 0 (fun gk s0 s4 s5 s12 wr => s0 = .iface 151 (.pointer (some ⟨ob (t + 1), 0, none⟩)) ∧ s4 = .int .i64 1 ∧ s12 = .int .i64 0 ∧ wr = w)
 case atStart => exact ⟨rfl, rfl, rfl, rfl⟩
 case round =>
  obtain ⟨rfl, rfl, rfl, rfl⟩ := hrel
  go_wp2_with fail
  refine (size_Int _ _ z hcell).mono ?_
  rintro e w9 ⟨rfl, rfl⟩
  go_wp2_with fail
  go_ret2
  exact ⟨rfl, Below.refl _ _⟩
theorem sizeof_Pointer (h : Outs w n f og pt ob) (ht : t < n) (hk : (f t).k = 2) :
  Calls Tryz.prog 59 #[objAt pt ob t] w fun e w' => e = .returned (.tuple #[.int .i64 8, .nilIface]) ∧ Below w.heap.size w w' := by
 have hpt := (h.kindOf ht hk).2.1 rfl
 have a1 := taNoArray 164 (by decide)
 have a2 := hasSPointer
 simp only [objAt, hpt]
 clear hpt h hk
 go_enter Tryz.func59, Tryz.ntmps59
 go_wp2_with fail
 go_loopg [0, 4, 5, 12] 0 (fun gk s0 s4 s5 s12 wr => s0 = .iface 164 (.pointer (some ⟨ob (t + 1), 0, none⟩)) ∧ s4 = .int .i64 1 ∧ s12 = .int .i64 0 ∧ wr = w)
 case atStart => exact ⟨rfl, rfl, rfl, rfl⟩
 case round =>
  obtain ⟨rfl, rfl, rfl, rfl⟩ := hrel
  go_wp2_with fail
  refine (size_Pointer _ _).mono ?_
  rintro e w9 ⟨rfl, rfl⟩
  go_wp2_with fail
  go_ret2
  exact ⟨rfl, Below.refl _ _⟩
theorem sizeof_Struct (h : Outs w n f og pt ob) (ht : t < n) (hk : (f t).k = 4) (hs0 : 0 ≤ (f t).sz) (hs1 : (f t).sz < 4294967296) :
  Calls Tryz.prog 59 #[objAt pt ob t] w fun e w' => e = .returned (.tuple #[.int .i64 (f t).sz, .nilIface]) ∧ Below w.heap.size w w' := by
 have hpt := (h.kindOf ht hk).2.2.2.1 rfl
 have hcell := h.sizeCell ht (by omega)
 obtain ⟨z, hz⟩ : ∃ z, z = (f t).sz := ⟨_, rfl⟩
 rw [← hz] at hcell hs0 hs1 ⊢
 clear hz
 have a1 := taNoArray 162 (by decide)
 have a2 := hasSStruct
 simp only [objAt, hpt]
 clear hpt h hk
 go_enter Tryz.func59, Tryz.ntmps59
 go_wp2_with fail
 go_loopg [0, 4, 5, 12] 0 (fun gk s0 s4 s5 s12 wr => s0 = .iface 162 (.pointer (some ⟨ob (t + 1), 0, none⟩)) ∧ s4 = .int .i64 1 ∧ s12 = .int .i64 0 ∧ wr = w)
 case atStart => exact ⟨rfl, rfl, rfl, rfl⟩
 case round =>
  obtain ⟨rfl, rfl, rfl, rfl⟩ := hrel
  go_wp2_with fail
  refine (size_Struct _ _ z hcell).mono ?_
  rintro e w9 ⟨rfl, rfl⟩
  go_wp2_with fail
  go_ret2
  exact ⟨rfl, Below.refl _ _⟩
theorem sizeof_Union (h : Outs w n f og pt ob) (ht : t < n) (hk : (f t).k = 5) (hs0 : 0 ≤ (f t).sz) (hs1 : (f t).sz < 4294967296) :
  Calls Tryz.prog 59 #[objAt pt ob t] w fun e w' => e = .returned (.tuple #[.int .i64 (f t).sz, .nilIface]) ∧ Below w.heap.size w w' := by
 have hpt := (h.kindOf ht hk).2.2.2.2.1 rfl
 have hcell := h.sizeCell ht (by omega)
 obtain ⟨z, hz⟩ : ∃ z, z = (f t).sz := ⟨_, rfl⟩
 rw [← hz] at hcell hs0 hs1 ⊢
 clear hz
 have a1 := taNoArray 163 (by decide)
 have a2 := hasSUnion
 simp only [objAt, hpt]
 clear hpt h hk
 go_enter Tryz.func59, Tryz.ntmps59
 go_wp2_with fail
 go_loopg [0, 4, 5, 12] 0 (fun gk s0 s4 s5 s12 wr => s0 = .iface 163 (.pointer (some ⟨ob (t + 1), 0, none⟩)) ∧ s4 = .int .i64 1 ∧ s12 = .int .i64 0 ∧ wr = w)
 case atStart => exact ⟨rfl, rfl, rfl, rfl⟩
 case round =>
  obtain ⟨rfl, rfl, rfl, rfl⟩ := hrel
  go_wp2_with fail
  refine (size_Union _ _ z hcell).mono ?_
  rintro e w9 ⟨rfl, rfl⟩
  go_wp2_with fail
  go_ret2
  exact ⟨rfl, Below.refl _ _⟩
theorem sizeof_Enum (h : Outs w n f og pt ob) (ht : t < n) (hk : (f t).k = 6) (hs0 : 0 ≤ (f t).sz) (hs1 : (f t).sz < 4294967296) :
  Calls Tryz.prog 59 #[objAt pt ob t] w fun e w' => e = .returned (.tuple #[.int .i64 (f t).sz, .nilIface]) ∧ Below w.heap.size w w' := by
 have hpt := (h.kindOf ht hk).2.2.2.2.2 rfl
 have hcell := h.sizeCell ht (by omega)
 obtain ⟨z, hz⟩ : ∃ z, z = (f t).sz := ⟨_, rfl⟩
 rw [← hz] at hcell hs0 hs1 ⊢
 clear hz
 have a1 := taNoArray 144 (by decide)
 have a2 := hasSEnum
 simp only [objAt, hpt]
 clear hpt h hk
 go_enter Tryz.func59, Tryz.ntmps59
 go_wp2_with fail
 go_loopg [0, 4, 5, 12] 0 (fun gk s0 s4 s5 s12 wr => s0 = .iface 144 (.pointer (some ⟨ob (t + 1), 0, none⟩)) ∧ s4 = .int .i64 1 ∧ s12 = .int .i64 0 ∧ wr = w)
 case atStart => exact ⟨rfl, rfl, rfl, rfl⟩
 case round =>
  obtain ⟨rfl, rfl, rfl, rfl⟩ := hrel
  go_wp2_with fail
  refine (size_Enum _ _ z hcell).mono ?_
  rintro e w9 ⟨rfl, rfl⟩
  go_wp2_with fail
  go_ret2
  exact ⟨rfl, Below.refl _ _⟩
theorem sizeof_Typedef (h : Outs w n f og pt ob) (ht : t < n) (hk : (f t).k = 8) {j : Nat} (hj : j < n) (ho : (f t).of = j + 1) (hkj : (f j).k = 1) (hs0 : 0 ≤ (f j).sz) (hs1 : (f j).sz ≤ 1000)  :
  Calls Tryz.prog 59 #[objAt pt ob t] w fun e w' => e = .returned (.tuple #[.int .i64 ((f j).sz), .nilIface]) ∧ Below w.heap.size w w' := by
 have hpt : pt (t + 1) = 196 := by
  obtain ⟨cs, cs0, ty, lo, hob, _, _⟩ := h.full t ht
  rcases hob.kinds with ⟨a, b⟩ | ⟨a, b⟩ | ⟨a, b⟩ | ⟨a, b⟩ | ⟨a, b⟩ | ⟨a, b⟩ | ⟨a, b⟩ | ⟨a, b⟩ <;> first | exact b | omega
 have hpj := (h.kindOf hj hkj).1 rfl
 have hcell := h.sizeCell hj (by omega)
 have hbl := (h.key ht)
 obtain ⟨cs, cs0, ty, lo, hob, hbk, hful⟩ := h.full t ht
 have hcs := hful.of8 hk
 rw [ho, hpj] at hcs
 have hc := hbk.cell 1
 rw [hcs] at hc
 simp only [List.getElem?_toArray, List.getElem?_cons_zero, List.getElem?_cons_succ] at hc
 clear hob hbk hful hcs
 obtain ⟨z, hz⟩ : ∃ z, z = (f j).sz := ⟨_, rfl⟩
 rw [← hz] at hcell hs0 hs1 ⊢
 clear hz
 have a1 := taNoArray
 have a2 := lackSTypedef
 have a3 := @ta_yes _ _ Tryz.underlying196
 have a7 := hasSInt
 simp only [objAt, hpt]
 clear hpt hpj h hk hkj ho hbl
 go_enter Tryz.func59, Tryz.ntmps59
 go_wp2_with fail
 go_loopg [0, 4, 5, 12] 1 (fun gk s0 s4 s5 s12 wr => (gk = 1 ∧ s0 = .iface 196 (.pointer (some ⟨ob (t + 1), 0, none⟩)) ∧ s4 = .int .i64 1 ∧ s12 = .int .i64 0 ∧ wr = w) ∨ (gk = 0 ∧ s0 = .iface 151 (.pointer (some ⟨ob (j + 1), 0, none⟩)) ∧ s4 = .int .i64 1 ∧ s12 = .int .i64 1 ∧ ∃ d, wr = w.drewN d))
 case atStart => exact .inl ⟨rfl, rfl, rfl, rfl, rfl⟩
 case round =>
  obtain ⟨rfl, rfl, rfl, rfl, rfl⟩ | ⟨rfl, rfl, rfl, rfl, d, rfl⟩ := hrel
  ·go_wp2_with fail
   go_roundg 0
   case measure => omega
   case rel => exact .inr ⟨rfl, rfl, by go_num, by go_num, ⟨0, rfl⟩⟩
  ·have hcd : (w.drewN d).cell? ⟨ob (j + 1), 1, none⟩ = some (.int .u32 z) := hcell
   go_wp2_with fail
   refine (size_Int _ _ z hcd).mono ?_
   rintro e w9 ⟨rfl, rfl⟩
   go_wp2_with fail
   go_ret2
   exact ⟨by simp, below_drewN (Below.refl _ _) _⟩
theorem sizeof_Const (h : Outs w n f og pt ob) (ht : t < n) (hk : (f t).k = 10) {j : Nat} (hj : j < n) (ho : (f t).of = j + 1) (hkj : (f j).k = 1) (hs0 : 0 ≤ (f j).sz) (hs1 : (f j).sz ≤ 1000)  :
  Calls Tryz.prog 59 #[objAt pt ob t] w fun e w' => e = .returned (.tuple #[.int .i64 ((f j).sz), .nilIface]) ∧ Below w.heap.size w w' := by
 have hpt : pt (t + 1) = 202 := by
  obtain ⟨cs, cs0, ty, lo, hob, _, _⟩ := h.full t ht
  rcases hob.kinds with ⟨a, b⟩ | ⟨a, b⟩ | ⟨a, b⟩ | ⟨a, b⟩ | ⟨a, b⟩ | ⟨a, b⟩ | ⟨a, b⟩ | ⟨a, b⟩ <;> first | exact b | omega
 have hpj := (h.kindOf hj hkj).1 rfl
 have hcell := h.sizeCell hj (by omega)
 have hbl := (h.key ht)
 obtain ⟨cs, cs0, ty, lo, hob, hbk, hful⟩ := h.full t ht
 have hcs := hful.of10 hk
 rw [ho, hpj] at hcs
 have hc := hbk.cell 0
 rw [hcs] at hc
 simp only [List.getElem?_toArray, List.getElem?_cons_zero, List.getElem?_cons_succ] at hc
 clear hob hbk hful hcs
 obtain ⟨z, hz⟩ : ∃ z, z = (f j).sz := ⟨_, rfl⟩
 rw [← hz] at hcell hs0 hs1 ⊢
 clear hz
 have a1 := taNoArray
 have a2 := lackSConst
 have a3 := taNoTypedef
 have a4 := hasQ
 have a7 := hasSInt
 simp only [objAt, hpt]
 clear hpt hpj h hk hkj ho hbl
 go_enter Tryz.func59, Tryz.ntmps59
 go_wp2_with fail
 go_loopg [0, 4, 5, 12] 1 (fun gk s0 s4 s5 s12 wr => (gk = 1 ∧ s0 = .iface 202 (.pointer (some ⟨ob (t + 1), 0, none⟩)) ∧ s4 = .int .i64 1 ∧ s12 = .int .i64 0 ∧ wr = w) ∨ (gk = 0 ∧ s0 = .iface 151 (.pointer (some ⟨ob (j + 1), 0, none⟩)) ∧ s4 = .int .i64 1 ∧ s12 = .int .i64 1 ∧ ∃ d, wr = w.drewN d))
 case atStart => exact .inl ⟨rfl, rfl, rfl, rfl, rfl⟩
 case round =>
  obtain ⟨rfl, rfl, rfl, rfl, rfl⟩ | ⟨rfl, rfl, rfl, rfl, d, rfl⟩ := hrel
  ·go_wp2_with fail
   refine (qualify_any _ _ _ _ hc).mono ?_
   rintro e w9 ⟨rfl, rfl⟩
   go_wp2_with fail
   go_roundg 0
   case measure => omega
   case rel => exact .inr ⟨rfl, rfl, by go_num, by go_num, ⟨0, rfl⟩⟩
  ·have hcd : (w.drewN d).cell? ⟨ob (j + 1), 1, none⟩ = some (.int .u32 z) := hcell
   go_wp2_with fail
   refine (size_Int _ _ z hcd).mono ?_
   rintro e w9 ⟨rfl, rfl⟩
   go_wp2_with fail
   go_ret2
   exact ⟨by simp, below_drewN (Below.refl _ _) _⟩
theorem sizeof_Array (h : Outs w n f og pt ob) (ht : t < n) (hk : (f t).k = 3) {j : Nat} (hj : j < n) (ho : (f t).of = j + 1) (hkj : (f j).k = 1) (hs0 : 0 ≤ (f j).sz) (hs1 : (f j).sz ≤ 1000) (x : Nat) (hix : (f t).ix = x + 1) (hN0 : 0 < (f t).sz) (hN1 : (f t).sz ≤ 1000) :
  Calls Tryz.prog 59 #[objAt pt ob t] w fun e w' => e = .returned (.tuple #[.int .i64 ((f t).sz * (f j).sz), .nilIface]) ∧ Below w.heap.size w w' := by
 have hpt : pt (t + 1) = 167 := (h.kindOf ht hk).2.2.1 rfl
 have hpj := (h.kindOf hj hkj).1 rfl
 have hcell := h.sizeCell hj (by omega)
 have hbl := (h.key ht)
 obtain ⟨c0, c1, c2, _⟩ := h.arrCell ht hk ho hix
 have hc := c1
 simp only [objAt, hpj] at hc
 obtain ⟨N, hN⟩ : ∃ N, N = (f t).sz := ⟨_, rfl⟩
 rw [← hN] at c2 hN0 hN1 ⊢
 clear hN c0 c1
 obtain ⟨z, hz⟩ : ∃ z, z = (f j).sz := ⟨_, rfl⟩
 rw [← hz] at hcell hs0 hs1 ⊢
 clear hz
 have a1 := taNoArray
 have a3 := @ta_yes _ _ Tryz.underlying167
 have a7 := hasSInt
 simp only [objAt, hpt]
 clear hpt hpj h hk hkj ho hbl
 go_enter Tryz.func59, Tryz.ntmps59
 go_wp2_with fail
 go_loopg [0, 4, 5, 12] 1 (fun gk s0 s4 s5 s12 wr => (gk = 1 ∧ s0 = .iface 167 (.pointer (some ⟨ob (t + 1), 0, none⟩)) ∧ s4 = .int .i64 1 ∧ s12 = .int .i64 0 ∧ wr = w) ∨ (gk = 0 ∧ s0 = .iface 151 (.pointer (some ⟨ob (j + 1), 0, none⟩)) ∧ s4 = .int .i64 N ∧ s12 = .int .i64 1 ∧ ∃ d, wr = w.drewN d))
 case atStart => exact .inl ⟨rfl, rfl, rfl, rfl, rfl⟩
 case round =>
  obtain ⟨rfl, rfl, rfl, rfl, rfl⟩ | ⟨rfl, rfl, rfl, rfl, d, rfl⟩ := hrel
  ·go_wp2_with fail
   go_quiet (fail)
   go_wp2_with fail
   go_roundg 0
   case measure => omega
   case rel => exact .inr ⟨rfl, rfl, by go_num, by go_num, ⟨_, rfl⟩⟩
  ·have hcd : (w.drewN d).cell? ⟨ob (j + 1), 1, none⟩ = some (.int .u32 z) := hcell
   have hp : z * N ≤ 1000 * 1000 := Int.mul_le_mul hs1 hN1 (by omega) (by omega)
   have hp0 : 0 ≤ z * N := Int.mul_nonneg hs0 (by omega)
   rw [Int.mul_comm] at hp hp0
   have hq : z ≤ 9223372036854775807 / N := (Int.le_ediv_iff_mul_le hN0).2 (by rw [Int.mul_comm]; omega)
   have hw : wrap64 (N * z) = N * z := IntWalk.wrap64_in _ (by omega)
   go_wp2_with fail
   refine (size_Int _ _ z hcd).mono ?_
   rintro e w9 ⟨rfl, rfl⟩
   go_wp2_with fail
   go_ret2
   exact ⟨by simp, below_drewN (Below.refl _ _) _⟩
end
abbrev fixV (k a b : Int) (p s : Bool) : Value := .agg #[.int .u32 k, .int .u64 a, .int .u64 b, .bool p, .bool s]
theorem fixup_any (w : World) (rb cb : Nat) (k a b : Int) (hr : w.cell? ⟨rb, 0, none⟩ = some (.pointer (some ⟨cb, 0, none⟩))) (hk : w.cell? ⟨cb, 2, none⟩ = some (.int .u32 k)) :
  Calls Tryz.prog 53 #[.int .u64 a, .int .u64 b, .pointer (some ⟨rb, 0, none⟩)] w fun e w' => e = .returned (.tuple #[fixV k a b false false, .nilIface]) ∧ Below w.heap.size w w' := by
 have l1 := World.block_lt_of_cell? w _ hr
 have l2 := World.block_lt_of_cell? w _ hk
 simp only at l1 l2
 go_enter Tryz.func53, Tryz.ntmps53
 go_wp2_with fail
 refine bodyPost_ret (v := .tuple #[fixV k a b false false, .nilIface]) ?_ rfl ⟨rfl, (Below.refl _ _).alloc (Nat.le_refl _) _⟩
 rw [results_cell_tmp rfl]
 go_simp
def exB (k : Int) : Bool := k == 10 || k == 8 || k == 2 || k == 12
theorem exists_any (w : World) (k : Int) (h0 : 0 ≤ k) (h1 : k ≤ 12) : Calls Tryz.prog 56 #[.int .u32 k] w fun e w' => e = .returned (.bool (exB k)) ∧ w' = w := by
 rcases (by omega : k = 0 ∨ k = 1 ∨ k = 2 ∨ k = 3 ∨ k = 4 ∨ k = 5 ∨ k = 6 ∨ k = 7 ∨ k = 8 ∨ k = 9 ∨ k = 10 ∨ k = 11 ∨ k = 12) with rfl | rfl | rfl | rfl | rfl | rfl | rfl | rfl | rfl | rfl | rfl | rfl | rfl
 all_goals
  go_enter Tryz.func56, Tryz.ntmps56
  go_wp2_with fail
  go_ret
  exact ⟨rfl, rfl⟩
def poiV (k : Int) : Value := if exB k then fixV k 1 0 false false else fixV k 0 0 true false
theorem poison_any (w : World) (rb fb cb : Nat) (k : Int) (h0 : 0 ≤ k) (h1 : k ≤ 12) (hr : w.cell? ⟨rb, 0, none⟩ = some (.pointer (some ⟨cb, 0, none⟩))) (hk : w.cell? ⟨cb, 2, none⟩ = some (.int .u32 k))
  (hf : w.cell? ⟨fb, 0, none⟩ = some (.func (.func 53) #[] #[.pointer (some ⟨rb, 0, none⟩)])) :
  Calls Tryz.prog 55 #[.pointer (some ⟨rb, 0, none⟩), .pointer (some ⟨fb, 0, none⟩)] w fun e w' => e = .returned (.tuple #[poiV k, .nilIface]) ∧ Below w.heap.size w w' := by
 have l1 := World.block_lt_of_cell? w _ hr
 have l2 := World.block_lt_of_cell? w _ hk
 have l3 := World.block_lt_of_cell? w _ hf
 simp only at l1 l2 l3
 unfold poiV
 have hal := (Below.refl w.heap.size w).alloc (Nat.le_refl _) (.cells #[.int .u32 0, .int .u64 0, .int .u64 0, .bool false, .bool false] 106)
 have hr2 := (hal.cell (p := ⟨rb, 0, none⟩) l1).trans hr
 have hk2 := (hal.cell (p := ⟨cb, 2, none⟩) l2).trans hk
 cases hb : exB k with
 | true =>
  rw [if_pos rfl]
  go_enter Tryz.func55, Tryz.ntmps55
  go_wp2_with fail
  refine (exists_any _ k h0 h1).mono ?_
  rintro e w9 ⟨rfl, rfl⟩
  rw [hb]
  go_wp2_with fail
  refine (fixup_any _ rb cb k 1 0 hr2 hk2).mono ?_
  rintro e w9 ⟨rfl, hb9⟩
  have hbk9 := (Blk.new w #[.int .u32 0, .int .u64 0, .int .u64 0, .bool false, .bool false] 106).old hb9
  obtain ⟨c0, c1, c2, c3, c4⟩ := hbk9.five
  have g0 := hbk9.free 0
  have g1 := hbk9.free 1
  have g2 := hbk9.free 2
  have g3 := hbk9.free 3
  have g4 := hbk9.free 4
  go_wp2_with fail
  refine bodyPost_ret (v := .tuple #[fixV k 1 0 false false, .nilIface]) ?_ rfl ⟨rfl, ?_⟩
  ·rw [results_cell_tmp rfl]
   go_simp
  ·exact (((((hal.trans (hb9.mono (by simp))).setCell (Nat.le_refl _) _).setCell (Nat.le_refl _) _).setCell (Nat.le_refl _) _).setCell (Nat.le_refl _) _).setCell (Nat.le_refl _) _
 | false =>
  rw [if_neg (by simp)]
  go_enter Tryz.func55, Tryz.ntmps55
  go_wp2_with fail
  refine (exists_any _ k h0 h1).mono ?_
  rintro e w9 ⟨rfl, rfl⟩
  rw [hb]
  go_wp2_with fail
  refine bodyPost_ret (v := .tuple #[fixV k 0 0 true false, .nilIface]) ?_ rfl ⟨rfl, (Below.refl _ _).alloc (Nat.le_refl _) _⟩
  rw [results_cell_tmp rfl]
  go_simp
end Go.Proofs.YtfilbgmbmlmdbaaGreatDoor
