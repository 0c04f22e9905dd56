/- The sizes of built types: the package's own function. Nothing is claimed here. -/
import Derived.Test.YtfilbgmbmlmdbaaGreatDoorRelF
namespace Go.Proofs.YtfilbgmbmlmdbaaGreatDoor
open Go.RowKit Go.MapKept

set_option maxRecDepth 100000 in
set_option maxHeartbeats 2000000 in
theorem size_Int (w : World) (b : Nat) (z : Int) (h : w.cell? ⟨b, 1, none⟩ = some (.int .u32 z)) : Calls Tryz.prog 130 #[.pointer (some ⟨b, 0, none⟩)] w fun e w' => e = .returned (.int .u32 z) ∧ w' = w := by
  go_enter Tryz.func130, Tryz.ntmps130
  go_wp2
  go_ret
  exact ⟨rfl, rfl⟩
set_option maxRecDepth 100000 in
set_option maxHeartbeats 2000000 in
theorem size_Pointer (w : World) (v : Value) : Calls Tryz.prog 142 #[v] w fun e w' => e = .returned (.int .u32 8) ∧ w' = w := by
  go_enter Tryz.func142, Tryz.ntmps142
  go_wp2
  go_ret
  exact ⟨rfl, rfl⟩
set_option maxRecDepth 100000 in
set_option maxHeartbeats 2000000 in
theorem size_Struct (w : World) (b : Nat) (z : Int) (h : w.cell? ⟨b, 1, none⟩ = some (.int .u32 z)) : Calls Tryz.prog 135 #[.pointer (some ⟨b, 0, none⟩)] w fun e w' => e = .returned (.int .u32 z) ∧ w' = w := by
  go_enter Tryz.func135, Tryz.ntmps135
  go_wp2
  go_ret
  exact ⟨rfl, rfl⟩
set_option maxRecDepth 100000 in
set_option maxHeartbeats 2000000 in
theorem size_Union (w : World) (b : Nat) (z : Int) (h : w.cell? ⟨b, 1, none⟩ = some (.int .u32 z)) : Calls Tryz.prog 139 #[.pointer (some ⟨b, 0, none⟩)] w fun e w' => e = .returned (.int .u32 z) ∧ w' = w := by
  go_enter Tryz.func139, Tryz.ntmps139
  go_wp2
  go_ret
  exact ⟨rfl, rfl⟩
set_option maxRecDepth 100000 in
set_option maxHeartbeats 2000000 in
theorem size_Enum (w : World) (b : Nat) (z : Int) (h : w.cell? ⟨b, 1, none⟩ = some (.int .u32 z)) : Calls Tryz.prog 92 #[.pointer (some ⟨b, 0, none⟩)] w fun e w' => e = .returned (.int .u32 z) ∧ w' = w := by
  go_enter Tryz.func92, Tryz.ntmps92
  go_wp2
  go_ret
  exact ⟨rfl, rfl⟩
theorem hasSInt (v : Value) (W : World) : (Instr.typeAssert (.iface 151 v) 77 236 true).run Tryz.prog W = .ok (.tuple #[.iface 151 v, .bool true]) W := run_typeAssert_hasB Tryz.underlying236 (by kernel_rfl) v _ W
theorem hasSPointer (v : Value) (W : World) : (Instr.typeAssert (.iface 164 v) 77 236 true).run Tryz.prog W = .ok (.tuple #[.iface 164 v, .bool true]) W := run_typeAssert_hasB Tryz.underlying236 (by kernel_rfl) v _ W
theorem hasSStruct (v : Value) (W : World) : (Instr.typeAssert (.iface 162 v) 77 236 true).run Tryz.prog W = .ok (.tuple #[.iface 162 v, .bool true]) W := run_typeAssert_hasB Tryz.underlying236 (by kernel_rfl) v _ W
theorem hasSUnion (v : Value) (W : World) : (Instr.typeAssert (.iface 163 v) 77 236 true).run Tryz.prog W = .ok (.tuple #[.iface 163 v, .bool true]) W := run_typeAssert_hasB Tryz.underlying236 (by kernel_rfl) v _ W
theorem hasSEnum (v : Value) (W : World) : (Instr.typeAssert (.iface 144 v) 77 236 true).run Tryz.prog W = .ok (.tuple #[.iface 144 v, .bool true]) W := run_typeAssert_hasB Tryz.underlying236 (by kernel_rfl) v _ W
theorem lackSTypedef (v : Value) (W : World) : (Instr.typeAssert (.iface 196 v) 77 236 true).run Tryz.prog W = .ok (.tuple #[.nilIface, .bool false]) W := run_typeAssert_lacksB Tryz.underlying236 (by kernel_rfl) (by kernel_rfl) v _ W
theorem lackSConst (v : Value) (W : World) : (Instr.typeAssert (.iface 202 v) 77 236 true).run Tryz.prog W = .ok (.tuple #[.nilIface, .bool false]) W := run_typeAssert_lacksB Tryz.underlying236 (by kernel_rfl) (by kernel_rfl) v _ W
section
variable {w : World} {n og t : Nat} {f : Nat → RowD} {pt : Nat → TypeId} {ob : Nat → Nat}
theorem Outs.sizeCell (h : Outs w n f og pt ob) {i : Nat} (hi : i < n) (hk : (f i).k = 1 ∨ (f i).k = 4 ∨ (f i).k = 5 ∨ (f i).k = 6) : w.cell? ⟨ob (i + 1), 1, none⟩ = some (.int .u32 (f i).sz) := by
  obtain ⟨cs, cs0, ty, lo, hob, hbk, hful⟩ := h.full i hi
  have e : cs[1]? = some (.int .u32 (f i).sz) := by
    generalize (f i).k = k at hful hk
    cases hful <;> first | rfl | omega
  rw [← e]
  exact hbk.cell 1

set_option linter.unusedSimpArgs false in
set_option maxRecDepth 100000 in
set_option maxHeartbeats 4000000 in
theorem sizeof_Int (h : Outs w n f og pt ob) (ht : t < n) (hk : (f t).k = 1) (hs0 : 0 ≤ (f t).sz) (hs1 : (f t).sz < 4294967296) :
    Calls Tryz.prog 59 #[objAt pt ob t] w fun e w' => e = .returned (.tuple #[.int .i64 (f t).sz, .nilIface]) ∧ Below w.heap.size w w' := by
  have hpt := (h.kindOf ht hk).1 rfl
  have hcell := h.sizeCell ht (by omega)
  obtain ⟨z, hz⟩ : ∃ z, z = (f t).sz := ⟨_, rfl⟩
  rw [← hz] at hcell hs0 hs1 ⊢
  clear hz
  have a1 := taNoArray 151 (by decide)
  have a2 := hasSInt
  simp only [objAt, hpt]
  clear hpt h hk
  go_enter Tryz.func59, Tryz.ntmps59
  go_wp2_with fail
  go_loopg [0, 4, 5, 12] 0 (fun gk s0 s4 s5 s12 wr => s0 = .iface 151 (.pointer (some ⟨ob (t + 1), 0, none⟩)) ∧ s4 = .int .i64 1 ∧ s12 = .int .i64 0 ∧ wr = w)
  case atStart => exact ⟨rfl, rfl, rfl, rfl⟩
  case round =>
    obtain ⟨rfl, rfl, rfl, rfl⟩ := hrel
    go_wp2_with fail
    refine (size_Int _ _ z hcell).mono ?_
    rintro e w9 ⟨rfl, rfl⟩
    go_wp2_with fail
    go_ret2
    exact ⟨rfl, Below.refl _ _⟩
set_option linter.unusedSimpArgs false in
set_option maxRecDepth 100000 in
set_option maxHeartbeats 4000000 in
theorem sizeof_Pointer (h : Outs w n f og pt ob) (ht : t < n) (hk : (f t).k = 2) :
    Calls Tryz.prog 59 #[objAt pt ob t] w fun e w' => e = .returned (.tuple #[.int .i64 8, .nilIface]) ∧ Below w.heap.size w w' := by
  have hpt := (h.kindOf ht hk).2.1 rfl
  have a1 := taNoArray 164 (by decide)
  have a2 := hasSPointer
  simp only [objAt, hpt]
  clear hpt h hk
  go_enter Tryz.func59, Tryz.ntmps59
  go_wp2_with fail
  go_loopg [0, 4, 5, 12] 0 (fun gk s0 s4 s5 s12 wr => s0 = .iface 164 (.pointer (some ⟨ob (t + 1), 0, none⟩)) ∧ s4 = .int .i64 1 ∧ s12 = .int .i64 0 ∧ wr = w)
  case atStart => exact ⟨rfl, rfl, rfl, rfl⟩
  case round =>
    obtain ⟨rfl, rfl, rfl, rfl⟩ := hrel
    go_wp2_with fail
    refine (size_Pointer _ _).mono ?_
    rintro e w9 ⟨rfl, rfl⟩
    go_wp2_with fail
    go_ret2
    exact ⟨rfl, Below.refl _ _⟩
set_option linter.unusedSimpArgs false in
set_option maxRecDepth 100000 in
set_option maxHeartbeats 4000000 in
theorem sizeof_Struct (h : Outs w n f og pt ob) (ht : t < n) (hk : (f t).k = 4) (hs0 : 0 ≤ (f t).sz) (hs1 : (f t).sz < 4294967296) :
    Calls Tryz.prog 59 #[objAt pt ob t] w fun e w' => e = .returned (.tuple #[.int .i64 (f t).sz, .nilIface]) ∧ Below w.heap.size w w' := by
  have hpt := (h.kindOf ht hk).2.2.2.1 rfl
  have hcell := h.sizeCell ht (by omega)
  obtain ⟨z, hz⟩ : ∃ z, z = (f t).sz := ⟨_, rfl⟩
  rw [← hz] at hcell hs0 hs1 ⊢
  clear hz
  have a1 := taNoArray 162 (by decide)
  have a2 := hasSStruct
  simp only [objAt, hpt]
  clear hpt h hk
  go_enter Tryz.func59, Tryz.ntmps59
  go_wp2_with fail
  go_loopg [0, 4, 5, 12] 0 (fun gk s0 s4 s5 s12 wr => s0 = .iface 162 (.pointer (some ⟨ob (t + 1), 0, none⟩)) ∧ s4 = .int .i64 1 ∧ s12 = .int .i64 0 ∧ wr = w)
  case atStart => exact ⟨rfl, rfl, rfl, rfl⟩
  case round =>
    obtain ⟨rfl, rfl, rfl, rfl⟩ := hrel
    go_wp2_with fail
    refine (size_Struct _ _ z hcell).mono ?_
    rintro e w9 ⟨rfl, rfl⟩
    go_wp2_with fail
    go_ret2
    exact ⟨rfl, Below.refl _ _⟩
set_option linter.unusedSimpArgs false in
set_option maxRecDepth 100000 in
set_option maxHeartbeats 4000000 in
theorem sizeof_Union (h : Outs w n f og pt ob) (ht : t < n) (hk : (f t).k = 5) (hs0 : 0 ≤ (f t).sz) (hs1 : (f t).sz < 4294967296) :
    Calls Tryz.prog 59 #[objAt pt ob t] w fun e w' => e = .returned (.tuple #[.int .i64 (f t).sz, .nilIface]) ∧ Below w.heap.size w w' := by
  have hpt := (h.kindOf ht hk).2.2.2.2.1 rfl
  have hcell := h.sizeCell ht (by omega)
  obtain ⟨z, hz⟩ : ∃ z, z = (f t).sz := ⟨_, rfl⟩
  rw [← hz] at hcell hs0 hs1 ⊢
  clear hz
  have a1 := taNoArray 163 (by decide)
  have a2 := hasSUnion
  simp only [objAt, hpt]
  clear hpt h hk
  go_enter Tryz.func59, Tryz.ntmps59
  go_wp2_with fail
  go_loopg [0, 4, 5, 12] 0 (fun gk s0 s4 s5 s12 wr => s0 = .iface 163 (.pointer (some ⟨ob (t + 1), 0, none⟩)) ∧ s4 = .int .i64 1 ∧ s12 = .int .i64 0 ∧ wr = w)
  case atStart => exact ⟨rfl, rfl, rfl, rfl⟩
  case round =>
    obtain ⟨rfl, rfl, rfl, rfl⟩ := hrel
    go_wp2_with fail
    refine (size_Union _ _ z hcell).mono ?_
    rintro e w9 ⟨rfl, rfl⟩
    go_wp2_with fail
    go_ret2
    exact ⟨rfl, Below.refl _ _⟩
set_option linter.unusedSimpArgs false in
set_option maxRecDepth 100000 in
set_option maxHeartbeats 4000000 in
theorem sizeof_Enum (h : Outs w n f og pt ob) (ht : t < n) (hk : (f t).k = 6) (hs0 : 0 ≤ (f t).sz) (hs1 : (f t).sz < 4294967296) :
    Calls Tryz.prog 59 #[objAt pt ob t] w fun e w' => e = .returned (.tuple #[.int .i64 (f t).sz, .nilIface]) ∧ Below w.heap.size w w' := by
  have hpt := (h.kindOf ht hk).2.2.2.2.2 rfl
  have hcell := h.sizeCell ht (by omega)
  obtain ⟨z, hz⟩ : ∃ z, z = (f t).sz := ⟨_, rfl⟩
  rw [← hz] at hcell hs0 hs1 ⊢
  clear hz
  have a1 := taNoArray 144 (by decide)
  have a2 := hasSEnum
  simp only [objAt, hpt]
  clear hpt h hk
  go_enter Tryz.func59, Tryz.ntmps59
  go_wp2_with fail
  go_loopg [0, 4, 5, 12] 0 (fun gk s0 s4 s5 s12 wr => s0 = .iface 144 (.pointer (some ⟨ob (t + 1), 0, none⟩)) ∧ s4 = .int .i64 1 ∧ s12 = .int .i64 0 ∧ wr = w)
  case atStart => exact ⟨rfl, rfl, rfl, rfl⟩
  case round =>
    obtain ⟨rfl, rfl, rfl, rfl⟩ := hrel
    go_wp2_with fail
    refine (size_Enum _ _ z hcell).mono ?_
    rintro e w9 ⟨rfl, rfl⟩
    go_wp2_with fail
    go_ret2
    exact ⟨rfl, Below.refl _ _⟩
set_option linter.unusedSimpArgs false in
set_option maxRecDepth 100000 in
set_option maxHeartbeats 4000000 in
theorem sizeof_Typedef (h : Outs w n f og pt ob) (ht : t < n) (hk : (f t).k = 8) {j : Nat} (hj : j < n) (ho : (f t).of = j + 1) (hkj : (f j).k = 1) (hs0 : 0 ≤ (f j).sz) (hs1 : (f j).sz ≤ 1000)  :
    Calls Tryz.prog 59 #[objAt pt ob t] w fun e w' => e = .returned (.tuple #[.int .i64 ((f j).sz), .nilIface]) ∧ Below w.heap.size w w' := by
  have hpt : pt (t + 1) = 196 := by
    obtain ⟨cs, cs0, ty, lo, hob, _, _⟩ := h.full t ht
    rcases hob.kinds with ⟨a, b⟩ | ⟨a, b⟩ | ⟨a, b⟩ | ⟨a, b⟩ | ⟨a, b⟩ | ⟨a, b⟩ | ⟨a, b⟩ | ⟨a, b⟩ <;> first | exact b | omega
  have hpj := (h.kindOf hj hkj).1 rfl
  have hcell := h.sizeCell hj (by omega)
  have hbl := (h.key ht)
  obtain ⟨cs, cs0, ty, lo, hob, hbk, hful⟩ := h.full t ht
  have hcs := hful.of8 hk
  rw [ho, hpj] at hcs
  have hc := hbk.cell 1
  rw [hcs] at hc
  simp only [List.getElem?_toArray, List.getElem?_cons_zero, List.getElem?_cons_succ] at hc
  clear hob hbk hful hcs
  obtain ⟨z, hz⟩ : ∃ z, z = (f j).sz := ⟨_, rfl⟩
  rw [← hz] at hcell hs0 hs1 ⊢
  clear hz
  have a1 := taNoArray
  have a2 := lackSTypedef
  have a3 := @ta_yes _ _ Tryz.underlying196
  have a7 := hasSInt
  simp only [objAt, hpt]
  clear hpt hpj h hk hkj ho hbl
  go_enter Tryz.func59, Tryz.ntmps59
  go_wp2_with fail
  go_loopg [0, 4, 5, 12] 1 (fun gk s0 s4 s5 s12 wr => (gk = 1 ∧ s0 = .iface 196 (.pointer (some ⟨ob (t + 1), 0, none⟩)) ∧ s4 = .int .i64 1 ∧ s12 = .int .i64 0 ∧ wr = w) ∨ (gk = 0 ∧ s0 = .iface 151 (.pointer (some ⟨ob (j + 1), 0, none⟩)) ∧ s4 = .int .i64 1 ∧ s12 = .int .i64 1 ∧ ∃ d, wr = w.drewN d))
  case atStart => exact .inl ⟨rfl, rfl, rfl, rfl, rfl⟩
  case round =>
    obtain ⟨rfl, rfl, rfl, rfl, rfl⟩ | ⟨rfl, rfl, rfl, rfl, d, rfl⟩ := hrel
    · go_wp2_with fail
      go_roundg 0
      case measure => omega
      case rel => exact .inr ⟨rfl, rfl, by go_num, by go_num, ⟨0, rfl⟩⟩
    · have hcd : (w.drewN d).cell? ⟨ob (j + 1), 1, none⟩ = some (.int .u32 z) := hcell
      go_wp2_with fail
      refine (size_Int _ _ z hcd).mono ?_
      rintro e w9 ⟨rfl, rfl⟩
      go_wp2_with fail
      go_ret2
      exact ⟨by simp, below_drewN (Below.refl _ _) _⟩
set_option linter.unusedSimpArgs false in
set_option maxRecDepth 100000 in
set_option maxHeartbeats 4000000 in
theorem sizeof_Const (h : Outs w n f og pt ob) (ht : t < n) (hk : (f t).k = 10) {j : Nat} (hj : j < n) (ho : (f t).of = j + 1) (hkj : (f j).k = 1) (hs0 : 0 ≤ (f j).sz) (hs1 : (f j).sz ≤ 1000)  :
    Calls Tryz.prog 59 #[objAt pt ob t] w fun e w' => e = .returned (.tuple #[.int .i64 ((f j).sz), .nilIface]) ∧ Below w.heap.size w w' := by
  have hpt : pt (t + 1) = 202 := by
    obtain ⟨cs, cs0, ty, lo, hob, _, _⟩ := h.full t ht
    rcases hob.kinds with ⟨a, b⟩ | ⟨a, b⟩ | ⟨a, b⟩ | ⟨a, b⟩ | ⟨a, b⟩ | ⟨a, b⟩ | ⟨a, b⟩ | ⟨a, b⟩ <;> first | exact b | omega
  have hpj := (h.kindOf hj hkj).1 rfl
  have hcell := h.sizeCell hj (by omega)
  have hbl := (h.key ht)
  obtain ⟨cs, cs0, ty, lo, hob, hbk, hful⟩ := h.full t ht
  have hcs := hful.of10 hk
  rw [ho, hpj] at hcs
  have hc := hbk.cell 0
  rw [hcs] at hc
  simp only [List.getElem?_toArray, List.getElem?_cons_zero, List.getElem?_cons_succ] at hc
  clear hob hbk hful hcs
  obtain ⟨z, hz⟩ : ∃ z, z = (f j).sz := ⟨_, rfl⟩
  rw [← hz] at hcell hs0 hs1 ⊢
  clear hz
  have a1 := taNoArray
  have a2 := lackSConst
  have a3 := taNoTypedef
  have a4 := hasQ
  have a7 := hasSInt
  simp only [objAt, hpt]
  clear hpt hpj h hk hkj ho hbl
  go_enter Tryz.func59, Tryz.ntmps59
  go_wp2_with fail
  go_loopg [0, 4, 5, 12] 1 (fun gk s0 s4 s5 s12 wr => (gk = 1 ∧ s0 = .iface 202 (.pointer (some ⟨ob (t + 1), 0, none⟩)) ∧ s4 = .int .i64 1 ∧ s12 = .int .i64 0 ∧ wr = w) ∨ (gk = 0 ∧ s0 = .iface 151 (.pointer (some ⟨ob (j + 1), 0, none⟩)) ∧ s4 = .int .i64 1 ∧ s12 = .int .i64 1 ∧ ∃ d, wr = w.drewN d))
  case atStart => exact .inl ⟨rfl, rfl, rfl, rfl, rfl⟩
  case round =>
    obtain ⟨rfl, rfl, rfl, rfl, rfl⟩ | ⟨rfl, rfl, rfl, rfl, d, rfl⟩ := hrel
    · go_wp2_with fail
      refine (qualify_any _ _ _ _ hc).mono ?_
      rintro e w9 ⟨rfl, rfl⟩
      go_wp2_with fail
      go_roundg 0
      case measure => omega
      case rel => exact .inr ⟨rfl, rfl, by go_num, by go_num, ⟨0, rfl⟩⟩
    · have hcd : (w.drewN d).cell? ⟨ob (j + 1), 1, none⟩ = some (.int .u32 z) := hcell
      go_wp2_with fail
      refine (size_Int _ _ z hcd).mono ?_
      rintro e w9 ⟨rfl, rfl⟩
      go_wp2_with fail
      go_ret2
      exact ⟨by simp, below_drewN (Below.refl _ _) _⟩
set_option linter.unusedSimpArgs false in
set_option maxRecDepth 100000 in
set_option maxHeartbeats 4000000 in
theorem sizeof_Array (h : Outs w n f og pt ob) (ht : t < n) (hk : (f t).k = 3) {j : Nat} (hj : j < n) (ho : (f t).of = j + 1) (hkj : (f j).k = 1) (hs0 : 0 ≤ (f j).sz) (hs1 : (f j).sz ≤ 1000) (x : Nat) (hix : (f t).ix = x + 1) (hN0 : 0 < (f t).sz) (hN1 : (f t).sz ≤ 1000) :
    Calls Tryz.prog 59 #[objAt pt ob t] w fun e w' => e = .returned (.tuple #[.int .i64 ((f t).sz * (f j).sz), .nilIface]) ∧ Below w.heap.size w w' := by
  have hpt : pt (t + 1) = 167 := (h.kindOf ht hk).2.2.1 rfl
  have hpj := (h.kindOf hj hkj).1 rfl
  have hcell := h.sizeCell hj (by omega)
  have hbl := (h.key ht)
  obtain ⟨c0, c1, c2, _⟩ := h.arrCell ht hk ho hix
  have hc := c1
  simp only [objAt, hpj] at hc
  obtain ⟨N, hN⟩ : ∃ N, N = (f t).sz := ⟨_, rfl⟩
  rw [← hN] at c2 hN0 hN1 ⊢
  clear hN c0 c1
  obtain ⟨z, hz⟩ : ∃ z, z = (f j).sz := ⟨_, rfl⟩
  rw [← hz] at hcell hs0 hs1 ⊢
  clear hz
  have a1 := taNoArray
  have a3 := @ta_yes _ _ Tryz.underlying167
  have a7 := hasSInt
  simp only [objAt, hpt]
  clear hpt hpj h hk hkj ho hbl
  go_enter Tryz.func59, Tryz.ntmps59
  go_wp2_with fail
  go_loopg [0, 4, 5, 12] 1 (fun gk s0 s4 s5 s12 wr => (gk = 1 ∧ s0 = .iface 167 (.pointer (some ⟨ob (t + 1), 0, none⟩)) ∧ s4 = .int .i64 1 ∧ s12 = .int .i64 0 ∧ wr = w) ∨ (gk = 0 ∧ s0 = .iface 151 (.pointer (some ⟨ob (j + 1), 0, none⟩)) ∧ s4 = .int .i64 N ∧ s12 = .int .i64 1 ∧ ∃ d, wr = w.drewN d))
  case atStart => exact .inl ⟨rfl, rfl, rfl, rfl, rfl⟩
  case round =>
    obtain ⟨rfl, rfl, rfl, rfl, rfl⟩ | ⟨rfl, rfl, rfl, rfl, d, rfl⟩ := hrel
    · go_wp2_with fail
      go_quiet (fail)
      go_wp2_with fail
      go_roundg 0
      case measure => omega
      case rel => exact .inr ⟨rfl, rfl, by go_num, by go_num, ⟨_, rfl⟩⟩
    · have hcd : (w.drewN d).cell? ⟨ob (j + 1), 1, none⟩ = some (.int .u32 z) := hcell
      have hp : z * N ≤ 1000 * 1000 := Int.mul_le_mul hs1 hN1 (by omega) (by omega)
      have hp0 : 0 ≤ z * N := Int.mul_nonneg hs0 (by omega)
      rw [Int.mul_comm] at hp hp0
      have hq : z ≤ 9223372036854775807 / N := (Int.le_ediv_iff_mul_le hN0).2 (by rw [Int.mul_comm]; omega)
      have hw : wrap64 (N * z) = N * z := IntWalk.wrap64_in _ (by omega)
      go_wp2_with fail
      refine (size_Int _ _ z hcd).mono ?_
      rintro e w9 ⟨rfl, rfl⟩
      go_wp2_with fail
      go_ret2
      exact ⟨by simp, below_drewN (Below.refl _ _) _⟩
end
end Go.Proofs.YtfilbgmbmlmdbaaGreatDoor
