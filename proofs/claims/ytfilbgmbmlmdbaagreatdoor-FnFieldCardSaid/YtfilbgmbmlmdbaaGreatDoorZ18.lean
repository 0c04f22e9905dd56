/- Whether types match, by the package's own rule: joined. Nothing is claimed here. -/
import Derived.Test.YtfilbgmbmlmdbaaGreatDoorZ17
import Derived.Test.YtfilbgmbmlmdbaaGreatDoorZ14
import Derived.Test.YtfilbgmbmlmdbaaGreatDoorZ09
import Derived.Test.YtfilbgmbmlmdbaaGreatDoorZ10
set_option linter.unusedSimpArgs false
set_option linter.unusedVariables false
set_option maxRecDepth 1000000
set_option maxHeartbeats 16000000
namespace Go.Proofs.YtfilbgmbmlmdbaaGreatDoor
open Go.RowKit Go.MapKept
structure Refs (n : Nat) (f : Nat → RowD) : Prop where
 of_ : ∀ i, i < n → (f i).of ≤ n
 ix_ : ∀ i, i < n → (f i).ix ≤ n
 mem : ∀ i, i < n → ∀ j, j < (f i).q → ∀ nm (o : Nat) a b v, PRow (f i).ys j nm (.int .i64 (o : Int)) a b v → o ≤ n
theorem refs_of {w : World} {D : Nat → Prop} {xs : List Value} {n : Nat} {f : Nat → RowD} (hf : ∀ i, i < n → FitsD w D xs n i (f i)) : Refs n f := by
 refine ⟨fun i hi => (hf i hi).hof, fun i hi => (hf i hi).hix, fun i hi j hj nm o a b v hp => ?_⟩
 obtain ⟨nm', o', a', b', v', hp', ho, _⟩ := (hf i hi).mem j hj
 have e := (hp.uniq2 hp').2
 simp only [Value.int.injEq, true_and] at e
 omega
section
variable {w : World} {n og i : Nat} {f : Nat → RowD} {pt : Nat → TypeId} {ob : Nat → Nat}
theorem Outs.intC (h : Outs w n f og pt ob) (hi : i < n) {sz : Nat} {sg : Bool} {nm : ByteArray} (r : RT f i (.int sz sg nm)) :
  pt (i + 1) = 151 ∧ w.cell? ⟨ob (i + 1), 0, none⟩ = some (.string nm) ∧ w.cell? ⟨ob (i + 1), 1, none⟩ = some (.int .u32 (sz : Int)) ∧ w.cell? ⟨ob (i + 1), 2, none⟩ = some (.int .u8 (if sg then 1 else 0)) := by
 obtain ⟨cs, cs0, ty, lo, hob, hbk, hful⟩ := h.full i hi
 cases r with
 | int hk hn hs he =>
  refine ⟨(h.kindOf hi hk).1 rfl, ?_⟩
  rw [hk, hn, hs, he] at hful
  cases hful with
  | str hk' _ _ => omega
  | int => exact ⟨hbk.cell 0, hbk.cell 1, hbk.cell 2⟩
theorem Outs.enmC (h : Outs w n f og pt ob) (hi : i < n) {q : Nat} {nm : ByteArray} {sg : Bool} {vn : Nat → ByteArray} {vv : Nat → Int} (r : RT f i (.enm nm sg q vn vv)) :
  pt (i + 1) = 144 ∧ w.cell? ⟨ob (i + 1), 0, none⟩ = some (.string nm) ∧ w.cell? ⟨ob (i + 1), 1, none⟩ = some (.int .u32 4) := by
 obtain ⟨cs, cs0, ty, lo, hob, hbk, hful⟩ := h.full i hi
 cases r with
 | enm hk hn hs hl hqq hr =>
  refine ⟨(h.kindOf hi hk).2.2.2.2.2 rfl, ?_⟩
  rw [hk, hn, hs] at hful
  cases hful with
  | str hk' _ _ => omega
  | enm ho he => exact ⟨hbk.cell 0, hbk.cell 1⟩
end
end Go.Proofs.YtfilbgmbmlmdbaaGreatDoor
namespace Go.Proofs.YtfilbgmbmlmdbaaGreatDoor
open Go.RowKit
theorem asLackCInt (v : Value) (W : World) : (Instr.typeAssert (.iface 151 v) 77 177 true).run Tryz.prog W = .ok (.tuple #[.nilIface, .bool false]) W := run_typeAssert_lacksB Tryz.underlying177 (by kernel_rfl) (by kernel_rfl) v _ W
theorem asLackCPointer (v : Value) (W : World) : (Instr.typeAssert (.iface 164 v) 77 177 true).run Tryz.prog W = .ok (.tuple #[.nilIface, .bool false]) W := run_typeAssert_lacksB Tryz.underlying177 (by kernel_rfl) (by kernel_rfl) v _ W
theorem asLackCArray (v : Value) (W : World) : (Instr.typeAssert (.iface 167 v) 77 177 true).run Tryz.prog W = .ok (.tuple #[.nilIface, .bool false]) W := run_typeAssert_lacksB Tryz.underlying177 (by kernel_rfl) (by kernel_rfl) v _ W
theorem asHasCStruct (v : Value) (W : World) : (Instr.typeAssert (.iface 162 v) 77 177 true).run Tryz.prog W = .ok (.tuple #[.iface 162 v, .bool true]) W := run_typeAssert_hasB Tryz.underlying177 (by kernel_rfl) v _ W
theorem asHasCUnion (v : Value) (W : World) : (Instr.typeAssert (.iface 163 v) 77 177 true).run Tryz.prog W = .ok (.tuple #[.iface 163 v, .bool true]) W := run_typeAssert_hasB Tryz.underlying177 (by kernel_rfl) v _ W
theorem asLackCEnum (v : Value) (W : World) : (Instr.typeAssert (.iface 144 v) 77 177 true).run Tryz.prog W = .ok (.tuple #[.nilIface, .bool false]) W := run_typeAssert_lacksB Tryz.underlying177 (by kernel_rfl) (by kernel_rfl) v _ W
theorem asLackCTypedef (v : Value) (W : World) : (Instr.typeAssert (.iface 196 v) 77 177 true).run Tryz.prog W = .ok (.tuple #[.nilIface, .bool false]) W := run_typeAssert_lacksB Tryz.underlying177 (by kernel_rfl) (by kernel_rfl) v _ W
theorem asLackCConst (v : Value) (W : World) : (Instr.typeAssert (.iface 202 v) 77 177 true).run Tryz.prog W = .ok (.tuple #[.nilIface, .bool false]) W := run_typeAssert_lacksB Tryz.underlying177 (by kernel_rfl) (by kernel_rfl) v _ W
theorem As_Array (w : World) (n og t : Nat) (f : Nat → RowD) (pt : Nat → TypeId) (ob : Nat → Nat) (h : Outs w n f og pt ob) (ht : t < n) (hpl : (f t).k = 8 ∨ (f t).k = 10 → ∃ j, j < n ∧ (f t).of = j + 1 ∧ (f j).k = 1) :
  Calls Tryz.prog 85 #[.iface (pt (t + 1)) (.pointer (some ⟨ob (t + 1), 0, none⟩))] w fun e w' => w' = w ∧ (match asRow 3 f t with
   | some r => r < n ∧ pt (r + 1) = 167 ∧ e = .returned (.tuple #[.pointer (some ⟨ob (r + 1), 0, none⟩), .bool true])
   | none => e = .returned (.tuple #[.pointer none, .bool false])) := by
 obtain ⟨cs, cs0, ty, lo, hob, hbk, hful⟩ := h.full t ht
 rcases hob.kinds with ⟨hk, hp⟩ | ⟨hk, hp⟩ | ⟨hk, hp⟩ | ⟨hk, hp⟩ | ⟨hk, hp⟩ | ⟨hk, hp⟩ | ⟨hk, hp⟩ | ⟨hk, hp⟩
 ·have hr : asRow 3 f t = none := by unfold asRow; rw [if_neg (by omega), if_neg (by omega)]
  rw [hr]
  rw [hp]
  have fan := taNoArray 151 (by decide)
  have faq := lackQInt
  have fad := taNoTypedef 151 (by decide)
  go_enter Tryz.func85, Tryz.ntmps85
  go_wp2_with fail
  refine wp_scope_jumps 0 (fun a w' => w' = w ∧ ∃ u0 u1 u2 u3 u4 u5 u6 u7 u8 u9 u10 u11 u12 u13 u14 u15 u16 u17 u18 u19 u20 u21 u22 u23 u24 u25 u26 u27 u28 u29 u30 u31 : Value, a = ⟨#[u0, u1, u2, u3, u4, u5, u6, u7, u8, u9, u10, u11, u12, u13, u14, u15, u16, u17, u18, u19, u20, u21, u22, u23, u24, u25, u26, u27, u28, u29, u30, u31], []⟩) (fun _ _ => 0) rfl ?_ ?_
  ·go_wp2_with fail
   go_loopg [0, 4] 1 (fun gk s0 s4 wr => s0 = .iface 151 (.pointer (some ⟨ob (t + 1), 0, none⟩)) ∧ s4 = .int .i64 0 ∧ wr = w)
   case atStart => exact ⟨rfl, rfl, rfl⟩
   case round =>
    obtain ⟨rfl, rfl, rfl⟩ := hrel
    go_wp2_with fail
    go_step3
    simp only [Exit.inBlock, Exit.then]
    exact ⟨rfl, rfl, _, _, _, _, _, _, _, _, _, _, _, _, _, _, _, _, _, _, _, _, _, _, _, _, _, _, _, _, _, _, _, _, rfl⟩
  ·rintro a w' ⟨rfl, u0, u1, u2, u3, u4, u5, u6, u7, u8, u9, u10, u11, u12, u13, u14, u15, u16, u17, u18, u19, u20, u21, u22, u23, u24, u25, u26, u27, u28, u29, u30, u31, rfl⟩
   go_wp2_with fail
   simp only [jump_ret]
   go_ret2
   exact ⟨rfl, rfl⟩
 ·have hr : asRow 3 f t = none := by unfold asRow; rw [if_neg (by omega), if_neg (by omega)]
  rw [hr]
  rw [hp]
  have fan := taNoArray 164 (by decide)
  have faq := lackQPointer
  have fad := taNoTypedef 164 (by decide)
  go_enter Tryz.func85, Tryz.ntmps85
  go_wp2_with fail
  refine wp_scope_jumps 0 (fun a w' => w' = w ∧ ∃ u0 u1 u2 u3 u4 u5 u6 u7 u8 u9 u10 u11 u12 u13 u14 u15 u16 u17 u18 u19 u20 u21 u22 u23 u24 u25 u26 u27 u28 u29 u30 u31 : Value, a = ⟨#[u0, u1, u2, u3, u4, u5, u6, u7, u8, u9, u10, u11, u12, u13, u14, u15, u16, u17, u18, u19, u20, u21, u22, u23, u24, u25, u26, u27, u28, u29, u30, u31], []⟩) (fun _ _ => 0) rfl ?_ ?_
  ·go_wp2_with fail
   go_loopg [0, 4] 1 (fun gk s0 s4 wr => s0 = .iface 164 (.pointer (some ⟨ob (t + 1), 0, none⟩)) ∧ s4 = .int .i64 0 ∧ wr = w)
   case atStart => exact ⟨rfl, rfl, rfl⟩
   case round =>
    obtain ⟨rfl, rfl, rfl⟩ := hrel
    go_wp2_with fail
    go_step3
    simp only [Exit.inBlock, Exit.then]
    exact ⟨rfl, rfl, _, _, _, _, _, _, _, _, _, _, _, _, _, _, _, _, _, _, _, _, _, _, _, _, _, _, _, _, _, _, _, _, rfl⟩
  ·rintro a w' ⟨rfl, u0, u1, u2, u3, u4, u5, u6, u7, u8, u9, u10, u11, u12, u13, u14, u15, u16, u17, u18, u19, u20, u21, u22, u23, u24, u25, u26, u27, u28, u29, u30, u31, rfl⟩
   go_wp2_with fail
   simp only [jump_ret]
   go_ret2
   exact ⟨rfl, rfl⟩
 ·have hr : asRow 3 f t = some t := if_pos hk
  rw [hr]
  rw [hp]
  have fay := @ta_yes _ _ Tryz.underlying167
  go_enter Tryz.func85, Tryz.ntmps85
  go_wp2_with fail
  go_step3
  go_wp2_with fail
  go_loopg [0, 4] 1 (fun gk s0 s4 wr => s0 = .iface 167 (.pointer (some ⟨ob (t + 1), 0, none⟩)) ∧ s4 = .int .i64 0 ∧ wr = w)
  case atStart => exact ⟨rfl, rfl, rfl⟩
  case round =>
   obtain ⟨rfl, rfl, rfl⟩ := hrel
   go_wp2_with fail
   simp only [Exit.noGoto_ret]
   go_ret2
   exact ⟨rfl, ht, hp, rfl⟩
 ·have hr : asRow 3 f t = none := by unfold asRow; rw [if_neg (by omega), if_neg (by omega)]
  rw [hr]
  rw [hp]
  have fan := taNoArray 162 (by decide)
  have faq := lackQStruct
  have fad := taNoTypedef 162 (by decide)
  go_enter Tryz.func85, Tryz.ntmps85
  go_wp2_with fail
  refine wp_scope_jumps 0 (fun a w' => w' = w ∧ ∃ u0 u1 u2 u3 u4 u5 u6 u7 u8 u9 u10 u11 u12 u13 u14 u15 u16 u17 u18 u19 u20 u21 u22 u23 u24 u25 u26 u27 u28 u29 u30 u31 : Value, a = ⟨#[u0, u1, u2, u3, u4, u5, u6, u7, u8, u9, u10, u11, u12, u13, u14, u15, u16, u17, u18, u19, u20, u21, u22, u23, u24, u25, u26, u27, u28, u29, u30, u31], []⟩) (fun _ _ => 0) rfl ?_ ?_
  ·go_wp2_with fail
   go_loopg [0, 4] 1 (fun gk s0 s4 wr => s0 = .iface 162 (.pointer (some ⟨ob (t + 1), 0, none⟩)) ∧ s4 = .int .i64 0 ∧ wr = w)
   case atStart => exact ⟨rfl, rfl, rfl⟩
   case round =>
    obtain ⟨rfl, rfl, rfl⟩ := hrel
    go_wp2_with fail
    go_step3
    simp only [Exit.inBlock, Exit.then]
    exact ⟨rfl, rfl, _, _, _, _, _, _, _, _, _, _, _, _, _, _, _, _, _, _, _, _, _, _, _, _, _, _, _, _, _, _, _, _, rfl⟩
  ·rintro a w' ⟨rfl, u0, u1, u2, u3, u4, u5, u6, u7, u8, u9, u10, u11, u12, u13, u14, u15, u16, u17, u18, u19, u20, u21, u22, u23, u24, u25, u26, u27, u28, u29, u30, u31, rfl⟩
   go_wp2_with fail
   simp only [jump_ret]
   go_ret2
   exact ⟨rfl, rfl⟩
 ·have hr : asRow 3 f t = none := by unfold asRow; rw [if_neg (by omega), if_neg (by omega)]
  rw [hr]
  rw [hp]
  have fan := taNoArray 163 (by decide)
  have faq := lackQUnion
  have fad := taNoTypedef 163 (by decide)
  go_enter Tryz.func85, Tryz.ntmps85
  go_wp2_with fail
  refine wp_scope_jumps 0 (fun a w' => w' = w ∧ ∃ u0 u1 u2 u3 u4 u5 u6 u7 u8 u9 u10 u11 u12 u13 u14 u15 u16 u17 u18 u19 u20 u21 u22 u23 u24 u25 u26 u27 u28 u29 u30 u31 : Value, a = ⟨#[u0, u1, u2, u3, u4, u5, u6, u7, u8, u9, u10, u11, u12, u13, u14, u15, u16, u17, u18, u19, u20, u21, u22, u23, u24, u25, u26, u27, u28, u29, u30, u31], []⟩) (fun _ _ => 0) rfl ?_ ?_
  ·go_wp2_with fail
   go_loopg [0, 4] 1 (fun gk s0 s4 wr => s0 = .iface 163 (.pointer (some ⟨ob (t + 1), 0, none⟩)) ∧ s4 = .int .i64 0 ∧ wr = w)
   case atStart => exact ⟨rfl, rfl, rfl⟩
   case round =>
    obtain ⟨rfl, rfl, rfl⟩ := hrel
    go_wp2_with fail
    go_step3
    simp only [Exit.inBlock, Exit.then]
    exact ⟨rfl, rfl, _, _, _, _, _, _, _, _, _, _, _, _, _, _, _, _, _, _, _, _, _, _, _, _, _, _, _, _, _, _, _, _, rfl⟩
  ·rintro a w' ⟨rfl, u0, u1, u2, u3, u4, u5, u6, u7, u8, u9, u10, u11, u12, u13, u14, u15, u16, u17, u18, u19, u20, u21, u22, u23, u24, u25, u26, u27, u28, u29, u30, u31, rfl⟩
   go_wp2_with fail
   simp only [jump_ret]
   go_ret2
   exact ⟨rfl, rfl⟩
 ·have hr : asRow 3 f t = none := by unfold asRow; rw [if_neg (by omega), if_neg (by omega)]
  rw [hr]
  rw [hp]
  have fan := taNoArray 144 (by decide)
  have faq := lackQEnum
  have fad := taNoTypedef 144 (by decide)
  go_enter Tryz.func85, Tryz.ntmps85
  go_wp2_with fail
  refine wp_scope_jumps 0 (fun a w' => w' = w ∧ ∃ u0 u1 u2 u3 u4 u5 u6 u7 u8 u9 u10 u11 u12 u13 u14 u15 u16 u17 u18 u19 u20 u21 u22 u23 u24 u25 u26 u27 u28 u29 u30 u31 : Value, a = ⟨#[u0, u1, u2, u3, u4, u5, u6, u7, u8, u9, u10, u11, u12, u13, u14, u15, u16, u17, u18, u19, u20, u21, u22, u23, u24, u25, u26, u27, u28, u29, u30, u31], []⟩) (fun _ _ => 0) rfl ?_ ?_
  ·go_wp2_with fail
   go_loopg [0, 4] 1 (fun gk s0 s4 wr => s0 = .iface 144 (.pointer (some ⟨ob (t + 1), 0, none⟩)) ∧ s4 = .int .i64 0 ∧ wr = w)
   case atStart => exact ⟨rfl, rfl, rfl⟩
   case round =>
    obtain ⟨rfl, rfl, rfl⟩ := hrel
    go_wp2_with fail
    go_step3
    simp only [Exit.inBlock, Exit.then]
    exact ⟨rfl, rfl, _, _, _, _, _, _, _, _, _, _, _, _, _, _, _, _, _, _, _, _, _, _, _, _, _, _, _, _, _, _, _, _, rfl⟩
  ·rintro a w' ⟨rfl, u0, u1, u2, u3, u4, u5, u6, u7, u8, u9, u10, u11, u12, u13, u14, u15, u16, u17, u18, u19, u20, u21, u22, u23, u24, u25, u26, u27, u28, u29, u30, u31, rfl⟩
   go_wp2_with fail
   simp only [jump_ret]
   go_ret2
   exact ⟨rfl, rfl⟩
 ·obtain ⟨j, hjn, hof, hkj⟩ := hpl (.inl hk)
  obtain ⟨csj, csj0, tyj, loj, hobj, hbkj, _⟩ := h.full j hjn
  have hpj : pt (j + 1) = 151 := by rcases hobj.kinds with ⟨e, e2⟩ | ⟨e, e2⟩ | ⟨e, e2⟩ | ⟨e, e2⟩ | ⟨e, e2⟩ | ⟨e, e2⟩ | ⟨e, e2⟩ | ⟨e, e2⟩ <;> first | exact e2 | (rw [hkj] at e; omega)
  have hcs := hful.of8 hk
  rw [hof, hpj] at hcs
  subst hcs
  have hcell := hbk.cell 1
  simp only [List.getElem?_toArray, List.getElem?_cons_zero, List.getElem?_cons_succ] at hcell
  have hlt := hbk.lt
  have hr : asRow 3 f t = none := by unfold asRow; rw [if_neg (by omega), if_neg (by omega)]
  rw [hr]
  rw [hp]
  have fan := taNoArray 196 (by decide)
  have faq := lackQTypedef
  have fad := @ta_yes _ _ Tryz.underlying196
  have fbn := taNoArray 151 (by decide)
  have fbq := lackQInt
  have fbd := taNoTypedef 151 (by decide)
  go_enter Tryz.func85, Tryz.ntmps85
  go_wp2_with fail
  refine wp_scope_jumps 0 (fun a w' => w' = w ∧ ∃ u0 u1 u2 u3 u4 u5 u6 u7 u8 u9 u10 u11 u12 u13 u14 u15 u16 u17 u18 u19 u20 u21 u22 u23 u24 u25 u26 u27 u28 u29 u30 u31 : Value, a = ⟨#[u0, u1, u2, u3, u4, u5, u6, u7, u8, u9, u10, u11, u12, u13, u14, u15, u16, u17, u18, u19, u20, u21, u22, u23, u24, u25, u26, u27, u28, u29, u30, u31], []⟩) (fun _ _ => 0) rfl ?_ ?_
  ·go_wp2_with fail
   go_loopg [0, 4] 1 (fun gk s0 s4 wr => wr = w ∧ ((gk = 1 ∧ s0 = .iface 196 (.pointer (some ⟨ob (t + 1), 0, none⟩)) ∧ s4 = .int .i64 0) ∨ (gk = 0 ∧ s0 = .iface 151 (.pointer (some ⟨ob (j + 1), 0, none⟩)) ∧ s4 = .int .i64 1)))
   case atStart => exact ⟨rfl, .inl ⟨rfl, rfl, rfl⟩⟩
   case round =>
    obtain ⟨rfl, ⟨rfl, rfl, rfl⟩ | ⟨rfl, rfl, rfl⟩⟩ := hrel
    ·go_wp2_with fail
     go_roundg 0
     case measure => omega
     case rel => exact ⟨rfl, .inr ⟨rfl, rfl, by go_num⟩⟩
    ·go_wp2_with fail
     go_step3
     simp only [Exit.inBlock, Exit.then]
     exact ⟨rfl, rfl, _, _, _, _, _, _, _, _, _, _, _, _, _, _, _, _, _, _, _, _, _, _, _, _, _, _, _, _, _, _, _, _, rfl⟩
  ·rintro a w' ⟨rfl, u0, u1, u2, u3, u4, u5, u6, u7, u8, u9, u10, u11, u12, u13, u14, u15, u16, u17, u18, u19, u20, u21, u22, u23, u24, u25, u26, u27, u28, u29, u30, u31, rfl⟩
   go_wp2_with fail
   simp only [jump_ret]
   go_ret2
   exact ⟨rfl, rfl⟩
 ·obtain ⟨j, hjn, hof, hkj⟩ := hpl (.inr hk)
  obtain ⟨csj, csj0, tyj, loj, hobj, hbkj, _⟩ := h.full j hjn
  have hpj : pt (j + 1) = 151 := by rcases hobj.kinds with ⟨e, e2⟩ | ⟨e, e2⟩ | ⟨e, e2⟩ | ⟨e, e2⟩ | ⟨e, e2⟩ | ⟨e, e2⟩ | ⟨e, e2⟩ | ⟨e, e2⟩ <;> first | exact e2 | (rw [hkj] at e; omega)
  have hcs := hful.of10 hk
  rw [hof, hpj] at hcs
  subst hcs
  have hcell := hbk.cell 0
  simp only [List.getElem?_toArray, List.getElem?_cons_zero, List.getElem?_cons_succ] at hcell
  have hlt := hbk.lt
  have hr : asRow 3 f t = none := by unfold asRow; rw [if_neg (by omega), if_neg (by omega)]
  rw [hr]
  rw [hp]
  have fan := taNoArray 202 (by decide)
  have faq := hasQ
  have fad := taNoTypedef 202 (by decide)
  have fbn := taNoArray 151 (by decide)
  have fbq := lackQInt
  have fbd := taNoTypedef 151 (by decide)
  go_enter Tryz.func85, Tryz.ntmps85
  go_wp2_with fail
  refine wp_scope_jumps 0 (fun a w' => w' = w ∧ ∃ u0 u1 u2 u3 u4 u5 u6 u7 u8 u9 u10 u11 u12 u13 u14 u15 u16 u17 u18 u19 u20 u21 u22 u23 u24 u25 u26 u27 u28 u29 u30 u31 : Value, a = ⟨#[u0, u1, u2, u3, u4, u5, u6, u7, u8, u9, u10, u11, u12, u13, u14, u15, u16, u17, u18, u19, u20, u21, u22, u23, u24, u25, u26, u27, u28, u29, u30, u31], []⟩) (fun _ _ => 0) rfl ?_ ?_
  ·go_wp2_with fail
   go_loopg [0, 4] 1 (fun gk s0 s4 wr => wr = w ∧ ((gk = 1 ∧ s0 = .iface 202 (.pointer (some ⟨ob (t + 1), 0, none⟩)) ∧ s4 = .int .i64 0) ∨ (gk = 0 ∧ s0 = .iface 151 (.pointer (some ⟨ob (j + 1), 0, none⟩)) ∧ s4 = .int .i64 1)))
   case atStart => exact ⟨rfl, .inl ⟨rfl, rfl, rfl⟩⟩
   case round =>
    obtain ⟨rfl, ⟨rfl, rfl, rfl⟩ | ⟨rfl, rfl, rfl⟩⟩ := hrel
    ·go_wp2_with fail
     refine (qualify_any _ _ _ _ hcell).mono ?_
     rintro e w1 ⟨rfl, rfl⟩
     go_wp2_with fail
     go_roundg 0
     case measure => omega
     case rel => exact ⟨rfl, .inr ⟨rfl, rfl, by go_num⟩⟩
    ·go_wp2_with fail
     go_step3
     simp only [Exit.inBlock, Exit.then]
     exact ⟨rfl, rfl, _, _, _, _, _, _, _, _, _, _, _, _, _, _, _, _, _, _, _, _, _, _, _, _, _, _, _, _, _, _, _, _, rfl⟩
  ·rintro a w' ⟨rfl, u0, u1, u2, u3, u4, u5, u6, u7, u8, u9, u10, u11, u12, u13, u14, u15, u16, u17, u18, u19, u20, u21, u22, u23, u24, u25, u26, u27, u28, u29, u30, u31, rfl⟩
   go_wp2_with fail
   simp only [jump_ret]
   go_ret2
   exact ⟨rfl, rfl⟩
theorem As_Fwd (w : World) (n og t : Nat) (f : Nat → RowD) (pt : Nat → TypeId) (ob : Nat → Nat) (h : Outs w n f og pt ob) (ht : t < n) (hpl : (f t).k = 8 ∨ (f t).k = 10 → ∃ j, j < n ∧ (f t).of = j + 1 ∧ (f j).k = 1) (hsm : (f t).k = 4 ∨ (f t).k = 5) :
  Calls Tryz.prog 61 #[.iface (pt (t + 1)) (.pointer (some ⟨ob (t + 1), 0, none⟩))] w fun e w' => w' = w ∧ (match asRow 7 f t with
   | some r => r < n ∧ pt (r + 1) = 132 ∧ e = .returned (.tuple #[.pointer (some ⟨ob (r + 1), 0, none⟩), .bool true])
   | none => e = .returned (.tuple #[.pointer none, .bool false])) := by
 obtain ⟨cs, cs0, ty, lo, hob, hbk, hful⟩ := h.full t ht
 rcases hob.kinds with ⟨hk, hp⟩ | ⟨hk, hp⟩ | ⟨hk, hp⟩ | ⟨hk, hp⟩ | ⟨hk, hp⟩ | ⟨hk, hp⟩ | ⟨hk, hp⟩ | ⟨hk, hp⟩
 ·omega
 ·omega
 ·omega
 ·have hr : asRow 7 f t = none := by unfold asRow; rw [if_neg (by omega), if_neg (by omega)]
  rw [hr]
  rw [hp]
  have fan := taNoFwd 162 (by decide)
  have faq := lackQStruct
  have fad := taNoTypedef 162 (by decide)
  go_enter Tryz.func61, Tryz.ntmps61
  go_wp2_with fail
  refine wp_scope_jumps 0 (fun a w' => w' = w ∧ ∃ u0 u1 u2 u3 u4 u5 u6 u7 u8 u9 u10 u11 u12 u13 u14 u15 u16 u17 u18 u19 u20 u21 u22 u23 u24 u25 u26 u27 u28 u29 u30 u31 : Value, a = ⟨#[u0, u1, u2, u3, u4, u5, u6, u7, u8, u9, u10, u11, u12, u13, u14, u15, u16, u17, u18, u19, u20, u21, u22, u23, u24, u25, u26, u27, u28, u29, u30, u31], []⟩) (fun _ _ => 0) rfl ?_ ?_
  ·go_wp2_with fail
   go_loopg [0, 4] 1 (fun gk s0 s4 wr => s0 = .iface 162 (.pointer (some ⟨ob (t + 1), 0, none⟩)) ∧ s4 = .int .i64 0 ∧ wr = w)
   case atStart => exact ⟨rfl, rfl, rfl⟩
   case round =>
    obtain ⟨rfl, rfl, rfl⟩ := hrel
    go_wp2_with fail
    go_step3
    simp only [Exit.inBlock, Exit.then]
    exact ⟨rfl, rfl, _, _, _, _, _, _, _, _, _, _, _, _, _, _, _, _, _, _, _, _, _, _, _, _, _, _, _, _, _, _, _, _, rfl⟩
  ·rintro a w' ⟨rfl, u0, u1, u2, u3, u4, u5, u6, u7, u8, u9, u10, u11, u12, u13, u14, u15, u16, u17, u18, u19, u20, u21, u22, u23, u24, u25, u26, u27, u28, u29, u30, u31, rfl⟩
   go_wp2_with fail
   simp only [jump_ret]
   go_ret2
   exact ⟨rfl, rfl⟩
 ·have hr : asRow 7 f t = none := by unfold asRow; rw [if_neg (by omega), if_neg (by omega)]
  rw [hr]
  rw [hp]
  have fan := taNoFwd 163 (by decide)
  have faq := lackQUnion
  have fad := taNoTypedef 163 (by decide)
  go_enter Tryz.func61, Tryz.ntmps61
  go_wp2_with fail
  refine wp_scope_jumps 0 (fun a w' => w' = w ∧ ∃ u0 u1 u2 u3 u4 u5 u6 u7 u8 u9 u10 u11 u12 u13 u14 u15 u16 u17 u18 u19 u20 u21 u22 u23 u24 u25 u26 u27 u28 u29 u30 u31 : Value, a = ⟨#[u0, u1, u2, u3, u4, u5, u6, u7, u8, u9, u10, u11, u12, u13, u14, u15, u16, u17, u18, u19, u20, u21, u22, u23, u24, u25, u26, u27, u28, u29, u30, u31], []⟩) (fun _ _ => 0) rfl ?_ ?_
  ·go_wp2_with fail
   go_loopg [0, 4] 1 (fun gk s0 s4 wr => s0 = .iface 163 (.pointer (some ⟨ob (t + 1), 0, none⟩)) ∧ s4 = .int .i64 0 ∧ wr = w)
   case atStart => exact ⟨rfl, rfl, rfl⟩
   case round =>
    obtain ⟨rfl, rfl, rfl⟩ := hrel
    go_wp2_with fail
    go_step3
    simp only [Exit.inBlock, Exit.then]
    exact ⟨rfl, rfl, _, _, _, _, _, _, _, _, _, _, _, _, _, _, _, _, _, _, _, _, _, _, _, _, _, _, _, _, _, _, _, _, rfl⟩
  ·rintro a w' ⟨rfl, u0, u1, u2, u3, u4, u5, u6, u7, u8, u9, u10, u11, u12, u13, u14, u15, u16, u17, u18, u19, u20, u21, u22, u23, u24, u25, u26, u27, u28, u29, u30, u31, rfl⟩
   go_wp2_with fail
   simp only [jump_ret]
   go_ret2
   exact ⟨rfl, rfl⟩
 ·omega
 ·omega
 ·omega
theorem As_Comp (w : World) (n og t : Nat) (f : Nat → RowD) (pt : Nat → TypeId) (ob : Nat → Nat) (h : Outs w n f og pt ob) (ht : t < n) (hpl : (f t).k = 8 ∨ (f t).k = 10 → ∃ j, j < n ∧ (f t).of = j + 1 ∧ (f j).k = 1) :
  Calls Tryz.prog 81 #[.iface (pt (t + 1)) (.pointer (some ⟨ob (t + 1), 0, none⟩))] w fun e w' => w' = w ∧ e = .returned (if (f t).k = 4 ∨ (f t).k = 5 then .tuple #[.iface (pt (t + 1)) (.pointer (some ⟨ob (t + 1), 0, none⟩)), .bool true] else .tuple #[.nilIface, .bool false]) := by
 obtain ⟨cs, cs0, ty, lo, hob, hbk, hful⟩ := h.full t ht
 rcases hob.kinds with ⟨hk, hp⟩ | ⟨hk, hp⟩ | ⟨hk, hp⟩ | ⟨hk, hp⟩ | ⟨hk, hp⟩ | ⟨hk, hp⟩ | ⟨hk, hp⟩ | ⟨hk, hp⟩
 ·skip
  rw [if_neg (show ¬ ((f t).k = 4 ∨ (f t).k = 5) by omega)]
  rw [hp]
  have fan := asLackCInt
  have faq := lackQInt
  have fad := taNoTypedef 151 (by decide)
  go_enter Tryz.func81, Tryz.ntmps81
  go_wp2_with fail
  refine wp_scope_jumps 0 (fun a w' => w' = w ∧ ∃ u0 u1 u2 u3 u4 u5 u6 u7 u8 u9 u10 u11 u12 u13 u14 u15 u16 u17 u18 u19 u20 u21 u22 u23 u24 u25 u26 u27 u28 u29 u30 u31 : Value, a = ⟨#[u0, u1, u2, u3, u4, u5, u6, u7, u8, u9, u10, u11, u12, u13, u14, u15, u16, u17, u18, u19, u20, u21, u22, u23, u24, u25, u26, u27, u28, u29, u30, u31], []⟩) (fun _ _ => 0) rfl ?_ ?_
  ·go_wp2_with fail
   go_loopg [0, 4] 1 (fun gk s0 s4 wr => s0 = .iface 151 (.pointer (some ⟨ob (t + 1), 0, none⟩)) ∧ s4 = .int .i64 0 ∧ wr = w)
   case atStart => exact ⟨rfl, rfl, rfl⟩
   case round =>
    obtain ⟨rfl, rfl, rfl⟩ := hrel
    go_wp2_with fail
    go_step3
    simp only [Exit.inBlock, Exit.then]
    exact ⟨rfl, rfl, _, _, _, _, _, _, _, _, _, _, _, _, _, _, _, _, _, _, _, _, _, _, _, _, _, _, _, _, _, _, _, _, rfl⟩
  ·rintro a w' ⟨rfl, u0, u1, u2, u3, u4, u5, u6, u7, u8, u9, u10, u11, u12, u13, u14, u15, u16, u17, u18, u19, u20, u21, u22, u23, u24, u25, u26, u27, u28, u29, u30, u31, rfl⟩
   go_wp2_with fail
   simp only [jump_ret]
   go_ret2
   exact ⟨rfl, rfl⟩
 ·skip
  rw [if_neg (show ¬ ((f t).k = 4 ∨ (f t).k = 5) by omega)]
  rw [hp]
  have fan := asLackCPointer
  have faq := lackQPointer
  have fad := taNoTypedef 164 (by decide)
  go_enter Tryz.func81, Tryz.ntmps81
  go_wp2_with fail
  refine wp_scope_jumps 0 (fun a w' => w' = w ∧ ∃ u0 u1 u2 u3 u4 u5 u6 u7 u8 u9 u10 u11 u12 u13 u14 u15 u16 u17 u18 u19 u20 u21 u22 u23 u24 u25 u26 u27 u28 u29 u30 u31 : Value, a = ⟨#[u0, u1, u2, u3, u4, u5, u6, u7, u8, u9, u10, u11, u12, u13, u14, u15, u16, u17, u18, u19, u20, u21, u22, u23, u24, u25, u26, u27, u28, u29, u30, u31], []⟩) (fun _ _ => 0) rfl ?_ ?_
  ·go_wp2_with fail
   go_loopg [0, 4] 1 (fun gk s0 s4 wr => s0 = .iface 164 (.pointer (some ⟨ob (t + 1), 0, none⟩)) ∧ s4 = .int .i64 0 ∧ wr = w)
   case atStart => exact ⟨rfl, rfl, rfl⟩
   case round =>
    obtain ⟨rfl, rfl, rfl⟩ := hrel
    go_wp2_with fail
    go_step3
    simp only [Exit.inBlock, Exit.then]
    exact ⟨rfl, rfl, _, _, _, _, _, _, _, _, _, _, _, _, _, _, _, _, _, _, _, _, _, _, _, _, _, _, _, _, _, _, _, _, rfl⟩
  ·rintro a w' ⟨rfl, u0, u1, u2, u3, u4, u5, u6, u7, u8, u9, u10, u11, u12, u13, u14, u15, u16, u17, u18, u19, u20, u21, u22, u23, u24, u25, u26, u27, u28, u29, u30, u31, rfl⟩
   go_wp2_with fail
   simp only [jump_ret]
   go_ret2
   exact ⟨rfl, rfl⟩
 ·skip
  rw [if_neg (show ¬ ((f t).k = 4 ∨ (f t).k = 5) by omega)]
  rw [hp]
  have fan := asLackCArray
  have faq := lackQArray
  have fad := taNoTypedef 167 (by decide)
  go_enter Tryz.func81, Tryz.ntmps81
  go_wp2_with fail
  refine wp_scope_jumps 0 (fun a w' => w' = w ∧ ∃ u0 u1 u2 u3 u4 u5 u6 u7 u8 u9 u10 u11 u12 u13 u14 u15 u16 u17 u18 u19 u20 u21 u22 u23 u24 u25 u26 u27 u28 u29 u30 u31 : Value, a = ⟨#[u0, u1, u2, u3, u4, u5, u6, u7, u8, u9, u10, u11, u12, u13, u14, u15, u16, u17, u18, u19, u20, u21, u22, u23, u24, u25, u26, u27, u28, u29, u30, u31], []⟩) (fun _ _ => 0) rfl ?_ ?_
  ·go_wp2_with fail
   go_loopg [0, 4] 1 (fun gk s0 s4 wr => s0 = .iface 167 (.pointer (some ⟨ob (t + 1), 0, none⟩)) ∧ s4 = .int .i64 0 ∧ wr = w)
   case atStart => exact ⟨rfl, rfl, rfl⟩
   case round =>
    obtain ⟨rfl, rfl, rfl⟩ := hrel
    go_wp2_with fail
    go_step3
    simp only [Exit.inBlock, Exit.then]
    exact ⟨rfl, rfl, _, _, _, _, _, _, _, _, _, _, _, _, _, _, _, _, _, _, _, _, _, _, _, _, _, _, _, _, _, _, _, _, rfl⟩
  ·rintro a w' ⟨rfl, u0, u1, u2, u3, u4, u5, u6, u7, u8, u9, u10, u11, u12, u13, u14, u15, u16, u17, u18, u19, u20, u21, u22, u23, u24, u25, u26, u27, u28, u29, u30, u31, rfl⟩
   go_wp2_with fail
   simp only [jump_ret]
   go_ret2
   exact ⟨rfl, rfl⟩
 ·skip
  rw [if_pos (show (f t).k = 4 ∨ (f t).k = 5 by omega)]
  rw [hp]
  have fan := asHasCStruct
  go_enter Tryz.func81, Tryz.ntmps81
  go_wp2_with fail
  go_step3
  go_wp2_with fail
  go_loopg [0, 4] 1 (fun gk s0 s4 wr => s0 = .iface 162 (.pointer (some ⟨ob (t + 1), 0, none⟩)) ∧ s4 = .int .i64 0 ∧ wr = w)
  case atStart => exact ⟨rfl, rfl, rfl⟩
  case round =>
   obtain ⟨rfl, rfl, rfl⟩ := hrel
   go_wp2_with fail
   simp only [Exit.noGoto_ret]
   go_ret2
   exact ⟨rfl, rfl⟩
 ·skip
  rw [if_pos (show (f t).k = 4 ∨ (f t).k = 5 by omega)]
  rw [hp]
  have fan := asHasCUnion
  go_enter Tryz.func81, Tryz.ntmps81
  go_wp2_with fail
  go_step3
  go_wp2_with fail
  go_loopg [0, 4] 1 (fun gk s0 s4 wr => s0 = .iface 163 (.pointer (some ⟨ob (t + 1), 0, none⟩)) ∧ s4 = .int .i64 0 ∧ wr = w)
  case atStart => exact ⟨rfl, rfl, rfl⟩
  case round =>
   obtain ⟨rfl, rfl, rfl⟩ := hrel
   go_wp2_with fail
   simp only [Exit.noGoto_ret]
   go_ret2
   exact ⟨rfl, rfl⟩
 ·skip
  rw [if_neg (show ¬ ((f t).k = 4 ∨ (f t).k = 5) by omega)]
  rw [hp]
  have fan := asLackCEnum
  have faq := lackQEnum
  have fad := taNoTypedef 144 (by decide)
  go_enter Tryz.func81, Tryz.ntmps81
  go_wp2_with fail
  refine wp_scope_jumps 0 (fun a w' => w' = w ∧ ∃ u0 u1 u2 u3 u4 u5 u6 u7 u8 u9 u10 u11 u12 u13 u14 u15 u16 u17 u18 u19 u20 u21 u22 u23 u24 u25 u26 u27 u28 u29 u30 u31 : Value, a = ⟨#[u0, u1, u2, u3, u4, u5, u6, u7, u8, u9, u10, u11, u12, u13, u14, u15, u16, u17, u18, u19, u20, u21, u22, u23, u24, u25, u26, u27, u28, u29, u30, u31], []⟩) (fun _ _ => 0) rfl ?_ ?_
  ·go_wp2_with fail
   go_loopg [0, 4] 1 (fun gk s0 s4 wr => s0 = .iface 144 (.pointer (some ⟨ob (t + 1), 0, none⟩)) ∧ s4 = .int .i64 0 ∧ wr = w)
   case atStart => exact ⟨rfl, rfl, rfl⟩
   case round =>
    obtain ⟨rfl, rfl, rfl⟩ := hrel
    go_wp2_with fail
    go_step3
    simp only [Exit.inBlock, Exit.then]
    exact ⟨rfl, rfl, _, _, _, _, _, _, _, _, _, _, _, _, _, _, _, _, _, _, _, _, _, _, _, _, _, _, _, _, _, _, _, _, rfl⟩
  ·rintro a w' ⟨rfl, u0, u1, u2, u3, u4, u5, u6, u7, u8, u9, u10, u11, u12, u13, u14, u15, u16, u17, u18, u19, u20, u21, u22, u23, u24, u25, u26, u27, u28, u29, u30, u31, rfl⟩
   go_wp2_with fail
   simp only [jump_ret]
   go_ret2
   exact ⟨rfl, rfl⟩
 ·obtain ⟨j, hjn, hof, hkj⟩ := hpl (.inl hk)
  obtain ⟨csj, csj0, tyj, loj, hobj, hbkj, _⟩ := h.full j hjn
  have hpj : pt (j + 1) = 151 := by rcases hobj.kinds with ⟨e, e2⟩ | ⟨e, e2⟩ | ⟨e, e2⟩ | ⟨e, e2⟩ | ⟨e, e2⟩ | ⟨e, e2⟩ | ⟨e, e2⟩ | ⟨e, e2⟩ <;> first | exact e2 | (rw [hkj] at e; omega)
  have hcs := hful.of8 hk
  rw [hof, hpj] at hcs
  subst hcs
  have hcell := hbk.cell 1
  simp only [List.getElem?_toArray, List.getElem?_cons_zero, List.getElem?_cons_succ] at hcell
  have hlt := hbk.lt
  rw [if_neg (show ¬ ((f t).k = 4 ∨ (f t).k = 5) by omega)]
  rw [hp]
  have fan := asLackCTypedef
  have faq := lackQTypedef
  have fad := @ta_yes _ _ Tryz.underlying196
  have fbn := asLackCInt
  have fbq := lackQInt
  have fbd := taNoTypedef 151 (by decide)
  go_enter Tryz.func81, Tryz.ntmps81
  go_wp2_with fail
  refine wp_scope_jumps 0 (fun a w' => w' = w ∧ ∃ u0 u1 u2 u3 u4 u5 u6 u7 u8 u9 u10 u11 u12 u13 u14 u15 u16 u17 u18 u19 u20 u21 u22 u23 u24 u25 u26 u27 u28 u29 u30 u31 : Value, a = ⟨#[u0, u1, u2, u3, u4, u5, u6, u7, u8, u9, u10, u11, u12, u13, u14, u15, u16, u17, u18, u19, u20, u21, u22, u23, u24, u25, u26, u27, u28, u29, u30, u31], []⟩) (fun _ _ => 0) rfl ?_ ?_
  ·go_wp2_with fail
   go_loopg [0, 4] 1 (fun gk s0 s4 wr => wr = w ∧ ((gk = 1 ∧ s0 = .iface 196 (.pointer (some ⟨ob (t + 1), 0, none⟩)) ∧ s4 = .int .i64 0) ∨ (gk = 0 ∧ s0 = .iface 151 (.pointer (some ⟨ob (j + 1), 0, none⟩)) ∧ s4 = .int .i64 1)))
   case atStart => exact ⟨rfl, .inl ⟨rfl, rfl, rfl⟩⟩
   case round =>
    obtain ⟨rfl, ⟨rfl, rfl, rfl⟩ | ⟨rfl, rfl, rfl⟩⟩ := hrel
    ·go_wp2_with fail
     go_roundg 0
     case measure => omega
     case rel => exact ⟨rfl, .inr ⟨rfl, rfl, by go_num⟩⟩
    ·go_wp2_with fail
     go_step3
     simp only [Exit.inBlock, Exit.then]
     exact ⟨rfl, rfl, _, _, _, _, _, _, _, _, _, _, _, _, _, _, _, _, _, _, _, _, _, _, _, _, _, _, _, _, _, _, _, _, rfl⟩
  ·rintro a w' ⟨rfl, u0, u1, u2, u3, u4, u5, u6, u7, u8, u9, u10, u11, u12, u13, u14, u15, u16, u17, u18, u19, u20, u21, u22, u23, u24, u25, u26, u27, u28, u29, u30, u31, rfl⟩
   go_wp2_with fail
   simp only [jump_ret]
   go_ret2
   exact ⟨rfl, rfl⟩
 ·obtain ⟨j, hjn, hof, hkj⟩ := hpl (.inr hk)
  obtain ⟨csj, csj0, tyj, loj, hobj, hbkj, _⟩ := h.full j hjn
  have hpj : pt (j + 1) = 151 := by rcases hobj.kinds with ⟨e, e2⟩ | ⟨e, e2⟩ | ⟨e, e2⟩ | ⟨e, e2⟩ | ⟨e, e2⟩ | ⟨e, e2⟩ | ⟨e, e2⟩ | ⟨e, e2⟩ <;> first | exact e2 | (rw [hkj] at e; omega)
  have hcs := hful.of10 hk
  rw [hof, hpj] at hcs
  subst hcs
  have hcell := hbk.cell 0
  simp only [List.getElem?_toArray, List.getElem?_cons_zero, List.getElem?_cons_succ] at hcell
  have hlt := hbk.lt
  rw [if_neg (show ¬ ((f t).k = 4 ∨ (f t).k = 5) by omega)]
  rw [hp]
  have fan := asLackCConst
  have faq := hasQ
  have fad := taNoTypedef 202 (by decide)
  have fbn := asLackCInt
  have fbq := lackQInt
  have fbd := taNoTypedef 151 (by decide)
  go_enter Tryz.func81, Tryz.ntmps81
  go_wp2_with fail
  refine wp_scope_jumps 0 (fun a w' => w' = w ∧ ∃ u0 u1 u2 u3 u4 u5 u6 u7 u8 u9 u10 u11 u12 u13 u14 u15 u16 u17 u18 u19 u20 u21 u22 u23 u24 u25 u26 u27 u28 u29 u30 u31 : Value, a = ⟨#[u0, u1, u2, u3, u4, u5, u6, u7, u8, u9, u10, u11, u12, u13, u14, u15, u16, u17, u18, u19, u20, u21, u22, u23, u24, u25, u26, u27, u28, u29, u30, u31], []⟩) (fun _ _ => 0) rfl ?_ ?_
  ·go_wp2_with fail
   go_loopg [0, 4] 1 (fun gk s0 s4 wr => wr = w ∧ ((gk = 1 ∧ s0 = .iface 202 (.pointer (some ⟨ob (t + 1), 0, none⟩)) ∧ s4 = .int .i64 0) ∨ (gk = 0 ∧ s0 = .iface 151 (.pointer (some ⟨ob (j + 1), 0, none⟩)) ∧ s4 = .int .i64 1)))
   case atStart => exact ⟨rfl, .inl ⟨rfl, rfl, rfl⟩⟩
   case round =>
    obtain ⟨rfl, ⟨rfl, rfl, rfl⟩ | ⟨rfl, rfl, rfl⟩⟩ := hrel
    ·go_wp2_with fail
     refine (qualify_any _ _ _ _ hcell).mono ?_
     rintro e w1 ⟨rfl, rfl⟩
     go_wp2_with fail
     go_roundg 0
     case measure => omega
     case rel => exact ⟨rfl, .inr ⟨rfl, rfl, by go_num⟩⟩
    ·go_wp2_with fail
     go_step3
     simp only [Exit.inBlock, Exit.then]
     exact ⟨rfl, rfl, _, _, _, _, _, _, _, _, _, _, _, _, _, _, _, _, _, _, _, _, _, _, _, _, _, _, _, _, _, _, _, _, rfl⟩
  ·rintro a w' ⟨rfl, u0, u1, u2, u3, u4, u5, u6, u7, u8, u9, u10, u11, u12, u13, u14, u15, u16, u17, u18, u19, u20, u21, u22, u23, u24, u25, u26, u27, u28, u29, u30, u31, rfl⟩
   go_wp2_with fail
   simp only [jump_ret]
   go_ret2
   exact ⟨rfl, rfl⟩
end Go.Proofs.YtfilbgmbmlmdbaaGreatDoor
