/- The package's own rule on enumerations; whether an int or a struct is a declaration. Nothing is claimed here. -/
import Derived.Test.YtfilbgmbmlmdbaaGreatDoorAsB
import Derived.Test.YtfilbgmbmlmdbaaGreatDoorRelM
import Derived.Deep.DeepCutAuto
import Derived.Deep.CutBlock
import Derived.Test.YtfilbgmbmlmdbaaGreatDoorMapl
import Derived.Test.YtfilbgmbmlmdbaaGreatDoorWa
import Derived.WalkMore
namespace Go.Proofs.YtfilbgmbmlmdbaaGreatDoor
open Go.RowKit
set_option linter.unusedSimpArgs false in
set_option maxRecDepth 100000 in
set_option maxHeartbeats 4000000 in
theorem As_Enum (w : World) (n og t : Nat) (f : Nat → RowD) (pt : Nat → TypeId) (ob : Nat → Nat) (h : Outs w n f og pt ob) (ht : t < n) (hpl : (f t).k = 8 ∨ (f t).k = 10 → ∃ j, j < n ∧ (f t).of = j + 1 ∧ (f j).k = 1) :
    Calls Tryz.prog 66 #[.iface (pt (t + 1)) (.pointer (some ⟨ob (t + 1), 0, none⟩))] w fun e w' => w' = w ∧ (match asRow 6 f t with
      | some r => r < n ∧ pt (r + 1) = 144 ∧ e = .returned (.tuple #[.pointer (some ⟨ob (r + 1), 0, none⟩), .bool true])
      | none => e = .returned (.tuple #[.pointer none, .bool false])) := by
  obtain ⟨cs, cs0, ty, lo, hob, hbk, hful⟩ := h.full t ht
  rcases hob.kinds with ⟨hk, hp⟩ | ⟨hk, hp⟩ | ⟨hk, hp⟩ | ⟨hk, hp⟩ | ⟨hk, hp⟩ | ⟨hk, hp⟩ | ⟨hk, hp⟩ | ⟨hk, hp⟩
  · have hr : asRow 6 f t = none := by unfold asRow; rw [if_neg (by omega), if_neg (by omega)]
    rw [hr]
    rw [hp]
    have fan := taNoEnum 151 (by decide)
    have faq := lackQInt
    have fad := taNoTypedef 151 (by decide)
    go_enter Tryz.func66, Tryz.ntmps66
    go_wp2_with fail
    refine wp_scope_jumps 0 (fun a w' => w' = w ∧ ∃ u0 u1 u2 u3 u4 u5 u6 u7 u8 u9 u10 u11 u12 u13 u14 u15 u16 u17 u18 u19 u20 u21 u22 u23 u24 u25 u26 u27 u28 u29 u30 u31 : Value, a = ⟨#[u0, u1, u2, u3, u4, u5, u6, u7, u8, u9, u10, u11, u12, u13, u14, u15, u16, u17, u18, u19, u20, u21, u22, u23, u24, u25, u26, u27, u28, u29, u30, u31], []⟩) (fun _ _ => 0) rfl ?_ ?_
    · go_wp2_with fail
      go_loopg [0, 4] 1 (fun gk s0 s4 wr => s0 = .iface 151 (.pointer (some ⟨ob (t + 1), 0, none⟩)) ∧ s4 = .int .i64 0 ∧ wr = w)
      case atStart => exact ⟨rfl, rfl, rfl⟩
      case round =>
        obtain ⟨rfl, rfl, rfl⟩ := hrel
        go_wp2_with fail
        go_step3
        simp only [Exit.inBlock, Exit.then]
        exact ⟨rfl, rfl, _, _, _, _, _, _, _, _, _, _, _, _, _, _, _, _, _, _, _, _, _, _, _, _, _, _, _, _, _, _, _, _, rfl⟩
    · rintro a w' ⟨rfl, u0, u1, u2, u3, u4, u5, u6, u7, u8, u9, u10, u11, u12, u13, u14, u15, u16, u17, u18, u19, u20, u21, u22, u23, u24, u25, u26, u27, u28, u29, u30, u31, rfl⟩
      go_wp2_with fail
      simp only [jump_ret]
      go_ret2
      exact ⟨rfl, rfl⟩
  · have hr : asRow 6 f t = none := by unfold asRow; rw [if_neg (by omega), if_neg (by omega)]
    rw [hr]
    rw [hp]
    have fan := taNoEnum 164 (by decide)
    have faq := lackQPointer
    have fad := taNoTypedef 164 (by decide)
    go_enter Tryz.func66, Tryz.ntmps66
    go_wp2_with fail
    refine wp_scope_jumps 0 (fun a w' => w' = w ∧ ∃ u0 u1 u2 u3 u4 u5 u6 u7 u8 u9 u10 u11 u12 u13 u14 u15 u16 u17 u18 u19 u20 u21 u22 u23 u24 u25 u26 u27 u28 u29 u30 u31 : Value, a = ⟨#[u0, u1, u2, u3, u4, u5, u6, u7, u8, u9, u10, u11, u12, u13, u14, u15, u16, u17, u18, u19, u20, u21, u22, u23, u24, u25, u26, u27, u28, u29, u30, u31], []⟩) (fun _ _ => 0) rfl ?_ ?_
    · go_wp2_with fail
      go_loopg [0, 4] 1 (fun gk s0 s4 wr => s0 = .iface 164 (.pointer (some ⟨ob (t + 1), 0, none⟩)) ∧ s4 = .int .i64 0 ∧ wr = w)
      case atStart => exact ⟨rfl, rfl, rfl⟩
      case round =>
        obtain ⟨rfl, rfl, rfl⟩ := hrel
        go_wp2_with fail
        go_step3
        simp only [Exit.inBlock, Exit.then]
        exact ⟨rfl, rfl, _, _, _, _, _, _, _, _, _, _, _, _, _, _, _, _, _, _, _, _, _, _, _, _, _, _, _, _, _, _, _, _, rfl⟩
    · rintro a w' ⟨rfl, u0, u1, u2, u3, u4, u5, u6, u7, u8, u9, u10, u11, u12, u13, u14, u15, u16, u17, u18, u19, u20, u21, u22, u23, u24, u25, u26, u27, u28, u29, u30, u31, rfl⟩
      go_wp2_with fail
      simp only [jump_ret]
      go_ret2
      exact ⟨rfl, rfl⟩
  · have hr : asRow 6 f t = none := by unfold asRow; rw [if_neg (by omega), if_neg (by omega)]
    rw [hr]
    rw [hp]
    have fan := taNoEnum 167 (by decide)
    have faq := lackQArray
    have fad := taNoTypedef 167 (by decide)
    go_enter Tryz.func66, Tryz.ntmps66
    go_wp2_with fail
    refine wp_scope_jumps 0 (fun a w' => w' = w ∧ ∃ u0 u1 u2 u3 u4 u5 u6 u7 u8 u9 u10 u11 u12 u13 u14 u15 u16 u17 u18 u19 u20 u21 u22 u23 u24 u25 u26 u27 u28 u29 u30 u31 : Value, a = ⟨#[u0, u1, u2, u3, u4, u5, u6, u7, u8, u9, u10, u11, u12, u13, u14, u15, u16, u17, u18, u19, u20, u21, u22, u23, u24, u25, u26, u27, u28, u29, u30, u31], []⟩) (fun _ _ => 0) rfl ?_ ?_
    · go_wp2_with fail
      go_loopg [0, 4] 1 (fun gk s0 s4 wr => s0 = .iface 167 (.pointer (some ⟨ob (t + 1), 0, none⟩)) ∧ s4 = .int .i64 0 ∧ wr = w)
      case atStart => exact ⟨rfl, rfl, rfl⟩
      case round =>
        obtain ⟨rfl, rfl, rfl⟩ := hrel
        go_wp2_with fail
        go_step3
        simp only [Exit.inBlock, Exit.then]
        exact ⟨rfl, rfl, _, _, _, _, _, _, _, _, _, _, _, _, _, _, _, _, _, _, _, _, _, _, _, _, _, _, _, _, _, _, _, _, rfl⟩
    · rintro a w' ⟨rfl, u0, u1, u2, u3, u4, u5, u6, u7, u8, u9, u10, u11, u12, u13, u14, u15, u16, u17, u18, u19, u20, u21, u22, u23, u24, u25, u26, u27, u28, u29, u30, u31, rfl⟩
      go_wp2_with fail
      simp only [jump_ret]
      go_ret2
      exact ⟨rfl, rfl⟩
  · have hr : asRow 6 f t = none := by unfold asRow; rw [if_neg (by omega), if_neg (by omega)]
    rw [hr]
    rw [hp]
    have fan := taNoEnum 162 (by decide)
    have faq := lackQStruct
    have fad := taNoTypedef 162 (by decide)
    go_enter Tryz.func66, Tryz.ntmps66
    go_wp2_with fail
    refine wp_scope_jumps 0 (fun a w' => w' = w ∧ ∃ u0 u1 u2 u3 u4 u5 u6 u7 u8 u9 u10 u11 u12 u13 u14 u15 u16 u17 u18 u19 u20 u21 u22 u23 u24 u25 u26 u27 u28 u29 u30 u31 : Value, a = ⟨#[u0, u1, u2, u3, u4, u5, u6, u7, u8, u9, u10, u11, u12, u13, u14, u15, u16, u17, u18, u19, u20, u21, u22, u23, u24, u25, u26, u27, u28, u29, u30, u31], []⟩) (fun _ _ => 0) rfl ?_ ?_
    · go_wp2_with fail
      go_loopg [0, 4] 1 (fun gk s0 s4 wr => s0 = .iface 162 (.pointer (some ⟨ob (t + 1), 0, none⟩)) ∧ s4 = .int .i64 0 ∧ wr = w)
      case atStart => exact ⟨rfl, rfl, rfl⟩
      case round =>
        obtain ⟨rfl, rfl, rfl⟩ := hrel
        go_wp2_with fail
        go_step3
        simp only [Exit.inBlock, Exit.then]
        exact ⟨rfl, rfl, _, _, _, _, _, _, _, _, _, _, _, _, _, _, _, _, _, _, _, _, _, _, _, _, _, _, _, _, _, _, _, _, rfl⟩
    · rintro a w' ⟨rfl, u0, u1, u2, u3, u4, u5, u6, u7, u8, u9, u10, u11, u12, u13, u14, u15, u16, u17, u18, u19, u20, u21, u22, u23, u24, u25, u26, u27, u28, u29, u30, u31, rfl⟩
      go_wp2_with fail
      simp only [jump_ret]
      go_ret2
      exact ⟨rfl, rfl⟩
  · have hr : asRow 6 f t = none := by unfold asRow; rw [if_neg (by omega), if_neg (by omega)]
    rw [hr]
    rw [hp]
    have fan := taNoEnum 163 (by decide)
    have faq := lackQUnion
    have fad := taNoTypedef 163 (by decide)
    go_enter Tryz.func66, Tryz.ntmps66
    go_wp2_with fail
    refine wp_scope_jumps 0 (fun a w' => w' = w ∧ ∃ u0 u1 u2 u3 u4 u5 u6 u7 u8 u9 u10 u11 u12 u13 u14 u15 u16 u17 u18 u19 u20 u21 u22 u23 u24 u25 u26 u27 u28 u29 u30 u31 : Value, a = ⟨#[u0, u1, u2, u3, u4, u5, u6, u7, u8, u9, u10, u11, u12, u13, u14, u15, u16, u17, u18, u19, u20, u21, u22, u23, u24, u25, u26, u27, u28, u29, u30, u31], []⟩) (fun _ _ => 0) rfl ?_ ?_
    · go_wp2_with fail
      go_loopg [0, 4] 1 (fun gk s0 s4 wr => s0 = .iface 163 (.pointer (some ⟨ob (t + 1), 0, none⟩)) ∧ s4 = .int .i64 0 ∧ wr = w)
      case atStart => exact ⟨rfl, rfl, rfl⟩
      case round =>
        obtain ⟨rfl, rfl, rfl⟩ := hrel
        go_wp2_with fail
        go_step3
        simp only [Exit.inBlock, Exit.then]
        exact ⟨rfl, rfl, _, _, _, _, _, _, _, _, _, _, _, _, _, _, _, _, _, _, _, _, _, _, _, _, _, _, _, _, _, _, _, _, rfl⟩
    · rintro a w' ⟨rfl, u0, u1, u2, u3, u4, u5, u6, u7, u8, u9, u10, u11, u12, u13, u14, u15, u16, u17, u18, u19, u20, u21, u22, u23, u24, u25, u26, u27, u28, u29, u30, u31, rfl⟩
      go_wp2_with fail
      simp only [jump_ret]
      go_ret2
      exact ⟨rfl, rfl⟩
  · have hr : asRow 6 f t = some t := if_pos hk
    rw [hr]
    rw [hp]
    have fay := @ta_yes _ _ Tryz.underlying144
    go_enter Tryz.func66, Tryz.ntmps66
    go_wp2_with fail
    go_step3
    go_wp2_with fail
    go_loopg [0, 4] 1 (fun gk s0 s4 wr => s0 = .iface 144 (.pointer (some ⟨ob (t + 1), 0, none⟩)) ∧ s4 = .int .i64 0 ∧ wr = w)
    case atStart => exact ⟨rfl, rfl, rfl⟩
    case round =>
      obtain ⟨rfl, rfl, rfl⟩ := hrel
      go_wp2_with fail
      simp only [Exit.noGoto_ret]
      go_ret2
      exact ⟨rfl, ht, hp, rfl⟩
  · obtain ⟨j, hjn, hof, hkj⟩ := hpl (.inl hk)
    obtain ⟨csj, csj0, tyj, loj, hobj, hbkj, _⟩ := h.full j hjn
    have hpj : pt (j + 1) = 151 := by rcases hobj.kinds with ⟨e, e2⟩ | ⟨e, e2⟩ | ⟨e, e2⟩ | ⟨e, e2⟩ | ⟨e, e2⟩ | ⟨e, e2⟩ | ⟨e, e2⟩ | ⟨e, e2⟩ <;> first | exact e2 | (rw [hkj] at e; omega)
    have hcs := hful.of8 hk
    rw [hof, hpj] at hcs
    subst hcs
    have hcell := hbk.cell 1
    simp only [List.getElem?_toArray, List.getElem?_cons_zero, List.getElem?_cons_succ] at hcell
    have hlt := hbk.lt
    have hr : asRow 6 f t = none := by unfold asRow; rw [if_neg (by omega), if_neg (by omega)]
    rw [hr]
    rw [hp]
    have fan := taNoEnum 196 (by decide)
    have faq := lackQTypedef
    have fad := @ta_yes _ _ Tryz.underlying196
    have fbn := taNoEnum 151 (by decide)
    have fbq := lackQInt
    have fbd := taNoTypedef 151 (by decide)
    go_enter Tryz.func66, Tryz.ntmps66
    go_wp2_with fail
    refine wp_scope_jumps 0 (fun a w' => w' = w ∧ ∃ u0 u1 u2 u3 u4 u5 u6 u7 u8 u9 u10 u11 u12 u13 u14 u15 u16 u17 u18 u19 u20 u21 u22 u23 u24 u25 u26 u27 u28 u29 u30 u31 : Value, a = ⟨#[u0, u1, u2, u3, u4, u5, u6, u7, u8, u9, u10, u11, u12, u13, u14, u15, u16, u17, u18, u19, u20, u21, u22, u23, u24, u25, u26, u27, u28, u29, u30, u31], []⟩) (fun _ _ => 0) rfl ?_ ?_
    · go_wp2_with fail
      go_loopg [0, 4] 1 (fun gk s0 s4 wr => wr = w ∧ ((gk = 1 ∧ s0 = .iface 196 (.pointer (some ⟨ob (t + 1), 0, none⟩)) ∧ s4 = .int .i64 0) ∨ (gk = 0 ∧ s0 = .iface 151 (.pointer (some ⟨ob (j + 1), 0, none⟩)) ∧ s4 = .int .i64 1)))
      case atStart => exact ⟨rfl, .inl ⟨rfl, rfl, rfl⟩⟩
      case round =>
        obtain ⟨rfl, ⟨rfl, rfl, rfl⟩ | ⟨rfl, rfl, rfl⟩⟩ := hrel
        · go_wp2_with fail
          go_roundg 0
          case measure => omega
          case rel => exact ⟨rfl, .inr ⟨rfl, rfl, by go_num⟩⟩
        · go_wp2_with fail
          go_step3
          simp only [Exit.inBlock, Exit.then]
          exact ⟨rfl, rfl, _, _, _, _, _, _, _, _, _, _, _, _, _, _, _, _, _, _, _, _, _, _, _, _, _, _, _, _, _, _, _, _, rfl⟩
    · rintro a w' ⟨rfl, u0, u1, u2, u3, u4, u5, u6, u7, u8, u9, u10, u11, u12, u13, u14, u15, u16, u17, u18, u19, u20, u21, u22, u23, u24, u25, u26, u27, u28, u29, u30, u31, rfl⟩
      go_wp2_with fail
      simp only [jump_ret]
      go_ret2
      exact ⟨rfl, rfl⟩
  · obtain ⟨j, hjn, hof, hkj⟩ := hpl (.inr hk)
    obtain ⟨csj, csj0, tyj, loj, hobj, hbkj, _⟩ := h.full j hjn
    have hpj : pt (j + 1) = 151 := by rcases hobj.kinds with ⟨e, e2⟩ | ⟨e, e2⟩ | ⟨e, e2⟩ | ⟨e, e2⟩ | ⟨e, e2⟩ | ⟨e, e2⟩ | ⟨e, e2⟩ | ⟨e, e2⟩ <;> first | exact e2 | (rw [hkj] at e; omega)
    have hcs := hful.of10 hk
    rw [hof, hpj] at hcs
    subst hcs
    have hcell := hbk.cell 0
    simp only [List.getElem?_toArray, List.getElem?_cons_zero, List.getElem?_cons_succ] at hcell
    have hlt := hbk.lt
    have hr : asRow 6 f t = none := by unfold asRow; rw [if_neg (by omega), if_neg (by omega)]
    rw [hr]
    rw [hp]
    have fan := taNoEnum 202 (by decide)
    have faq := hasQ
    have fad := taNoTypedef 202 (by decide)
    have fbn := taNoEnum 151 (by decide)
    have fbq := lackQInt
    have fbd := taNoTypedef 151 (by decide)
    go_enter Tryz.func66, Tryz.ntmps66
    go_wp2_with fail
    refine wp_scope_jumps 0 (fun a w' => w' = w ∧ ∃ u0 u1 u2 u3 u4 u5 u6 u7 u8 u9 u10 u11 u12 u13 u14 u15 u16 u17 u18 u19 u20 u21 u22 u23 u24 u25 u26 u27 u28 u29 u30 u31 : Value, a = ⟨#[u0, u1, u2, u3, u4, u5, u6, u7, u8, u9, u10, u11, u12, u13, u14, u15, u16, u17, u18, u19, u20, u21, u22, u23, u24, u25, u26, u27, u28, u29, u30, u31], []⟩) (fun _ _ => 0) rfl ?_ ?_
    · go_wp2_with fail
      go_loopg [0, 4] 1 (fun gk s0 s4 wr => wr = w ∧ ((gk = 1 ∧ s0 = .iface 202 (.pointer (some ⟨ob (t + 1), 0, none⟩)) ∧ s4 = .int .i64 0) ∨ (gk = 0 ∧ s0 = .iface 151 (.pointer (some ⟨ob (j + 1), 0, none⟩)) ∧ s4 = .int .i64 1)))
      case atStart => exact ⟨rfl, .inl ⟨rfl, rfl, rfl⟩⟩
      case round =>
        obtain ⟨rfl, ⟨rfl, rfl, rfl⟩ | ⟨rfl, rfl, rfl⟩⟩ := hrel
        · go_wp2_with fail
          refine (qualify_any _ _ _ _ hcell).mono ?_
          rintro e w1 ⟨rfl, rfl⟩
          go_wp2_with fail
          go_roundg 0
          case measure => omega
          case rel => exact ⟨rfl, .inr ⟨rfl, rfl, by go_num⟩⟩
        · go_wp2_with fail
          go_step3
          simp only [Exit.inBlock, Exit.then]
          exact ⟨rfl, rfl, _, _, _, _, _, _, _, _, _, _, _, _, _, _, _, _, _, _, _, _, _, _, _, _, _, _, _, _, _, _, _, _, rfl⟩
    · rintro a w' ⟨rfl, u0, u1, u2, u3, u4, u5, u6, u7, u8, u9, u10, u11, u12, u13, u14, u15, u16, u17, u18, u19, u20, u21, u22, u23, u24, u25, u26, u27, u28, u29, u30, u31, rfl⟩
      go_wp2_with fail
      simp only [jump_ret]
      go_ret2
      exact ⟨rfl, rfl⟩
end Go.Proofs.YtfilbgmbmlmdbaaGreatDoor

namespace Go.Proofs.YtfilbgmbmlmdbaaGreatDoor
open Go.RowKit Go.MapKept

set_option maxRecDepth 100000 in
set_option maxHeartbeats 2000000 in
theorem lastIndex_short (w : World) (s : ByteArray) (hs : s.size = 2) : Calls Tryz.prog 88 #[.string s, .string ⟨#[95, 95, 95]⟩] w fun e w' => e = .returned (.int .i64 (-1)) ∧ w' = w := by
  have h2 : ((s.size : Nat) : Int) = 2 := by omega
  go_enter Tryz.func88, Tryz.ntmps88
  go_wp2_with fail
  go_ret
  exact ⟨rfl, rfl⟩
set_option maxRecDepth 100000 in
set_option maxHeartbeats 2000000 in
theorem essential_short (w : World) (s : ByteArray) (hs : s.size = 2) : Calls Tryz.prog 79 #[.string s] w fun e w' => e = .returned (.string s) ∧ w' = w := by
  have h0 : s.toList.isEmpty = false := by
    have hl : s.toList.length = 2 := by rw [ByteArray.toList_eq, Array.length_toList]; exact hs
    cases h : s.toList with
    | nil => rw [h] at hl; cases hl
    | cons _ _ => rfl
  go_enter Tryz.func79, Tryz.ntmps79
  go_wp2_with fail
  refine (lastIndex_short _ s hs).mono ?_
  rintro e w9 ⟨rfl, rfl⟩
  go_wp2_with fail
  go_ret
  exact ⟨rfl, rfl⟩
/-- The values of an enumeration, as the package has them. -/
def EnumObj (w : World) (ob : Nat → Nat) (i n vg cap : Nat) (vn : Nat → ByteArray) (vv : Nat → Int) : Prop :=
  w.cell? ⟨ob (i + 1), 3, none⟩ = some (.slice (some ⟨vg, 0, none⟩) n cap) ∧ ob (i + 1) < w.heap.size ∧ vg < w.heap.size ∧ ∀ j, j < n → w.cell? ⟨vg, j * 2, none⟩ = some (.string (vn j)) ∧ w.cell? ⟨vg, j * 2 + 1, none⟩ = some (.int .u64 (IntKind.u64.wrap (vv j)))
theorem PRow.uniq {ys : List Value} {j : Nat} {nm nm' : ByteArray} {o o' : Value} {a b v a' b' v' : Int} (h : PRow ys j nm o a b v) (h' : PRow ys j nm' o' a' b' v') : nm = nm' ∧ v = v' := by
  obtain ⟨h0, _, _, _, h4⟩ := h
  obtain ⟨k0, _, _, _, k4⟩ := h'
  rw [h0] at k0; rw [h4] at k4
  cases k0; cases k4
  exact ⟨rfl, rfl⟩
theorem Outs.enumObj {w : World} {n og : Nat} {f : Nat → RowD} {pt : Nat → TypeId} {ob : Nat → Nat} (h : Outs w n f og pt ob) {i : Nat} (hi : i < n) {nm : ByteArray} {sg : Bool} {q : Nat} {vn : Nat → ByteArray} {vv : Nat → Int} (r : RT f i (.enm nm sg q vn vv)) (hq : 1 ≤ q) :
    ∃ vg cap, EnumObj w ob i q vg cap vn vv := by
  obtain ⟨cs, cs0, ty, lo, hob, hbk, hful⟩ := h.full i hi
  cases r with
  | enm hk hn hs hl hqq hr =>
    rw [hk] at hful
    rw [hqq] at hful
    cases hful with
    | str hk' _ _ => omega
    | enm ho he =>
      obtain ⟨vg, cap, rfl, hvg⟩ := own_form ho (by omega)
      refine ⟨vg, cap, hbk.cell 3, hbk.lt, hvg, fun j hj => ?_⟩
      obtain ⟨nm', o, a, b, v, hp, x0, x1⟩ := he j hj
      obtain ⟨e1, e2⟩ := (hr j hj).uniq hp
      subst e1 e2
      rw [Nat.mul_comm] at x0 x1
      exact ⟨own_cell ho x0, own_cell ho x1⟩
theorem EnumObj.ck {w w' : World} {ob : Nat → Nat} {i n vg cap : Nat} {vn : Nat → ByteArray} {vv : Nat → Int} (h : EnumObj w ob i n vg cap vn vv) (hc : CellsKept w w') : EnumObj w' ob i n vg cap vn vv :=
  ⟨hc.cell h.1, Nat.lt_of_lt_of_le h.2.1 hc.size, Nat.lt_of_lt_of_le h.2.2.1 hc.size, fun j hj => ⟨hc.cell (h.2.2.2 j hj).1, hc.cell (h.2.2.2 j hj).2⟩⟩
section
variable {w : World} {n1 og1 t1 n2 og2 t2 : Nat} {f1 f2 : Nat → RowD} {pt1 pt2 : Nat → TypeId} {ob1 ob2 : Nat → Nat}
theorem asEnum_yes (h : Outs w n1 f1 og1 pt1 ob1) (ht : t1 < n1) (hp : Peels n1 f1) (hk : (f1 t1).k = 6) :
    Calls Tryz.prog 66 #[objAt pt1 ob1 t1] w fun e w' => e = .returned (.tuple #[.pointer (some ⟨ob1 (t1 + 1), 0, none⟩), .bool true]) ∧ w' = w := by
  refine (As_Enum w n1 og1 t1 f1 pt1 ob1 h ht (hp t1 ht)).mono ?_
  rintro e w' ⟨rfl, hs⟩
  have hr : asRow 6 f1 t1 = some t1 := if_pos hk
  rw [hr] at hs
  exact ⟨hs.2.2, rfl⟩
theorem asEnum_no (h : Outs w n1 f1 og1 pt1 ob1) (ht : t1 < n1) (hp : Peels n1 f1) (hk : (f1 t1).k ≠ 6) :
    Calls Tryz.prog 66 #[objAt pt1 ob1 t1] w fun e w' => e = .returned (.tuple #[.pointer none, .bool false]) ∧ w' = w := by
  refine (As_Enum w n1 og1 t1 f1 pt1 ob1 h ht (hp t1 ht)).mono ?_
  rintro e w' ⟨rfl, hs⟩
  have hr : asRow 6 f1 t1 = none := by
    unfold asRow
    rw [if_neg hk, if_neg (fun h => by omega)]
  rw [hr] at hs
  exact ⟨hs, rfl⟩
set_option linter.unusedSimpArgs false in
set_option maxRecDepth 100000 in
set_option maxHeartbeats 4000000 in
theorem enumValue_any (h : Outs w n1 f1 og1 pt1 ob1) (ht : t1 < n1) (hp : Peels n1 f1) (hk : (f1 t1).k = 6) {q vg cap i ab acap : Nat} {vn : Nat → ByteArray} {vv : Nat → Int} (ho : EnumObj w ob1 t1 q vg cap vn vv) (hi : i < q) (ha : w.cell? ⟨ab, 0, none⟩ = some (.int .i64 (i : Int))) :
    Calls Tryz.prog 78 #[.slice (some ⟨ab, 0, none⟩) 1 acap, objAt pt1 ob1 t1] w fun e w' => e = .returned (.tuple #[.pointer (some ⟨vg, i * 2, none⟩), .nilIface]) ∧ w' = w := by
  have la := World.block_lt_of_cell? w _ ha
  simp only at la
  obtain ⟨c3, l1, l2, _⟩ := ho
  have hiq : ¬ (q : Int) ≤ (i : Int) := by omega
  go_enter Tryz.func78, Tryz.ntmps78
  go_wp2_with fail
  refine (asEnum_yes h ht hp hk).mono ?_
  rintro e w9 ⟨rfl, rfl⟩
  clear h hp hk
  go_wp2_with fail
  go_ret2
  exact ⟨rfl, rfl⟩
end
end Go.Proofs.YtfilbgmbmlmdbaaGreatDoor

namespace Go.Proofs.YtfilbgmbmlmdbaaGreatDoor
open Go.RowKit Go.MapKept

section
variable {P : Program} {k e t : TypeId} {w : World} {b : Nat} {m : Value → Option Value}

/-- Keys that are strings. -/
def StrKey (x : Value) : Prop := ∃ z, x = .string z

theorem findNow_strs {z : ByteArray} : ∀ (l : List MapEntry) (i : Nat), (∀ y ∈ l, StrKey y.key) →
    (Instr.findNow .string (.string z) l i = some none ∧ ∀ y ∈ l, y.key ≠ .string z) ∨ ∃ j y, Instr.findNow .string (.string z) l i = some (some (i + j, y.val)) ∧ l[j]? = some y ∧ y.key = .string z
  | [], _, _ => .inl ⟨rfl, by simp⟩
  | y :: es, i, h => by
    obtain ⟨z', hz'⟩ := h y (.head _)
    by_cases hz : z = z'
    · subst hz
      have hb : (z == z) = true := (MapKept.bytes_beq _ _).2 rfl
      exact .inr ⟨0, y, by simp [Instr.findNow, Instr.sameNow, hz', hb], rfl, hz'⟩
    · have hb : (z == z') = false := by
        cases h' : z == z' with
        | false => rfl
        | true => exact absurd ((MapKept.bytes_beq _ _).1 h') hz
      have hne : y.key ≠ .string z := by rw [hz']; intro e; simp only [Value.string.injEq] at e; exact hz e.symm
      rcases findNow_strs (z := z) es (i + 1) (fun z hz => h z (.tail _ hz)) with ⟨h1, h2⟩ | ⟨j, u, h1, h2, h3⟩
      · exact .inl ⟨by simp [Instr.findNow, Instr.sameNow, hz', hb, h1], fun u hu => by
          cases hu with
          | head => exact hne
          | tail _ hu => exact h2 u hu⟩
      · exact .inr ⟨j + 1, u, by simp [Instr.findNow, Instr.sameNow, hz', hb, h1]; omega, by simpa using h2, h3⟩

theorem findKey_strs (hk : P.underlying k = some .string) {x : Value} (hx : StrKey x) (l : List MapEntry) (h : ∀ y ∈ l, StrKey y.key) :
    ((Instr.findKey k x l).run P w = .ok none w ∧ ∀ y ∈ l, y.key ≠ x) ∨ ∃ j y, (Instr.findKey k x l).run P w = .ok (some (j, y.val)) w ∧ l[j]? = some y ∧ y.key = x := by
  obtain ⟨z, rfl⟩ := hx
  rcases findNow_strs (z := z) l 0 h with ⟨h1, h2⟩ | ⟨j, y, h1, h2⟩
  · exact .inl ⟨by simp [Instr.findKey, run_underlying hk, h1, Result.andThen], h2⟩
  · exact .inr ⟨j, y, by simp [Instr.findKey, run_underlying hk, h1, Result.andThen], h2⟩
theorem check_strs (hk : P.underlying k = some .string) {x : Value} (em : Bool) : (Instr.checkKey em 10000 k x).run P w = .ok () w := by
  have h : ∀ n : Nat, (Instr.checkKey em (n + 1) k x).run P w = .ok () w := fun n => by
    simp [Instr.checkKey, run_underlying hk, Result.andThen]
  exact h 9999

theorem IsMapOf.lookS (h : IsMapOf w b m) (hk : P.underlying k = some .string) (hG : ∀ x v, m x = some v → StrKey x) (ht : P.underlying t = some (.map k e)) {z : Value} (hz : (zeroValue e).run P w = .ok z w) {x : Value} (hx : StrKey x) :
    (Instr.lookup t (.map (some b)) x true).run P w = .ok (.tuple #[(m x).getD z, .bool (m x).isSome]) w := by
  obtain ⟨es, clock, hb, h1, h2⟩ := h
  have hkk : ∀ y ∈ es.toList, StrKey y.key := fun y hy => hG _ _ (h1 y hy)
  rcases findKey_strs (w := w) hk hx es.toList hkk with ⟨hf, hn⟩ | ⟨j, y, hf, hj, hy⟩
  · have hm : m x = none := by
      cases hm : m x with
      | none => rfl
      | some v => obtain ⟨y, hy, hyx⟩ := h2 x v hm; exact absurd hyx (hn y hy)
    simp [Instr.lookup, run_underlying ht, MapKept.run_getObj_map hb, check_strs hk, hf, hz, hm, Result.andThen]
  · have hmem : y ∈ es.toList := List.mem_of_getElem? hj
    have hm : m x = some y.val := by rw [← hy]; exact h1 y hmem
    simp [Instr.lookup, run_underlying ht, MapKept.run_getObj_map hb, check_strs hk, hf, hm, Result.andThen]

theorem IsMapOf.storeS (h : IsMapOf w b m) (hk : P.underlying k = some .string) (hG : ∀ x v, m x = some v → StrKey x) (ht : P.underlying t = some (.map k e)) {x v : Value} (hx : StrKey x) (hn : m x = none) :
    ∃ w', (Instr.mapUpdate t (.map (some b)) x v).run P w = .ok () w' ∧ w.grownBy w' (some b) ∧ w'.heap.size = w.heap.size ∧ ∀ m' : Value → Option Value, m' x = some v → (∀ y, y ≠ x → m' y = m y) → IsMapOf w' b m' := by
  obtain ⟨es, clock, hb, h1, h2⟩ := h
  have hkk : ∀ y ∈ es.toList, StrKey y.key := fun y hy => hG _ _ (h1 y hy)
  rcases findKey_strs (w := w) hk hx es.toList hkk with ⟨hf, hne⟩ | ⟨j, y, hf, hj, hy⟩
  · refine ⟨ChangeMaps.setBlock w b (.map (es.push { key := x, val := v, born := clock }) (clock + 1)), ?_, ?_, ?_, fun m' hm1 hm2 => ⟨_, _, ChangeMaps.heap_setBlock_same hb _, ?_, ?_⟩⟩
    · simp [Instr.mapUpdate, run_underlying ht, MapKept.run_getObj_map hb, check_strs hk, hf, MapKept.run_setObj_map _ hb, Result.andThen, ChangeMaps.setBlock]
    · exact ⟨rfl, rfl, rfl, by simp [ChangeMaps.setBlock], fun i _ hi => ChangeMaps.heap_setBlock_other hb _ (fun e => hi (by rw [e]))⟩
    · simp [ChangeMaps.setBlock]
    · intro y hy
      simp only [Array.toList_push, List.mem_append, List.mem_singleton] at hy
      rcases hy with hy | rfl
      · rw [hm2 _ (hne y hy)]; exact h1 y hy
      · exact hm1
    · intro y u hu
      by_cases hyx : y = x
      · exact ⟨{ key := x, val := v, born := clock }, by simp, hyx.symm⟩
      · rw [hm2 y hyx] at hu
        obtain ⟨y', hy', he⟩ := h2 y u hu
        exact ⟨y', by simp only [Array.toList_push, List.mem_append]; exact .inl hy', he⟩
  · have hmem : y ∈ es.toList := List.mem_of_getElem? hj
    have hm : m x = some y.val := by rw [← hy]; exact h1 y hmem
    rw [hn] at hm; cases hm

theorem wpList_lookS {ops : Array Oper} {rest : List Oper} {o : Oper} {a : Act} {Q : Exit → Act → World → Prop} (hg : o.guard = none) (mo xo : Operand) (hop : o.op = Op.lookup t mo xo true)
    (ht : P.underlying t = some (.map k e)) {z : Value} (hz : (zeroValue e).run P w = .ok z w) (hk : P.underlying k = some .string) (hm : a.eval mo = .map (some b)) (h : IsMapOf w b m) (hG : ∀ x v, m x = some v → StrKey x)
    (x : Value) (hx : a.eval xo = x) (hgx : StrKey x) (r : Option Value) (hr : m x = r) (hK : wpList P ops Q rest (a.put o.dst (.tuple #[r.getD z, .bool r.isSome])) w) : wpList P ops Q (o :: rest) a w := by
  subst hr
  refine wpList_plain hg fun K' hK' => ?_
  have hrun := h.lookS hk hG ht hz hgx
  unfold Oper.wp
  simp [execOp, hop, hm, hx, hrun, Result.andThen]
  exact hK' _ _ hK
theorem wpList_storeS {ops : Array Oper} {rest : List Oper} {o : Oper} {a : Act} {Q : Exit → Act → World → Prop} (hg : o.guard = none) (mo xo vo : Operand) (hop : o.op = Op.mapUpdate t mo xo vo)
    (ht : P.underlying t = some (.map k e)) (hk : P.underlying k = some .string) (hm : a.eval mo = .map (some b)) (h : IsMapOf w b m) (hG : ∀ x v, m x = some v → StrKey x)
    (x v : Value) (hx : a.eval xo = x) (hv : a.eval vo = v) (hgx : StrKey x) (hn : m x = none)
    (hK : ∀ w', w.grownBy w' (some b) → w'.heap.size = w.heap.size → (∀ m' : Value → Option Value, m' x = some v → (∀ y, y ≠ x → m' y = m y) → IsMapOf w' b m') → wpList P ops Q rest (a.put o.dst undef) w') : wpList P ops Q (o :: rest) a w := by
  refine wpList_plain hg fun K' hK' => ?_
  obtain ⟨w', hrun, r1, r2, r3⟩ := h.storeS (v := v) hk hG ht hgx hn
  unfold Oper.wp
  simp [execOp, hop, hm, hx, hv, hrun, Result.andThen]
  exact hK' _ _ (hK w' r1 r2 r3)
end
end Go.Proofs.YtfilbgmbmlmdbaaGreatDoor

namespace Go.Proofs.YtfilbgmbmlmdbaaGreatDoor
open Go.RowKit Go.MapKept

set_option maxRecDepth 100000 in
set_option maxHeartbeats 2000000 in
theorem lastIndex_one (w : World) (s : ByteArray) (hs : s.size = 1) : Calls Tryz.prog 88 #[.string s, .string ⟨#[95, 95, 95]⟩] w fun e w' => e = .returned (.int .i64 (-1)) ∧ w' = w := by
  have h2 : ((s.size : Nat) : Int) = 1 := by omega
  go_enter Tryz.func88, Tryz.ntmps88
  go_wp2_with fail
  go_ret
  exact ⟨rfl, rfl⟩
set_option maxRecDepth 100000 in
set_option maxHeartbeats 2000000 in
theorem essential_two (w : World) (s : ByteArray) (h0 : s.size ≠ 0) (h2 : s.size ≤ 2) : Calls Tryz.prog 79 #[.string s] w fun e w' => e = .returned (.string s) ∧ w' = w := by
  rcases (by omega : s.size = 1 ∨ s.size = 2) with hs | hs
  · have hn := name_full2 h0
    go_enter Tryz.func79, Tryz.ntmps79
    go_wp2_with fail
    refine (lastIndex_one _ s hs).mono ?_
    rintro e w9 ⟨rfl, rfl⟩
    go_wp2_with fail
    go_ret
    exact ⟨rfl, rfl⟩
  · exact essential_short w s hs
set_option maxRecDepth 100000 in
set_option maxHeartbeats 2000000 in
theorem names_any (w : World) (a b : ByteArray) (ha : a.size ≤ 2) (hb : b.size ≤ 2) : Calls Tryz.prog 70 #[.string a, .string b] w fun e w' => e = .returned (.bool (ess a b)) ∧ w' = w := by
  rcases ess_cases a b with ⟨h1, he⟩ | ⟨h1, h2, he⟩ | ⟨h1, h2, h3, he⟩ | ⟨h1, h2, h3, he⟩
  all_goals
    rw [he]
    clear he
  · have x1 := name_nil h1
    clear h1
    go_enter Tryz.func70, Tryz.ntmps70
    go_wp2_with fail
    go_ret
    exact ⟨rfl, rfl⟩
  · have x1 := name_full2 h1
    have x2 := name_nil h2
    clear h1 h2
    go_enter Tryz.func70, Tryz.ntmps70
    go_wp2_with fail
    go_ret
    exact ⟨rfl, rfl⟩
  · subst h3
    have x1 := name_full2 h1
    have H1 := Lib.hid h1
    clear h1 h2
    go_enter Tryz.func70, Tryz.ntmps70
    go_wp2_with fail
    refine (essential_two _ a H1.out ha).mono ?_
    rintro e w9 ⟨rfl, rfl⟩
    go_wp2_with fail
    refine (essential_two _ a H1.out ha).mono ?_
    rintro e w8 ⟨rfl, rfl⟩
    go_wp2_with fail
    go_ret
    exact ⟨rfl, rfl⟩
  · have x1 := name_full2 h1
    have x2 := name_full2 h2
    have x3 := name_ne h3
    have H1 := Lib.hid h1
    have H2 := Lib.hid h2
    clear h1 h2 h3
    go_enter Tryz.func70, Tryz.ntmps70
    go_wp2_with fail
    refine (essential_two _ a H1.out ha).mono ?_
    rintro e w9 ⟨rfl, rfl⟩
    go_wp2_with fail
    refine (essential_two _ b H2.out hb).mono ?_
    rintro e w8 ⟨rfl, rfl⟩
    go_wp2_with fail
    go_ret
    exact ⟨rfl, rfl⟩
section
variable (w : World) (b : Nat) (nm : ByteArray)
set_option maxRecDepth 100000 in
theorem name_Int (h : w.cell? ⟨b, 0, none⟩ = some (.string nm)) : Calls Tryz.prog 128 #[.pointer (some ⟨b, 0, none⟩)] w fun e w' => e = .returned (.string nm) ∧ w' = w := by
  go_enter Tryz.func128, Tryz.ntmps128
  go_wp2
  go_ret
  exact ⟨rfl, rfl⟩
set_option maxRecDepth 100000 in
theorem name_Enum (h : w.cell? ⟨b, 0, none⟩ = some (.string nm)) : Calls Tryz.prog 126 #[.pointer (some ⟨b, 0, none⟩)] w fun e w' => e = .returned (.string nm) ∧ w' = w := by
  go_enter Tryz.func126, Tryz.ntmps126
  go_wp2
  go_ret
  exact ⟨rfl, rfl⟩
set_option maxRecDepth 100000 in
theorem name_Struct (h : w.cell? ⟨b, 0, none⟩ = some (.string nm)) : Calls Tryz.prog 132 #[.pointer (some ⟨b, 0, none⟩)] w fun e w' => e = .returned (.string nm) ∧ w' = w := by
  go_enter Tryz.func132, Tryz.ntmps132
  go_wp2
  go_ret
  exact ⟨rfl, rfl⟩
set_option maxRecDepth 100000 in
theorem name_Pointer (v : Value) : Calls Tryz.prog 140 #[v] w fun e w' => e = .returned (.string ⟨#[]⟩) ∧ w' = w := by
  go_enter Tryz.func140, Tryz.ntmps140
  go_wp2
  go_ret
  exact ⟨rfl, rfl⟩
set_option maxRecDepth 100000 in
theorem name_Array (v : Value) : Calls Tryz.prog 143 #[v] w fun e w' => e = .returned (.string ⟨#[]⟩) ∧ w' = w := by
  go_enter Tryz.func143, Tryz.ntmps143
  go_wp2
  go_ret
  exact ⟨rfl, rfl⟩
set_option maxRecDepth 100000 in
theorem members_Struct (v : Value) (h : w.cell? ⟨b, 2, none⟩ = some v) : Calls Tryz.prog 134 #[.pointer (some ⟨b, 0, none⟩)] w fun e w' => e = .returned v ∧ w' = w := by
  go_enter Tryz.func134, Tryz.ntmps134
  go_wp2
  go_ret
  exact ⟨rfl, rfl⟩
end
set_option maxRecDepth 100000 in
set_option maxHeartbeats 2000000 in
theorem encoding_any (w : World) (b c : Nat) (s1 s2 : Int) (g1 g2 : Bool) (x1 : w.cell? ⟨b, 1, none⟩ = some (.int .u32 s1)) (y1 : w.cell? ⟨c, 1, none⟩ = some (.int .u32 s2))
    (x2 : w.cell? ⟨b, 2, none⟩ = some (.int .u8 (if g1 then 1 else 0))) (y2 : w.cell? ⟨c, 2, none⟩ = some (.int .u8 (if g2 then 1 else 0))) :
    Calls Tryz.prog 72 #[.pointer (some ⟨b, 0, none⟩), .pointer (some ⟨c, 0, none⟩)] w fun e w' => e = .returned (.bool (s1 == s2 && g1 == g2)) ∧ Below w.heap.size w w' := by
  by_cases hs : s1 = s2
  · subst hs
    cases g1 <;> cases g2
    all_goals
      simp only [if_true, Bool.false_eq_true, if_false] at x2 y2
      go_enter Tryz.func72, Tryz.ntmps72
      go_wp2_with fail
      go_quiet (fail)
      go_wp2_with fail
      go_ret
      exact ⟨by rw [beq_self_eq_true]; rfl, below_drewN (Below.refl _ _) _⟩
  · have hsz : (s1 == s2) = false := by simpa using hs
    clear hs
    go_enter Tryz.func72, Tryz.ntmps72
    go_wp2_with fail
    go_quiet (fail)
    go_wp2_with fail
    go_ret
    exact ⟨by rw [hsz]; rfl, below_drewN (Below.refl _ _) _⟩
end Go.Proofs.YtfilbgmbmlmdbaaGreatDoor

namespace Go.Proofs.YtfilbgmbmlmdbaaGreatDoor
open Go.RowKit Go.MapKept

theorem ess_two {a b : ByteArray} (ha : a.size = 2) (hb : b.size = 2) : ess a b = (a == b) := by
  simp [ess, ha, hb]
set_option linter.unusedSimpArgs false in
set_option maxRecDepth 100000 in
set_option maxHeartbeats 4000000 in
theorem enums_any {w : World} {ob1 ob2 : Nat → Nat} {t1 t2 q1 q2 vg1 vg2 cap1 cap2 : Nat} {vn1 vn2 : Nat → ByteArray} {vv1 vv2 : Nat → Int} {ev : Value} (o1 : EnumObj w ob1 t1 q1 vg1 cap1 vn1 vv1) (o2 : EnumObj w ob2 t2 q2 vg2 cap2 vn2 vv2)
    (x1 : w.cell? ⟨ob1 (t1 + 1), 1, none⟩ = some (.int .u32 4)) (y1 : w.cell? ⟨ob2 (t2 + 1), 1, none⟩ = some (.int .u32 4)) (hev : w.cell? ⟨3, 0, none⟩ = some ev)
    (hq1 : q1 ≤ 1000) (hq2 : q2 ≤ 1000) (s1 : ∀ j, j < q1 → (vn1 j).size = 2) (s2 : ∀ j, j < q2 → (vn2 j).size = 2) :
    Calls Tryz.prog 71 #[.pointer (some ⟨ob1 (t1 + 1), 0, none⟩), .pointer (some ⟨ob2 (t2 + 1), 0, none⟩)] w fun e w' => e = .returned (if (decide (q1 ≤ q2) && allB q1 fun i => anyB q2 fun j => vn1 i == vn2 j && true) = true then .nilIface else ev) ∧ Below w.heap.size w w' := by
  obtain ⟨x3, lb, lv1, r1⟩ := o1
  obtain ⟨y3, lc, lv2, r2⟩ := o2
  have le := World.block_lt_of_cell? w _ hev
  simp only at le
  have R1 := Lib.hid r1
  have R2 := Lib.hid r2
  have S1 := Lib.hid s1
  have S2 := Lib.hid s2
  clear r1 r2 s1 s2
  obtain ⟨b, hb⟩ : ∃ b, b = ob1 (t1 + 1) := ⟨_, rfl⟩
  obtain ⟨c, hc⟩ : ∃ c, c = ob2 (t2 + 1) := ⟨_, rfl⟩
  rw [← hb] at x3 lb x1 ⊢
  rw [← hc] at y3 lc y1 ⊢
  clear hb hc
  by_cases hle : q1 ≤ q2
  · have hgt : ¬ (q2 : Int) < q1 := by omega
    have hgt2 : decide (q2 < q1) = false := decide_eq_false (by omega)
    have HLE := Lib.hid hle
    clear hle
    go_enter Tryz.func71, Tryz.ntmps71
    go_wp2_with fail
    go_step3
    go_wp2_with fail
    go_quiet (fail)
    go_wp2_with fail
    go_quiet (fail)
    go_wp2_with fail
    go_step3
    go_wp2_with fail
    obtain ⟨wA, rfl⟩ : ∃ wA : World, wA = w := ⟨_, rfl⟩
    go_loopg [36] q1 (fun gk s36 wr => ∃ i : Nat, i ≤ q1 ∧ q1 - i ≤ gk ∧ s36 = .int .i64 (i : Int) ∧ Hid (Below wA.heap.size wA wr) ∧ Hid (allB i (fun i => anyB q2 fun j => vn1 i == vn2 j && true) = true))
    case atStart => exact ⟨0, Nat.zero_le _, Nat.le_refl _, rfl, Lib.hid (below_drewN (Below.refl _ _) _), Lib.hid rfl⟩
    case round =>
      obtain ⟨i, hi, hgk, rfl, HB, HA⟩ := hrel
      by_cases hlt : i < q1
      · have f0 := (HB.out.cell (p := ⟨vg1, i * 2, none⟩) lv1).trans (R1.out i hlt).1
        have f1 := (HB.out.cell (p := ⟨vg1, i * 2 + 1, none⟩) lv1).trans (R1.out i hlt).2
        have y3w := (HB.out.cell (p := ⟨c, 3, none⟩) lc).trans y3
        have lg := Nat.lt_of_lt_of_le lv1 HB.out.size
        have lcw := Nat.lt_of_lt_of_le lc HB.out.size
        obtain ⟨z, hz⟩ : ∃ z, z = IntKind.u64.wrap (vv1 i) := ⟨_, rfl⟩
        rw [← hz] at f1
        clear hz
        go_wp2_with fail
        refine wp_world (fun W => Hid (Below wA.heap.size wA W) ∧ W.cell? ⟨wr.heap.size, 0, none⟩ = some (.string (vn1 i)) ∧ wr.heap.size < W.heap.size) ⟨Lib.hid (HB.out.alloc HB.out.size _), (Blk.new _ _ _).cell 0, by simp⟩ (fun W hW => ?_)
        obtain ⟨HBW, u0, lu⟩ := hW
        obtain ⟨sb, hsb⟩ : ∃ sb : Nat, sb = wr.heap.size := ⟨_, rfl⟩
        rw [← hsb] at u0 lu ⊢
        clear hsb f0 f1 lg y3w lcw HB
        go_loopg [45] q2 (fun gj s45 wx => ∃ j : Nat, j ≤ q2 ∧ q2 - j ≤ gj ∧ s45 = .int .i64 (j : Int) ∧ Hid (Below W.heap.size W wx) ∧ Hid (anyB j (fun j => vn1 i == vn2 j && true) = false))
        case atStart => exact ⟨0, Nat.zero_le _, Nat.le_refl _, rfl, Lib.hid (Below.refl _ _), Lib.hid rfl⟩
        case round =>
          obtain ⟨j, hj, hgj, rfl, HX, HN⟩ := hrel
          have HXA : Hid (Below wA.heap.size wA wr) := Lib.hid (HBW.out.trans (HX.out.mono HBW.out.size))
          by_cases hlj : j < q2
          · have f0 := (HXA.out.cell (p := ⟨vg2, j * 2, none⟩) lv2).trans (R2.out j hlj).1
            have f1 := (HXA.out.cell (p := ⟨vg2, j * 2 + 1, none⟩) lv2).trans (R2.out j hlj).2
            have lg := Nat.lt_of_lt_of_le lv2 HXA.out.size
            have u0w := (HX.out.cell (p := ⟨sb, 0, none⟩) lu).trans u0
            have luw := Nat.lt_of_lt_of_le lu HX.out.size
            obtain ⟨z, hz⟩ : ∃ z, z = IntKind.u64.wrap (vv2 j) := ⟨_, rfl⟩
            rw [← hz] at f1
            clear hz
            go_wp2_with fail
            refine (names_any _ _ _ (by rw [S1.out i hlt]; exact Nat.le_refl _) (by rw [S2.out j hlj]; exact Nat.le_refl _)).mono ?_
            rintro e w7 ⟨rfl, rfl⟩
            rw [ess_two (S1.out i hlt) (S2.out j hlj)]
            cases hnm : vn1 i == vn2 j with
            | true =>
              have HT : Hid (anyB q2 (fun j => vn1 i == vn2 j && true) = true) := Lib.hid ((anyB_iff _ _).2 ⟨j, hlj, by rw [hnm]; rfl⟩)
              clear hnm
              go_wp2_with fail
              go_roundg (q1 - (i + 1))
              case measure => omega
              case rel => exact ⟨i + 1, hlt, Nat.le_refl _, by go_num, Lib.hid (HXA.out.alloc HXA.out.size _), Lib.hid (by rw [allB_succ, HA.out, HT.out]; rfl)⟩
            | false =>
              have Hnm := Lib.hid hnm
              clear hnm
              go_wp2_with fail
              go_roundg (q2 - (j + 1))
              case measure => omega
              case rel => exact ⟨j + 1, hlj, Nat.le_refl _, by go_num, Lib.hid (HX.out.alloc HX.out.size _), Lib.hid (by rw [anyB_succ, HN.out, Hnm.out]; rfl)⟩
          · obtain rfl : j = q2 := by omega
            have hevw := (HXA.out.cell (p := ⟨3, 0, none⟩) le).trans hev
            have lew := Nat.lt_of_lt_of_le le HXA.out.size
            go_wp2_with fail
            rw [Exit.noGoto_ret]
            go_ret
            exact ⟨by rw [allB_false hlt HN.out, Bool.and_false]; rfl, HXA.out⟩
      · obtain rfl : i = q1 := by omega
        go_wp2_with fail
        rw [Exit.noGoto_ret]
        go_ret
        exact ⟨by rw [HA.out, decide_eq_true HLE.out]; rfl, HB.out⟩
  · have hgt : (q2 : Int) < q1 := by omega
    have HLE := Lib.hid hle
    clear hle
    go_enter Tryz.func71, Tryz.ntmps71
    go_wp2_with fail
    go_step3
    go_wp2_with fail
    go_quiet (fail)
    go_wp2_with fail
    go_quiet (fail)
    go_wp2_with fail
    rw [Exit.noGoto_ret]
    go_ret
    exact ⟨by rw [decide_eq_false HLE.out, Bool.false_and]; rfl, below_drewN (Below.refl _ _) _⟩
#print axioms enums_any
end Go.Proofs.YtfilbgmbmlmdbaaGreatDoor
