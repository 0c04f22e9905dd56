/- What a type is behind its names and qualifiers, of a kind: the package's own function, of further kinds. -/
import Derived.Test.YtfilbgmbmlmdbaaGreatDoorAsB
namespace Go.Proofs.YtfilbgmbmlmdbaaGreatDoor
open Go.RowKit
set_option linter.unusedSimpArgs false in
set_option maxRecDepth 100000 in
set_option maxHeartbeats 4000000 in
theorem As_Enum (w : World) (n og t : Nat) (f : Nat → RowD) (pt : Nat → TypeId) (ob : Nat → Nat) (h : Outs w n f og pt ob) (ht : t < n) (hpl : (f t).k = 8 ∨ (f t).k = 10 → ∃ j, j < n ∧ (f t).of = j + 1 ∧ (f j).k = 1) :
    Calls Tryz.prog 66 #[.iface (pt (t + 1)) (.pointer (some ⟨ob (t + 1), 0, none⟩))] w fun e w' => w' = w ∧ (match asRow 6 f t with
      | some r => r < n ∧ pt (r + 1) = 144 ∧ e = .returned (.tuple #[.pointer (some ⟨ob (r + 1), 0, none⟩), .bool true])
      | none => e = .returned (.tuple #[.pointer none, .bool false])) := by
  obtain ⟨cs, cs0, ty, lo, hob, hbk, hful⟩ := h.full t ht
  rcases hob.kinds with ⟨hk, hp⟩ | ⟨hk, hp⟩ | ⟨hk, hp⟩ | ⟨hk, hp⟩ | ⟨hk, hp⟩ | ⟨hk, hp⟩ | ⟨hk, hp⟩ | ⟨hk, hp⟩
  · have hr : asRow 6 f t = none := by unfold asRow; rw [if_neg (by omega), if_neg (by omega)]
    rw [hr]
    rw [hp]
    have fan := taNoEnum 151 (by decide)
    have faq := lackQInt
    have fad := taNoTypedef 151 (by decide)
    go_enter Tryz.func66, Tryz.ntmps66
    go_wp2_with fail
    refine wp_scope_jumps 0 (fun a w' => w' = w ∧ ∃ u0 u1 u2 u3 u4 u5 u6 u7 u8 u9 u10 u11 u12 u13 u14 u15 u16 u17 u18 u19 u20 u21 u22 u23 u24 u25 u26 u27 u28 u29 u30 u31 : Value, a = ⟨#[u0, u1, u2, u3, u4, u5, u6, u7, u8, u9, u10, u11, u12, u13, u14, u15, u16, u17, u18, u19, u20, u21, u22, u23, u24, u25, u26, u27, u28, u29, u30, u31], []⟩) (fun _ _ => 0) rfl ?_ ?_
    · go_wp2_with fail
      go_loopg [0, 4] 1 (fun gk s0 s4 wr => s0 = .iface 151 (.pointer (some ⟨ob (t + 1), 0, none⟩)) ∧ s4 = .int .i64 0 ∧ wr = w)
      case atStart => exact ⟨rfl, rfl, rfl⟩
      case round =>
        obtain ⟨rfl, rfl, rfl⟩ := hrel
        go_wp2_with fail
        go_step3
        simp only [Exit.inBlock, Exit.then]
        exact ⟨rfl, rfl, _, _, _, _, _, _, _, _, _, _, _, _, _, _, _, _, _, _, _, _, _, _, _, _, _, _, _, _, _, _, _, _, rfl⟩
    · rintro a w' ⟨rfl, u0, u1, u2, u3, u4, u5, u6, u7, u8, u9, u10, u11, u12, u13, u14, u15, u16, u17, u18, u19, u20, u21, u22, u23, u24, u25, u26, u27, u28, u29, u30, u31, rfl⟩
      go_wp2_with fail
      simp only [jump_ret]
      go_ret2
      exact ⟨rfl, rfl⟩
  · have hr : asRow 6 f t = none := by unfold asRow; rw [if_neg (by omega), if_neg (by omega)]
    rw [hr]
    rw [hp]
    have fan := taNoEnum 164 (by decide)
    have faq := lackQPointer
    have fad := taNoTypedef 164 (by decide)
    go_enter Tryz.func66, Tryz.ntmps66
    go_wp2_with fail
    refine wp_scope_jumps 0 (fun a w' => w' = w ∧ ∃ u0 u1 u2 u3 u4 u5 u6 u7 u8 u9 u10 u11 u12 u13 u14 u15 u16 u17 u18 u19 u20 u21 u22 u23 u24 u25 u26 u27 u28 u29 u30 u31 : Value, a = ⟨#[u0, u1, u2, u3, u4, u5, u6, u7, u8, u9, u10, u11, u12, u13, u14, u15, u16, u17, u18, u19, u20, u21, u22, u23, u24, u25, u26, u27, u28, u29, u30, u31], []⟩) (fun _ _ => 0) rfl ?_ ?_
    · go_wp2_with fail
      go_loopg [0, 4] 1 (fun gk s0 s4 wr => s0 = .iface 164 (.pointer (some ⟨ob (t + 1), 0, none⟩)) ∧ s4 = .int .i64 0 ∧ wr = w)
      case atStart => exact ⟨rfl, rfl, rfl⟩
      case round =>
        obtain ⟨rfl, rfl, rfl⟩ := hrel
        go_wp2_with fail
        go_step3
        simp only [Exit.inBlock, Exit.then]
        exact ⟨rfl, rfl, _, _, _, _, _, _, _, _, _, _, _, _, _, _, _, _, _, _, _, _, _, _, _, _, _, _, _, _, _, _, _, _, rfl⟩
    · rintro a w' ⟨rfl, u0, u1, u2, u3, u4, u5, u6, u7, u8, u9, u10, u11, u12, u13, u14, u15, u16, u17, u18, u19, u20, u21, u22, u23, u24, u25, u26, u27, u28, u29, u30, u31, rfl⟩
      go_wp2_with fail
      simp only [jump_ret]
      go_ret2
      exact ⟨rfl, rfl⟩
  · have hr : asRow 6 f t = none := by unfold asRow; rw [if_neg (by omega), if_neg (by omega)]
    rw [hr]
    rw [hp]
    have fan := taNoEnum 167 (by decide)
    have faq := lackQArray
    have fad := taNoTypedef 167 (by decide)
    go_enter Tryz.func66, Tryz.ntmps66
    go_wp2_with fail
    refine wp_scope_jumps 0 (fun a w' => w' = w ∧ ∃ u0 u1 u2 u3 u4 u5 u6 u7 u8 u9 u10 u11 u12 u13 u14 u15 u16 u17 u18 u19 u20 u21 u22 u23 u24 u25 u26 u27 u28 u29 u30 u31 : Value, a = ⟨#[u0, u1, u2, u3, u4, u5, u6, u7, u8, u9, u10, u11, u12, u13, u14, u15, u16, u17, u18, u19, u20, u21, u22, u23, u24, u25, u26, u27, u28, u29, u30, u31], []⟩) (fun _ _ => 0) rfl ?_ ?_
    · go_wp2_with fail
      go_loopg [0, 4] 1 (fun gk s0 s4 wr => s0 = .iface 167 (.pointer (some ⟨ob (t + 1), 0, none⟩)) ∧ s4 = .int .i64 0 ∧ wr = w)
      case atStart => exact ⟨rfl, rfl, rfl⟩
      case round =>
        obtain ⟨rfl, rfl, rfl⟩ := hrel
        go_wp2_with fail
        go_step3
        simp only [Exit.inBlock, Exit.then]
        exact ⟨rfl, rfl, _, _, _, _, _, _, _, _, _, _, _, _, _, _, _, _, _, _, _, _, _, _, _, _, _, _, _, _, _, _, _, _, rfl⟩
    · rintro a w' ⟨rfl, u0, u1, u2, u3, u4, u5, u6, u7, u8, u9, u10, u11, u12, u13, u14, u15, u16, u17, u18, u19, u20, u21, u22, u23, u24, u25, u26, u27, u28, u29, u30, u31, rfl⟩
      go_wp2_with fail
      simp only [jump_ret]
      go_ret2
      exact ⟨rfl, rfl⟩
  · have hr : asRow 6 f t = none := by unfold asRow; rw [if_neg (by omega), if_neg (by omega)]
    rw [hr]
    rw [hp]
    have fan := taNoEnum 162 (by decide)
    have faq := lackQStruct
    have fad := taNoTypedef 162 (by decide)
    go_enter Tryz.func66, Tryz.ntmps66
    go_wp2_with fail
    refine wp_scope_jumps 0 (fun a w' => w' = w ∧ ∃ u0 u1 u2 u3 u4 u5 u6 u7 u8 u9 u10 u11 u12 u13 u14 u15 u16 u17 u18 u19 u20 u21 u22 u23 u24 u25 u26 u27 u28 u29 u30 u31 : Value, a = ⟨#[u0, u1, u2, u3, u4, u5, u6, u7, u8, u9, u10, u11, u12, u13, u14, u15, u16, u17, u18, u19, u20, u21, u22, u23, u24, u25, u26, u27, u28, u29, u30, u31], []⟩) (fun _ _ => 0) rfl ?_ ?_
    · go_wp2_with fail
      go_loopg [0, 4] 1 (fun gk s0 s4 wr => s0 = .iface 162 (.pointer (some ⟨ob (t + 1), 0, none⟩)) ∧ s4 = .int .i64 0 ∧ wr = w)
      case atStart => exact ⟨rfl, rfl, rfl⟩
      case round =>
        obtain ⟨rfl, rfl, rfl⟩ := hrel
        go_wp2_with fail
        go_step3
        simp only [Exit.inBlock, Exit.then]
        exact ⟨rfl, rfl, _, _, _, _, _, _, _, _, _, _, _, _, _, _, _, _, _, _, _, _, _, _, _, _, _, _, _, _, _, _, _, _, rfl⟩
    · rintro a w' ⟨rfl, u0, u1, u2, u3, u4, u5, u6, u7, u8, u9, u10, u11, u12, u13, u14, u15, u16, u17, u18, u19, u20, u21, u22, u23, u24, u25, u26, u27, u28, u29, u30, u31, rfl⟩
      go_wp2_with fail
      simp only [jump_ret]
      go_ret2
      exact ⟨rfl, rfl⟩
  · have hr : asRow 6 f t = none := by unfold asRow; rw [if_neg (by omega), if_neg (by omega)]
    rw [hr]
    rw [hp]
    have fan := taNoEnum 163 (by decide)
    have faq := lackQUnion
    have fad := taNoTypedef 163 (by decide)
    go_enter Tryz.func66, Tryz.ntmps66
    go_wp2_with fail
    refine wp_scope_jumps 0 (fun a w' => w' = w ∧ ∃ u0 u1 u2 u3 u4 u5 u6 u7 u8 u9 u10 u11 u12 u13 u14 u15 u16 u17 u18 u19 u20 u21 u22 u23 u24 u25 u26 u27 u28 u29 u30 u31 : Value, a = ⟨#[u0, u1, u2, u3, u4, u5, u6, u7, u8, u9, u10, u11, u12, u13, u14, u15, u16, u17, u18, u19, u20, u21, u22, u23, u24, u25, u26, u27, u28, u29, u30, u31], []⟩) (fun _ _ => 0) rfl ?_ ?_
    · go_wp2_with fail
      go_loopg [0, 4] 1 (fun gk s0 s4 wr => s0 = .iface 163 (.pointer (some ⟨ob (t + 1), 0, none⟩)) ∧ s4 = .int .i64 0 ∧ wr = w)
      case atStart => exact ⟨rfl, rfl, rfl⟩
      case round =>
        obtain ⟨rfl, rfl, rfl⟩ := hrel
        go_wp2_with fail
        go_step3
        simp only [Exit.inBlock, Exit.then]
        exact ⟨rfl, rfl, _, _, _, _, _, _, _, _, _, _, _, _, _, _, _, _, _, _, _, _, _, _, _, _, _, _, _, _, _, _, _, _, rfl⟩
    · rintro a w' ⟨rfl, u0, u1, u2, u3, u4, u5, u6, u7, u8, u9, u10, u11, u12, u13, u14, u15, u16, u17, u18, u19, u20, u21, u22, u23, u24, u25, u26, u27, u28, u29, u30, u31, rfl⟩
      go_wp2_with fail
      simp only [jump_ret]
      go_ret2
      exact ⟨rfl, rfl⟩
  · have hr : asRow 6 f t = some t := if_pos hk
    rw [hr]
    rw [hp]
    have fay := @ta_yes _ _ Tryz.underlying144
    go_enter Tryz.func66, Tryz.ntmps66
    go_wp2_with fail
    go_step3
    go_wp2_with fail
    go_loopg [0, 4] 1 (fun gk s0 s4 wr => s0 = .iface 144 (.pointer (some ⟨ob (t + 1), 0, none⟩)) ∧ s4 = .int .i64 0 ∧ wr = w)
    case atStart => exact ⟨rfl, rfl, rfl⟩
    case round =>
      obtain ⟨rfl, rfl, rfl⟩ := hrel
      go_wp2_with fail
      simp only [Exit.noGoto_ret]
      go_ret2
      exact ⟨rfl, ht, hp, rfl⟩
  · obtain ⟨j, hjn, hof, hkj⟩ := hpl (.inl hk)
    obtain ⟨csj, csj0, tyj, loj, hobj, hbkj, _⟩ := h.full j hjn
    have hpj : pt (j + 1) = 151 := by rcases hobj.kinds with ⟨e, e2⟩ | ⟨e, e2⟩ | ⟨e, e2⟩ | ⟨e, e2⟩ | ⟨e, e2⟩ | ⟨e, e2⟩ | ⟨e, e2⟩ | ⟨e, e2⟩ <;> first | exact e2 | (rw [hkj] at e; omega)
    have hcs := hful.of8 hk
    rw [hof, hpj] at hcs
    subst hcs
    have hcell := hbk.cell 1
    simp only [List.getElem?_toArray, List.getElem?_cons_zero, List.getElem?_cons_succ] at hcell
    have hlt := hbk.lt
    have hr : asRow 6 f t = none := by unfold asRow; rw [if_neg (by omega), if_neg (by omega)]
    rw [hr]
    rw [hp]
    have fan := taNoEnum 196 (by decide)
    have faq := lackQTypedef
    have fad := @ta_yes _ _ Tryz.underlying196
    have fbn := taNoEnum 151 (by decide)
    have fbq := lackQInt
    have fbd := taNoTypedef 151 (by decide)
    go_enter Tryz.func66, Tryz.ntmps66
    go_wp2_with fail
    refine wp_scope_jumps 0 (fun a w' => w' = w ∧ ∃ u0 u1 u2 u3 u4 u5 u6 u7 u8 u9 u10 u11 u12 u13 u14 u15 u16 u17 u18 u19 u20 u21 u22 u23 u24 u25 u26 u27 u28 u29 u30 u31 : Value, a = ⟨#[u0, u1, u2, u3, u4, u5, u6, u7, u8, u9, u10, u11, u12, u13, u14, u15, u16, u17, u18, u19, u20, u21, u22, u23, u24, u25, u26, u27, u28, u29, u30, u31], []⟩) (fun _ _ => 0) rfl ?_ ?_
    · go_wp2_with fail
      go_loopg [0, 4] 1 (fun gk s0 s4 wr => wr = w ∧ ((gk = 1 ∧ s0 = .iface 196 (.pointer (some ⟨ob (t + 1), 0, none⟩)) ∧ s4 = .int .i64 0) ∨ (gk = 0 ∧ s0 = .iface 151 (.pointer (some ⟨ob (j + 1), 0, none⟩)) ∧ s4 = .int .i64 1)))
      case atStart => exact ⟨rfl, .inl ⟨rfl, rfl, rfl⟩⟩
      case round =>
        obtain ⟨rfl, ⟨rfl, rfl, rfl⟩ | ⟨rfl, rfl, rfl⟩⟩ := hrel
        · go_wp2_with fail
          go_roundg 0
          case measure => omega
          case rel => exact ⟨rfl, .inr ⟨rfl, rfl, by go_num⟩⟩
        · go_wp2_with fail
          go_step3
          simp only [Exit.inBlock, Exit.then]
          exact ⟨rfl, rfl, _, _, _, _, _, _, _, _, _, _, _, _, _, _, _, _, _, _, _, _, _, _, _, _, _, _, _, _, _, _, _, _, rfl⟩
    · rintro a w' ⟨rfl, u0, u1, u2, u3, u4, u5, u6, u7, u8, u9, u10, u11, u12, u13, u14, u15, u16, u17, u18, u19, u20, u21, u22, u23, u24, u25, u26, u27, u28, u29, u30, u31, rfl⟩
      go_wp2_with fail
      simp only [jump_ret]
      go_ret2
      exact ⟨rfl, rfl⟩
  · obtain ⟨j, hjn, hof, hkj⟩ := hpl (.inr hk)
    obtain ⟨csj, csj0, tyj, loj, hobj, hbkj, _⟩ := h.full j hjn
    have hpj : pt (j + 1) = 151 := by rcases hobj.kinds with ⟨e, e2⟩ | ⟨e, e2⟩ | ⟨e, e2⟩ | ⟨e, e2⟩ | ⟨e, e2⟩ | ⟨e, e2⟩ | ⟨e, e2⟩ | ⟨e, e2⟩ <;> first | exact e2 | (rw [hkj] at e; omega)
    have hcs := hful.of10 hk
    rw [hof, hpj] at hcs
    subst hcs
    have hcell := hbk.cell 0
    simp only [List.getElem?_toArray, List.getElem?_cons_zero, List.getElem?_cons_succ] at hcell
    have hlt := hbk.lt
    have hr : asRow 6 f t = none := by unfold asRow; rw [if_neg (by omega), if_neg (by omega)]
    rw [hr]
    rw [hp]
    have fan := taNoEnum 202 (by decide)
    have faq := hasQ
    have fad := taNoTypedef 202 (by decide)
    have fbn := taNoEnum 151 (by decide)
    have fbq := lackQInt
    have fbd := taNoTypedef 151 (by decide)
    go_enter Tryz.func66, Tryz.ntmps66
    go_wp2_with fail
    refine wp_scope_jumps 0 (fun a w' => w' = w ∧ ∃ u0 u1 u2 u3 u4 u5 u6 u7 u8 u9 u10 u11 u12 u13 u14 u15 u16 u17 u18 u19 u20 u21 u22 u23 u24 u25 u26 u27 u28 u29 u30 u31 : Value, a = ⟨#[u0, u1, u2, u3, u4, u5, u6, u7, u8, u9, u10, u11, u12, u13, u14, u15, u16, u17, u18, u19, u20, u21, u22, u23, u24, u25, u26, u27, u28, u29, u30, u31], []⟩) (fun _ _ => 0) rfl ?_ ?_
    · go_wp2_with fail
      go_loopg [0, 4] 1 (fun gk s0 s4 wr => wr = w ∧ ((gk = 1 ∧ s0 = .iface 202 (.pointer (some ⟨ob (t + 1), 0, none⟩)) ∧ s4 = .int .i64 0) ∨ (gk = 0 ∧ s0 = .iface 151 (.pointer (some ⟨ob (j + 1), 0, none⟩)) ∧ s4 = .int .i64 1)))
      case atStart => exact ⟨rfl, .inl ⟨rfl, rfl, rfl⟩⟩
      case round =>
        obtain ⟨rfl, ⟨rfl, rfl, rfl⟩ | ⟨rfl, rfl, rfl⟩⟩ := hrel
        · go_wp2_with fail
          refine (qualify_any _ _ _ _ hcell).mono ?_
          rintro e w1 ⟨rfl, rfl⟩
          go_wp2_with fail
          go_roundg 0
          case measure => omega
          case rel => exact ⟨rfl, .inr ⟨rfl, rfl, by go_num⟩⟩
        · go_wp2_with fail
          go_step3
          simp only [Exit.inBlock, Exit.then]
          exact ⟨rfl, rfl, _, _, _, _, _, _, _, _, _, _, _, _, _, _, _, _, _, _, _, _, _, _, _, _, _, _, _, _, _, _, _, _, rfl⟩
    · rintro a w' ⟨rfl, u0, u1, u2, u3, u4, u5, u6, u7, u8, u9, u10, u11, u12, u13, u14, u15, u16, u17, u18, u19, u20, u21, u22, u23, u24, u25, u26, u27, u28, u29, u30, u31, rfl⟩
      go_wp2_with fail
      simp only [jump_ret]
      go_ret2
      exact ⟨rfl, rfl⟩
#print axioms As_Enum
end Go.Proofs.YtfilbgmbmlmdbaaGreatDoor
