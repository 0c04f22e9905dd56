/- What a type is behind its names and qualifiers, of a kind: the package's own function, of each kind. -/
import Derived.Test.YtfilbgmbmlmdbaaGreatDoorAsA
import Derived.Stop.Asserts
import Derived.WalkMore
import Derived.ScopeJumps
namespace Go.Proofs.YtfilbgmbmlmdbaaGreatDoor
open Go.RowKit

theorem ObjC.kinds {nm : ByteArray} {sz en fl k : Int} {p : TypeId} {cs : Array Value} {ty : TypeId} (h : ObjC nm sz en fl k p cs ty) :
    (k = 1 ∧ p = 151) ∨ (k = 2 ∧ p = 164) ∨ (k = 3 ∧ p = 167) ∨ (k = 4 ∧ p = 162) ∨ (k = 5 ∧ p = 163) ∨ (k = 6 ∧ p = 144) ∨ (k = 8 ∧ p = 196) ∨ (k = 10 ∧ p = 202) := by
  cases h <;> simp
theorem FullC.of8 {w : World} {lo : Nat} {pt : Nat → TypeId} {ob : Nat → Nat} {nm : ByteArray} {sz en fl : Int} {of ix q : Nat} {ys : List Value} {k : Int} {cs : Array Value} (h : FullC w lo pt ob nm sz en fl of ix q ys k cs) (hk : k = 8) :
    cs = #[.string nm, .iface (pt of) (.pointer (some ⟨ob of, 0, none⟩)), .slice none 0 0] := by
  cases h <;> first | rfl | omega
theorem FullC.of10 {w : World} {lo : Nat} {pt : Nat → TypeId} {ob : Nat → Nat} {nm : ByteArray} {sz en fl : Int} {of ix q : Nat} {ys : List Value} {k : Int} {cs : Array Value} (h : FullC w lo pt ob nm sz en fl of ix q ys k cs) (hk : k = 10) :
    cs = #[.iface (pt of) (.pointer (some ⟨ob of, 0, none⟩))] := by
  cases h <;> first | rfl | omega
set_option maxRecDepth 100000 in
set_option maxHeartbeats 2000000 in
theorem qualify_any (w : World) (b : Nat) (p : TypeId) (a : Value) (h : w.cell? ⟨b, 0, none⟩ = some (.iface p a)) : Calls Tryz.prog 158 #[.pointer (some ⟨b, 0, none⟩)] w fun e w' => e = .returned (.iface p a) ∧ w' = w := by
  go_enter Tryz.func158, Tryz.ntmps158
  go_wp2
  go_ret
  exact ⟨rfl, rfl⟩
theorem jump_ret {l : Nat} {J : Act → World → Prop} {Q : Exit → Act → World → Prop} {a : Act} {w : World} : Exit.jump l J Q .ret a w = Q .ret a w := rfl
/-- What a row's type is behind names and qualifiers, of a kind. -/
def asRow (kT : Int) (f : Nat → RowD) (t : Nat) : Option Nat := if (f t).k = kT then some t else if ((f t).k = 8 ∨ (f t).k = 10) ∧ kT = 1 then some ((f t).of - 1) else none
theorem lackQInt (v : Value) (W : World) : (Instr.typeAssert (.iface 151 v) 77 239 true).run Tryz.prog W = .ok (.tuple #[.nilIface, .bool false]) W := run_typeAssert_lacksB Tryz.underlying239 (by kernel_rfl) (by kernel_rfl) v _ W
theorem lackQPointer (v : Value) (W : World) : (Instr.typeAssert (.iface 164 v) 77 239 true).run Tryz.prog W = .ok (.tuple #[.nilIface, .bool false]) W := run_typeAssert_lacksB Tryz.underlying239 (by kernel_rfl) (by kernel_rfl) v _ W
theorem lackQArray (v : Value) (W : World) : (Instr.typeAssert (.iface 167 v) 77 239 true).run Tryz.prog W = .ok (.tuple #[.nilIface, .bool false]) W := run_typeAssert_lacksB Tryz.underlying239 (by kernel_rfl) (by kernel_rfl) v _ W
theorem lackQStruct (v : Value) (W : World) : (Instr.typeAssert (.iface 162 v) 77 239 true).run Tryz.prog W = .ok (.tuple #[.nilIface, .bool false]) W := run_typeAssert_lacksB Tryz.underlying239 (by kernel_rfl) (by kernel_rfl) v _ W
theorem lackQUnion (v : Value) (W : World) : (Instr.typeAssert (.iface 163 v) 77 239 true).run Tryz.prog W = .ok (.tuple #[.nilIface, .bool false]) W := run_typeAssert_lacksB Tryz.underlying239 (by kernel_rfl) (by kernel_rfl) v _ W
theorem lackQEnum (v : Value) (W : World) : (Instr.typeAssert (.iface 144 v) 77 239 true).run Tryz.prog W = .ok (.tuple #[.nilIface, .bool false]) W := run_typeAssert_lacksB Tryz.underlying239 (by kernel_rfl) (by kernel_rfl) v _ W
theorem lackQTypedef (v : Value) (W : World) : (Instr.typeAssert (.iface 196 v) 77 239 true).run Tryz.prog W = .ok (.tuple #[.nilIface, .bool false]) W := run_typeAssert_lacksB Tryz.underlying239 (by kernel_rfl) (by kernel_rfl) v _ W
theorem hasQ (v : Value) (W : World) : (Instr.typeAssert (.iface 202 v) 77 239 true).run Tryz.prog W = .ok (.tuple #[.iface 202 v, .bool true]) W := run_typeAssert_hasB Tryz.underlying239 (by kernel_rfl) v _ W
theorem taNoInt (u : TypeId) (h : u ≠ 151) (W : World) (v : Value) : (Instr.typeAssert (.iface u v) 77 151 true).run Tryz.prog W = .ok (.tuple #[.pointer none, .bool false]) W := ta_no Tryz.underlying151 (fun W => by kernel_rfl) u h W v
set_option linter.unusedSimpArgs false in
set_option maxRecDepth 100000 in
set_option maxHeartbeats 4000000 in
theorem As_Int (w : World) (n og t : Nat) (f : Nat → RowD) (pt : Nat → TypeId) (ob : Nat → Nat) (h : Outs w n f og pt ob) (ht : t < n) (hpl : (f t).k = 8 ∨ (f t).k = 10 → ∃ j, j < n ∧ (f t).of = j + 1 ∧ (f j).k = 1) :
    Calls Tryz.prog 68 #[.iface (pt (t + 1)) (.pointer (some ⟨ob (t + 1), 0, none⟩))] w fun e w' => w' = w ∧ (match asRow 1 f t with
      | some r => r < n ∧ pt (r + 1) = 151 ∧ e = .returned (.tuple #[.pointer (some ⟨ob (r + 1), 0, none⟩), .bool true])
      | none => e = .returned (.tuple #[.pointer none, .bool false])) := by
  obtain ⟨cs, cs0, ty, lo, hob, hbk, hful⟩ := h.full t ht
  rcases hob.kinds with ⟨hk, hp⟩ | ⟨hk, hp⟩ | ⟨hk, hp⟩ | ⟨hk, hp⟩ | ⟨hk, hp⟩ | ⟨hk, hp⟩ | ⟨hk, hp⟩ | ⟨hk, hp⟩
  · have hr : asRow 1 f t = some t := if_pos hk
    rw [hr]
    rw [hp]
    have fay := @ta_yes _ _ Tryz.underlying151
    go_enter Tryz.func68, Tryz.ntmps68
    go_wp2_with fail
    go_step3
    go_wp2_with fail
    go_loopg [0, 4] 1 (fun gk s0 s4 wr => s0 = .iface 151 (.pointer (some ⟨ob (t + 1), 0, none⟩)) ∧ s4 = .int .i64 0 ∧ wr = w)
    case atStart => exact ⟨rfl, rfl, rfl⟩
    case round =>
      obtain ⟨rfl, rfl, rfl⟩ := hrel
      go_wp2_with fail
      simp only [Exit.noGoto_ret]
      go_ret2
      exact ⟨rfl, ht, hp, rfl⟩
  · have hr : asRow 1 f t = none := by unfold asRow; rw [if_neg (by omega), if_neg (by omega)]
    rw [hr]
    rw [hp]
    have fan := taNoInt 164 (by decide)
    have faq := lackQPointer
    have fad := taNoTypedef 164 (by decide)
    go_enter Tryz.func68, Tryz.ntmps68
    go_wp2_with fail
    refine wp_scope_jumps 0 (fun a w' => w' = w ∧ ∃ u0 u1 u2 u3 u4 u5 u6 u7 u8 u9 u10 u11 u12 u13 u14 u15 u16 u17 u18 u19 u20 u21 u22 u23 u24 u25 u26 u27 u28 u29 u30 u31 : Value, a = ⟨#[u0, u1, u2, u3, u4, u5, u6, u7, u8, u9, u10, u11, u12, u13, u14, u15, u16, u17, u18, u19, u20, u21, u22, u23, u24, u25, u26, u27, u28, u29, u30, u31], []⟩) (fun _ _ => 0) rfl ?_ ?_
    · go_wp2_with fail
      go_loopg [0, 4] 1 (fun gk s0 s4 wr => s0 = .iface 164 (.pointer (some ⟨ob (t + 1), 0, none⟩)) ∧ s4 = .int .i64 0 ∧ wr = w)
      case atStart => exact ⟨rfl, rfl, rfl⟩
      case round =>
        obtain ⟨rfl, rfl, rfl⟩ := hrel
        go_wp2_with fail
        go_step3
        simp only [Exit.inBlock, Exit.then]
        exact ⟨rfl, rfl, _, _, _, _, _, _, _, _, _, _, _, _, _, _, _, _, _, _, _, _, _, _, _, _, _, _, _, _, _, _, _, _, rfl⟩
    · rintro a w' ⟨rfl, u0, u1, u2, u3, u4, u5, u6, u7, u8, u9, u10, u11, u12, u13, u14, u15, u16, u17, u18, u19, u20, u21, u22, u23, u24, u25, u26, u27, u28, u29, u30, u31, rfl⟩
      go_wp2_with fail
      simp only [jump_ret]
      go_ret2
      exact ⟨rfl, rfl⟩
  · have hr : asRow 1 f t = none := by unfold asRow; rw [if_neg (by omega), if_neg (by omega)]
    rw [hr]
    rw [hp]
    have fan := taNoInt 167 (by decide)
    have faq := lackQArray
    have fad := taNoTypedef 167 (by decide)
    go_enter Tryz.func68, Tryz.ntmps68
    go_wp2_with fail
    refine wp_scope_jumps 0 (fun a w' => w' = w ∧ ∃ u0 u1 u2 u3 u4 u5 u6 u7 u8 u9 u10 u11 u12 u13 u14 u15 u16 u17 u18 u19 u20 u21 u22 u23 u24 u25 u26 u27 u28 u29 u30 u31 : Value, a = ⟨#[u0, u1, u2, u3, u4, u5, u6, u7, u8, u9, u10, u11, u12, u13, u14, u15, u16, u17, u18, u19, u20, u21, u22, u23, u24, u25, u26, u27, u28, u29, u30, u31], []⟩) (fun _ _ => 0) rfl ?_ ?_
    · go_wp2_with fail
      go_loopg [0, 4] 1 (fun gk s0 s4 wr => s0 = .iface 167 (.pointer (some ⟨ob (t + 1), 0, none⟩)) ∧ s4 = .int .i64 0 ∧ wr = w)
      case atStart => exact ⟨rfl, rfl, rfl⟩
      case round =>
        obtain ⟨rfl, rfl, rfl⟩ := hrel
        go_wp2_with fail
        go_step3
        simp only [Exit.inBlock, Exit.then]
        exact ⟨rfl, rfl, _, _, _, _, _, _, _, _, _, _, _, _, _, _, _, _, _, _, _, _, _, _, _, _, _, _, _, _, _, _, _, _, rfl⟩
    · rintro a w' ⟨rfl, u0, u1, u2, u3, u4, u5, u6, u7, u8, u9, u10, u11, u12, u13, u14, u15, u16, u17, u18, u19, u20, u21, u22, u23, u24, u25, u26, u27, u28, u29, u30, u31, rfl⟩
      go_wp2_with fail
      simp only [jump_ret]
      go_ret2
      exact ⟨rfl, rfl⟩
  · have hr : asRow 1 f t = none := by unfold asRow; rw [if_neg (by omega), if_neg (by omega)]
    rw [hr]
    rw [hp]
    have fan := taNoInt 162 (by decide)
    have faq := lackQStruct
    have fad := taNoTypedef 162 (by decide)
    go_enter Tryz.func68, Tryz.ntmps68
    go_wp2_with fail
    refine wp_scope_jumps 0 (fun a w' => w' = w ∧ ∃ u0 u1 u2 u3 u4 u5 u6 u7 u8 u9 u10 u11 u12 u13 u14 u15 u16 u17 u18 u19 u20 u21 u22 u23 u24 u25 u26 u27 u28 u29 u30 u31 : Value, a = ⟨#[u0, u1, u2, u3, u4, u5, u6, u7, u8, u9, u10, u11, u12, u13, u14, u15, u16, u17, u18, u19, u20, u21, u22, u23, u24, u25, u26, u27, u28, u29, u30, u31], []⟩) (fun _ _ => 0) rfl ?_ ?_
    · go_wp2_with fail
      go_loopg [0, 4] 1 (fun gk s0 s4 wr => s0 = .iface 162 (.pointer (some ⟨ob (t + 1), 0, none⟩)) ∧ s4 = .int .i64 0 ∧ wr = w)
      case atStart => exact ⟨rfl, rfl, rfl⟩
      case round =>
        obtain ⟨rfl, rfl, rfl⟩ := hrel
        go_wp2_with fail
        go_step3
        simp only [Exit.inBlock, Exit.then]
        exact ⟨rfl, rfl, _, _, _, _, _, _, _, _, _, _, _, _, _, _, _, _, _, _, _, _, _, _, _, _, _, _, _, _, _, _, _, _, rfl⟩
    · rintro a w' ⟨rfl, u0, u1, u2, u3, u4, u5, u6, u7, u8, u9, u10, u11, u12, u13, u14, u15, u16, u17, u18, u19, u20, u21, u22, u23, u24, u25, u26, u27, u28, u29, u30, u31, rfl⟩
      go_wp2_with fail
      simp only [jump_ret]
      go_ret2
      exact ⟨rfl, rfl⟩
  · have hr : asRow 1 f t = none := by unfold asRow; rw [if_neg (by omega), if_neg (by omega)]
    rw [hr]
    rw [hp]
    have fan := taNoInt 163 (by decide)
    have faq := lackQUnion
    have fad := taNoTypedef 163 (by decide)
    go_enter Tryz.func68, Tryz.ntmps68
    go_wp2_with fail
    refine wp_scope_jumps 0 (fun a w' => w' = w ∧ ∃ u0 u1 u2 u3 u4 u5 u6 u7 u8 u9 u10 u11 u12 u13 u14 u15 u16 u17 u18 u19 u20 u21 u22 u23 u24 u25 u26 u27 u28 u29 u30 u31 : Value, a = ⟨#[u0, u1, u2, u3, u4, u5, u6, u7, u8, u9, u10, u11, u12, u13, u14, u15, u16, u17, u18, u19, u20, u21, u22, u23, u24, u25, u26, u27, u28, u29, u30, u31], []⟩) (fun _ _ => 0) rfl ?_ ?_
    · go_wp2_with fail
      go_loopg [0, 4] 1 (fun gk s0 s4 wr => s0 = .iface 163 (.pointer (some ⟨ob (t + 1), 0, none⟩)) ∧ s4 = .int .i64 0 ∧ wr = w)
      case atStart => exact ⟨rfl, rfl, rfl⟩
      case round =>
        obtain ⟨rfl, rfl, rfl⟩ := hrel
        go_wp2_with fail
        go_step3
        simp only [Exit.inBlock, Exit.then]
        exact ⟨rfl, rfl, _, _, _, _, _, _, _, _, _, _, _, _, _, _, _, _, _, _, _, _, _, _, _, _, _, _, _, _, _, _, _, _, rfl⟩
    · rintro a w' ⟨rfl, u0, u1, u2, u3, u4, u5, u6, u7, u8, u9, u10, u11, u12, u13, u14, u15, u16, u17, u18, u19, u20, u21, u22, u23, u24, u25, u26, u27, u28, u29, u30, u31, rfl⟩
      go_wp2_with fail
      simp only [jump_ret]
      go_ret2
      exact ⟨rfl, rfl⟩
  · have hr : asRow 1 f t = none := by unfold asRow; rw [if_neg (by omega), if_neg (by omega)]
    rw [hr]
    rw [hp]
    have fan := taNoInt 144 (by decide)
    have faq := lackQEnum
    have fad := taNoTypedef 144 (by decide)
    go_enter Tryz.func68, Tryz.ntmps68
    go_wp2_with fail
    refine wp_scope_jumps 0 (fun a w' => w' = w ∧ ∃ u0 u1 u2 u3 u4 u5 u6 u7 u8 u9 u10 u11 u12 u13 u14 u15 u16 u17 u18 u19 u20 u21 u22 u23 u24 u25 u26 u27 u28 u29 u30 u31 : Value, a = ⟨#[u0, u1, u2, u3, u4, u5, u6, u7, u8, u9, u10, u11, u12, u13, u14, u15, u16, u17, u18, u19, u20, u21, u22, u23, u24, u25, u26, u27, u28, u29, u30, u31], []⟩) (fun _ _ => 0) rfl ?_ ?_
    · go_wp2_with fail
      go_loopg [0, 4] 1 (fun gk s0 s4 wr => s0 = .iface 144 (.pointer (some ⟨ob (t + 1), 0, none⟩)) ∧ s4 = .int .i64 0 ∧ wr = w)
      case atStart => exact ⟨rfl, rfl, rfl⟩
      case round =>
        obtain ⟨rfl, rfl, rfl⟩ := hrel
        go_wp2_with fail
        go_step3
        simp only [Exit.inBlock, Exit.then]
        exact ⟨rfl, rfl, _, _, _, _, _, _, _, _, _, _, _, _, _, _, _, _, _, _, _, _, _, _, _, _, _, _, _, _, _, _, _, _, rfl⟩
    · rintro a w' ⟨rfl, u0, u1, u2, u3, u4, u5, u6, u7, u8, u9, u10, u11, u12, u13, u14, u15, u16, u17, u18, u19, u20, u21, u22, u23, u24, u25, u26, u27, u28, u29, u30, u31, rfl⟩
      go_wp2_with fail
      simp only [jump_ret]
      go_ret2
      exact ⟨rfl, rfl⟩
  · obtain ⟨j, hjn, hof, hkj⟩ := hpl (.inl hk)
    obtain ⟨csj, csj0, tyj, loj, hobj, hbkj, _⟩ := h.full j hjn
    have hpj : pt (j + 1) = 151 := by rcases hobj.kinds with ⟨e, e2⟩ | ⟨e, e2⟩ | ⟨e, e2⟩ | ⟨e, e2⟩ | ⟨e, e2⟩ | ⟨e, e2⟩ | ⟨e, e2⟩ | ⟨e, e2⟩ <;> first | exact e2 | (rw [hkj] at e; omega)
    have hcs := hful.of8 hk
    rw [hof, hpj] at hcs
    subst hcs
    have hcell := hbk.cell 1
    simp only [List.getElem?_toArray, List.getElem?_cons_zero, List.getElem?_cons_succ] at hcell
    have hlt := hbk.lt
    have hr : asRow 1 f t = some j := by unfold asRow; rw [if_neg (by omega), if_pos ⟨.inl hk, rfl⟩, hof]; rfl
    rw [hr]
    rw [hp]
    have fan := taNoInt 196 (by decide)
    have faq := lackQTypedef
    have fad := @ta_yes _ _ Tryz.underlying196
    have fby := @ta_yes _ _ Tryz.underlying151
    go_enter Tryz.func68, Tryz.ntmps68
    go_wp2_with fail
    go_step3
    go_wp2_with fail
    go_loopg [0, 4] 1 (fun gk s0 s4 wr => wr = w ∧ ((gk = 1 ∧ s0 = .iface 196 (.pointer (some ⟨ob (t + 1), 0, none⟩)) ∧ s4 = .int .i64 0) ∨ (gk = 0 ∧ s0 = .iface 151 (.pointer (some ⟨ob (j + 1), 0, none⟩)) ∧ s4 = .int .i64 1)))
    case atStart => exact ⟨rfl, .inl ⟨rfl, rfl, rfl⟩⟩
    case round =>
      obtain ⟨rfl, ⟨rfl, rfl, rfl⟩ | ⟨rfl, rfl, rfl⟩⟩ := hrel
      · go_wp2_with fail
        go_roundg 0
        case measure => omega
        case rel => exact ⟨rfl, .inr ⟨rfl, rfl, by go_num⟩⟩
      · go_wp2_with fail
        simp only [Exit.noGoto_ret]
        go_ret2
        exact ⟨rfl, hjn, hpj, rfl⟩
  · obtain ⟨j, hjn, hof, hkj⟩ := hpl (.inr hk)
    obtain ⟨csj, csj0, tyj, loj, hobj, hbkj, _⟩ := h.full j hjn
    have hpj : pt (j + 1) = 151 := by rcases hobj.kinds with ⟨e, e2⟩ | ⟨e, e2⟩ | ⟨e, e2⟩ | ⟨e, e2⟩ | ⟨e, e2⟩ | ⟨e, e2⟩ | ⟨e, e2⟩ | ⟨e, e2⟩ <;> first | exact e2 | (rw [hkj] at e; omega)
    have hcs := hful.of10 hk
    rw [hof, hpj] at hcs
    subst hcs
    have hcell := hbk.cell 0
    simp only [List.getElem?_toArray, List.getElem?_cons_zero, List.getElem?_cons_succ] at hcell
    have hlt := hbk.lt
    have hr : asRow 1 f t = some j := by unfold asRow; rw [if_neg (by omega), if_pos ⟨.inr hk, rfl⟩, hof]; rfl
    rw [hr]
    rw [hp]
    have fan := taNoInt 202 (by decide)
    have faq := hasQ
    have fad := taNoTypedef 202 (by decide)
    have fby := @ta_yes _ _ Tryz.underlying151
    go_enter Tryz.func68, Tryz.ntmps68
    go_wp2_with fail
    go_step3
    go_wp2_with fail
    go_loopg [0, 4] 1 (fun gk s0 s4 wr => wr = w ∧ ((gk = 1 ∧ s0 = .iface 202 (.pointer (some ⟨ob (t + 1), 0, none⟩)) ∧ s4 = .int .i64 0) ∨ (gk = 0 ∧ s0 = .iface 151 (.pointer (some ⟨ob (j + 1), 0, none⟩)) ∧ s4 = .int .i64 1)))
    case atStart => exact ⟨rfl, .inl ⟨rfl, rfl, rfl⟩⟩
    case round =>
      obtain ⟨rfl, ⟨rfl, rfl, rfl⟩ | ⟨rfl, rfl, rfl⟩⟩ := hrel
      · go_wp2_with fail
        refine (qualify_any _ _ _ _ hcell).mono ?_
        rintro e w1 ⟨rfl, rfl⟩
        go_wp2_with fail
        go_roundg 0
        case measure => omega
        case rel => exact ⟨rfl, .inr ⟨rfl, rfl, by go_num⟩⟩
      · go_wp2_with fail
        simp only [Exit.noGoto_ret]
        go_ret2
        exact ⟨rfl, hjn, hpj, rfl⟩
#print axioms As_Int
end Go.Proofs.YtfilbgmbmlmdbaaGreatDoor
