/- A type with a number of a list; the number of a type in a list. -/
import Derived.Test.YtfilbgmbmlmdbaaGreatDoorZ08
import Derived.Test.YtfilbgmbmlmdbaaGreatDoorZ01
import Derived.LaidEql
import Derived.Stop.Asserts
import Derived.WalkMore
import Derived.ScopeJumps
import Derived.Laws.StructEq
set_option linter.unusedSimpArgs false
set_option linter.unusedVariables false
set_option maxRecDepth 1000000
set_option maxHeartbeats 16000000
namespace Go.Proofs.YtfilbgmbmlmdbaaGreatDoor
open Go.RowKit
structure Outs (w : World) (n : Nat) (f : Nat → RowD) (og : Nat) (pt : Nat → TypeId) (ob : Nat → Nat) : Prop where
 at_ : ∀ i, i < n → w.cell? ⟨og, i, none⟩ = some (.iface (pt (i + 1)) (.pointer (some ⟨ob (i + 1), 0, none⟩)))
 full : ∀ i, i < n → ∃ cs cs0 ty lo, ObjC (f i).nm (f i).sz (f i).en (f i).fl (f i).k (pt (i + 1)) cs0 ty ∧ Blk w (ob (i + 1)) cs ty ∧ FullC w lo pt ob (f i).nm (f i).sz (f i).en (f i).fl (f i).of (f i).ix (f i).q (f i).ys (f i).k cs
 inj : ∀ i j, i < j → j < n → ob (i + 1) < ob (j + 1)
 lt : og < w.heap.size
theorem B2.outs {w wr : World} {n : Nat} {f : Nat → RowD} {og oc lo : Nat} {os : List Value} {pt : Nat → TypeId} {ob : Nat → Nat} (h : B2 w n f og oc lo os pt ob n wr) : Outs wr n f og pt ob :=
 ⟨fun i hi => own_cell h.own (h.has i hi), fun i hi => by
  obtain ⟨cs, cs0, ty, h1, h2, h3⟩ := h.full i hi
  exact ⟨cs, cs0, ty, lo, h1, h2, h3⟩, h.inj, (h.own.lt og rfl).2⟩
theorem one_any (w : World) (n cap g i : Nat) (xs : List Value) (Dx : Nat → Prop) (f : Nat → RowD) (ho : w.ownsRow 0 72 8 (.slice (some ⟨g, 0, none⟩) n cap) n xs) (hn : n ≤ 1000000) (hf : ∀ i, i < n → FitsD w Dx xs n i (f i)) (h1 : i < n) :
  Calls Tryz.prog 34 #[.slice (some ⟨g, 0, none⟩) n cap, .int .i64 ((i : Int) + 1)] w fun e w' => ∃ og pt ob, e = .returned (.tuple #[.iface (pt (i + 1)) (.pointer (some ⟨ob (i + 1), 0, none⟩)), .slice (some ⟨og, 0, none⟩) n n, .bool true]) ∧ Outs w' n f og pt ob ∧ Below w.heap.size w w' := by
 go_enter Tryz.func34, Tryz.ntmps34
 go_wp2_with fail
 refine (build_any w n cap g xs Dx f ho hn hf).mono ?_
 rintro e w1 ⟨og, oc, lo, os, pt, ob, rfl, st⟩
 have hat := st.outs.at_ i h1
 have hi1 : ¬ ((i : Int) + 1) < 1 := by omega
 have hi2 : ¬ (n : Int) < (i : Int) + 1 := by omega
 have his : (i : Int) ≤ 1000000 := by omega
 have hog := st.outs.lt
 go_wp2_with fail
 go_ret3
 exact ⟨og, pt, ob, rfl, st.outs, st.old⟩
theorem key_of {w : World} {b : Nat} {cs : Array Value} {ty p te : TypeId} {z : Nat} (h : Blk w b cs ty) (hu : Tryz.prog.underlying p = some (.pointer te)) (hi : (Tryz.prog.info? p).map (·.comparable) = some true) (hj : (Tryz.prog.info? te).map (·.size) = some (z + 1)) :
  IfaceKey Tryz.prog w (.iface p (.pointer (some ⟨b, 0, none⟩))) := by
 obtain ⟨i, hi1, hi2⟩ := Option.map_eq_some_iff.1 hi
 obtain ⟨j, hj1, hj2⟩ := Option.map_eq_some_iff.1 hj
 exact ⟨p, te, i, j, b, cs, ty, rfl, h, hu, hi1, hi2, hj1, by rw [hj2]; omega⟩
theorem keyInt {w : World} {b : Nat} {cs : Array Value} {ty : TypeId} (h : Blk w b cs ty) : IfaceKey Tryz.prog w (.iface 151 (.pointer (some ⟨b, 0, none⟩))) :=
 key_of h Tryz.underlying151 (by kernel_rfl) (z := 2) (by kernel_rfl)
theorem keyPointer {w : World} {b : Nat} {cs : Array Value} {ty : TypeId} (h : Blk w b cs ty) : IfaceKey Tryz.prog w (.iface 164 (.pointer (some ⟨b, 0, none⟩))) :=
 key_of h Tryz.underlying164 (by kernel_rfl) (z := 0) (by kernel_rfl)
theorem keyArray {w : World} {b : Nat} {cs : Array Value} {ty : TypeId} (h : Blk w b cs ty) : IfaceKey Tryz.prog w (.iface 167 (.pointer (some ⟨b, 0, none⟩))) :=
 key_of h Tryz.underlying167 (by kernel_rfl) (z := 2) (by kernel_rfl)
theorem keyStruct {w : World} {b : Nat} {cs : Array Value} {ty : TypeId} (h : Blk w b cs ty) : IfaceKey Tryz.prog w (.iface 162 (.pointer (some ⟨b, 0, none⟩))) :=
 key_of h Tryz.underlying162 (by kernel_rfl) (z := 3) (by kernel_rfl)
theorem keyUnion {w : World} {b : Nat} {cs : Array Value} {ty : TypeId} (h : Blk w b cs ty) : IfaceKey Tryz.prog w (.iface 163 (.pointer (some ⟨b, 0, none⟩))) :=
 key_of h Tryz.underlying163 (by kernel_rfl) (z := 3) (by kernel_rfl)
theorem keyEnum {w : World} {b : Nat} {cs : Array Value} {ty : TypeId} (h : Blk w b cs ty) : IfaceKey Tryz.prog w (.iface 144 (.pointer (some ⟨b, 0, none⟩))) :=
 key_of h Tryz.underlying144 (by kernel_rfl) (z := 3) (by kernel_rfl)
theorem keyTypedef {w : World} {b : Nat} {cs : Array Value} {ty : TypeId} (h : Blk w b cs ty) : IfaceKey Tryz.prog w (.iface 196 (.pointer (some ⟨b, 0, none⟩))) :=
 key_of h Tryz.underlying196 (by kernel_rfl) (z := 2) (by kernel_rfl)
theorem keyConst {w : World} {b : Nat} {cs : Array Value} {ty : TypeId} (h : Blk w b cs ty) : IfaceKey Tryz.prog w (.iface 202 (.pointer (some ⟨b, 0, none⟩))) :=
 key_of h Tryz.underlying202 (by kernel_rfl) (z := 0) (by kernel_rfl)
theorem ObjC.key {nm : ByteArray} {sz en fl k : Int} {p : TypeId} {cs0 : Array Value} {ty : TypeId} (h : ObjC nm sz en fl k p cs0 ty) {w : World} {b : Nat} {cs : Array Value} (hb : Blk w b cs ty) :
  IfaceKey Tryz.prog w (.iface p (.pointer (some ⟨b, 0, none⟩))) ∧ p ≠ 97 := by
 cases h
 ·exact ⟨keyInt hb, by decide⟩
 ·exact ⟨keyPointer hb, by decide⟩
 ·exact ⟨keyArray hb, by decide⟩
 ·exact ⟨keyStruct hb, by decide⟩
 ·exact ⟨keyUnion hb, by decide⟩
 ·exact ⟨keyEnum hb, by decide⟩
 ·exact ⟨keyTypedef hb, by decide⟩
 ·exact ⟨keyConst hb, by decide⟩
theorem taNoVoid (u : TypeId) (h : u ≠ 97) (W : World) (v : Value) : (Instr.typeAssert (.iface u v) 77 97 true).run Tryz.prog W = .ok (.tuple #[.pointer none, .bool false]) W := ta_no Tryz.underlying97 (fun W => by kernel_rfl) u h W v
theorem ObjC.kinds {nm : ByteArray} {sz en fl k : Int} {p : TypeId} {cs : Array Value} {ty : TypeId} (h : ObjC nm sz en fl k p cs ty) :
  (k = 1 ∧ p = 151) ∨ (k = 2 ∧ p = 164) ∨ (k = 3 ∧ p = 167) ∨ (k = 4 ∧ p = 162) ∨ (k = 5 ∧ p = 163) ∨ (k = 6 ∧ p = 144) ∨ (k = 8 ∧ p = 196) ∨ (k = 10 ∧ p = 202) := by
 cases h <;> simp
theorem FullC.of8 {w : World} {lo : Nat} {pt : Nat → TypeId} {ob : Nat → Nat} {nm : ByteArray} {sz en fl : Int} {of ix q : Nat} {ys : List Value} {k : Int} {cs : Array Value} (h : FullC w lo pt ob nm sz en fl of ix q ys k cs) (hk : k = 8) :
  cs = #[.string nm, .iface (pt of) (.pointer (some ⟨ob of, 0, none⟩)), .slice none 0 0] := by
 cases h <;> first | rfl | omega
theorem FullC.of10 {w : World} {lo : Nat} {pt : Nat → TypeId} {ob : Nat → Nat} {nm : ByteArray} {sz en fl : Int} {of ix q : Nat} {ys : List Value} {k : Int} {cs : Array Value} (h : FullC w lo pt ob nm sz en fl of ix q ys k cs) (hk : k = 10) :
  cs = #[.iface (pt of) (.pointer (some ⟨ob of, 0, none⟩))] := by
 cases h <;> first | rfl | omega
theorem qualify_any (w : World) (b : Nat) (p : TypeId) (a : Value) (h : w.cell? ⟨b, 0, none⟩ = some (.iface p a)) : Calls Tryz.prog 158 #[.pointer (some ⟨b, 0, none⟩)] w fun e w' => e = .returned (.iface p a) ∧ w' = w := by
 go_enter Tryz.func158, Tryz.ntmps158
 go_wp2
 go_ret
 exact ⟨rfl, rfl⟩
theorem jump_ret {l : Nat} {J : Act → World → Prop} {Q : Exit → Act → World → Prop} {a : Act} {w : World} : Exit.jump l J Q .ret a w = Q .ret a w := rfl
def asRow (kT : Int) (f : Nat → RowD) (t : Nat) : Option Nat := if (f t).k = kT then some t else if ((f t).k = 8 ∨ (f t).k = 10) ∧ kT = 1 then some ((f t).of - 1) else none
theorem lackQInt (v : Value) (W : World) : (Instr.typeAssert (.iface 151 v) 77 239 true).run Tryz.prog W = .ok (.tuple #[.nilIface, .bool false]) W := run_typeAssert_lacksB Tryz.underlying239 (by kernel_rfl) (by kernel_rfl) v _ W
theorem lackQPointer (v : Value) (W : World) : (Instr.typeAssert (.iface 164 v) 77 239 true).run Tryz.prog W = .ok (.tuple #[.nilIface, .bool false]) W := run_typeAssert_lacksB Tryz.underlying239 (by kernel_rfl) (by kernel_rfl) v _ W
theorem lackQArray (v : Value) (W : World) : (Instr.typeAssert (.iface 167 v) 77 239 true).run Tryz.prog W = .ok (.tuple #[.nilIface, .bool false]) W := run_typeAssert_lacksB Tryz.underlying239 (by kernel_rfl) (by kernel_rfl) v _ W
theorem lackQStruct (v : Value) (W : World) : (Instr.typeAssert (.iface 162 v) 77 239 true).run Tryz.prog W = .ok (.tuple #[.nilIface, .bool false]) W := run_typeAssert_lacksB Tryz.underlying239 (by kernel_rfl) (by kernel_rfl) v _ W
theorem lackQUnion (v : Value) (W : World) : (Instr.typeAssert (.iface 163 v) 77 239 true).run Tryz.prog W = .ok (.tuple #[.nilIface, .bool false]) W := run_typeAssert_lacksB Tryz.underlying239 (by kernel_rfl) (by kernel_rfl) v _ W
theorem lackQEnum (v : Value) (W : World) : (Instr.typeAssert (.iface 144 v) 77 239 true).run Tryz.prog W = .ok (.tuple #[.nilIface, .bool false]) W := run_typeAssert_lacksB Tryz.underlying239 (by kernel_rfl) (by kernel_rfl) v _ W
theorem lackQTypedef (v : Value) (W : World) : (Instr.typeAssert (.iface 196 v) 77 239 true).run Tryz.prog W = .ok (.tuple #[.nilIface, .bool false]) W := run_typeAssert_lacksB Tryz.underlying239 (by kernel_rfl) (by kernel_rfl) v _ W
theorem hasQ (v : Value) (W : World) : (Instr.typeAssert (.iface 202 v) 77 239 true).run Tryz.prog W = .ok (.tuple #[.iface 202 v, .bool true]) W := run_typeAssert_hasB Tryz.underlying239 (by kernel_rfl) v _ W
theorem taNoInt (u : TypeId) (h : u ≠ 151) (W : World) (v : Value) : (Instr.typeAssert (.iface u v) 77 151 true).run Tryz.prog W = .ok (.tuple #[.pointer none, .bool false]) W := ta_no Tryz.underlying151 (fun W => by kernel_rfl) u h W v
theorem As_Int (w : World) (n og t : Nat) (f : Nat → RowD) (pt : Nat → TypeId) (ob : Nat → Nat) (h : Outs w n f og pt ob) (ht : t < n) (hpl : (f t).k = 8 ∨ (f t).k = 10 → ∃ j, j < n ∧ (f t).of = j + 1 ∧ (f j).k = 1) (hsm : (f t).k = 1 ∨ (f t).k = 8 ∨ (f t).k = 10) :
  Calls Tryz.prog 68 #[.iface (pt (t + 1)) (.pointer (some ⟨ob (t + 1), 0, none⟩))] w fun e w' => w' = w ∧ (match asRow 1 f t with
   | some r => r < n ∧ pt (r + 1) = 151 ∧ e = .returned (.tuple #[.pointer (some ⟨ob (r + 1), 0, none⟩), .bool true])
   | none => e = .returned (.tuple #[.pointer none, .bool false])) := by
 obtain ⟨cs, cs0, ty, lo, hob, hbk, hful⟩ := h.full t ht
 rcases hob.kinds with ⟨hk, hp⟩ | ⟨hk, hp⟩ | ⟨hk, hp⟩ | ⟨hk, hp⟩ | ⟨hk, hp⟩ | ⟨hk, hp⟩ | ⟨hk, hp⟩ | ⟨hk, hp⟩
 ·have hr : asRow 1 f t = some t := if_pos hk
  rw [hr]
  rw [hp]
  have fay := @ta_yes _ _ Tryz.underlying151
  go_enter Tryz.func68, Tryz.ntmps68
  go_wp2_with fail
  go_step3
  go_wp2_with fail
  go_loopg [0, 4] 1 (fun gk s0 s4 wr => s0 = .iface 151 (.pointer (some ⟨ob (t + 1), 0, none⟩)) ∧ s4 = .int .i64 0 ∧ wr = w)
  case atStart => exact ⟨rfl, rfl, rfl⟩
  case round =>
   obtain ⟨rfl, rfl, rfl⟩ := hrel
   go_wp2_with fail
   simp only [Exit.noGoto_ret]
   go_ret2
   exact ⟨rfl, ht, hp, rfl⟩
 ·omega
 ·omega
 ·omega
 ·omega
 ·omega
 ·obtain ⟨j, hjn, hof, hkj⟩ := hpl (.inl hk)
  obtain ⟨csj, csj0, tyj, loj, hobj, hbkj, _⟩ := h.full j hjn
  have hpj : pt (j + 1) = 151 := by rcases hobj.kinds with ⟨e, e2⟩ | ⟨e, e2⟩ | ⟨e, e2⟩ | ⟨e, e2⟩ | ⟨e, e2⟩ | ⟨e, e2⟩ | ⟨e, e2⟩ | ⟨e, e2⟩ <;> first | exact e2 | (rw [hkj] at e; omega)
  have hcs := hful.of8 hk
  rw [hof, hpj] at hcs
  subst hcs
  have hcell := hbk.cell 1
  simp only [List.getElem?_toArray, List.getElem?_cons_zero, List.getElem?_cons_succ] at hcell
  have hlt := hbk.lt
  have hr : asRow 1 f t = some j := by unfold asRow; rw [if_neg (by omega), if_pos ⟨.inl hk, rfl⟩, hof]; rfl
  rw [hr]
  rw [hp]
  have fan := taNoInt 196 (by decide)
  have faq := lackQTypedef
  have fad := @ta_yes _ _ Tryz.underlying196
  have fby := @ta_yes _ _ Tryz.underlying151
  go_enter Tryz.func68, Tryz.ntmps68
  go_wp2_with fail
  go_step3
  go_wp2_with fail
  go_loopg [0, 4] 1 (fun gk s0 s4 wr => wr = w ∧ ((gk = 1 ∧ s0 = .iface 196 (.pointer (some ⟨ob (t + 1), 0, none⟩)) ∧ s4 = .int .i64 0) ∨ (gk = 0 ∧ s0 = .iface 151 (.pointer (some ⟨ob (j + 1), 0, none⟩)) ∧ s4 = .int .i64 1)))
  case atStart => exact ⟨rfl, .inl ⟨rfl, rfl, rfl⟩⟩
  case round =>
   obtain ⟨rfl, ⟨rfl, rfl, rfl⟩ | ⟨rfl, rfl, rfl⟩⟩ := hrel
   ·go_wp2_with fail
    go_roundg 0
    case measure => omega
    case rel => exact ⟨rfl, .inr ⟨rfl, rfl, by go_num⟩⟩
   ·go_wp2_with fail
    simp only [Exit.noGoto_ret]
    go_ret2
    exact ⟨rfl, hjn, hpj, rfl⟩
 ·obtain ⟨j, hjn, hof, hkj⟩ := hpl (.inr hk)
  obtain ⟨csj, csj0, tyj, loj, hobj, hbkj, _⟩ := h.full j hjn
  have hpj : pt (j + 1) = 151 := by rcases hobj.kinds with ⟨e, e2⟩ | ⟨e, e2⟩ | ⟨e, e2⟩ | ⟨e, e2⟩ | ⟨e, e2⟩ | ⟨e, e2⟩ | ⟨e, e2⟩ | ⟨e, e2⟩ <;> first | exact e2 | (rw [hkj] at e; omega)
  have hcs := hful.of10 hk
  rw [hof, hpj] at hcs
  subst hcs
  have hcell := hbk.cell 0
  simp only [List.getElem?_toArray, List.getElem?_cons_zero, List.getElem?_cons_succ] at hcell
  have hlt := hbk.lt
  have hr : asRow 1 f t = some j := by unfold asRow; rw [if_neg (by omega), if_pos ⟨.inr hk, rfl⟩, hof]; rfl
  rw [hr]
  rw [hp]
  have fan := taNoInt 202 (by decide)
  have faq := hasQ
  have fad := taNoTypedef 202 (by decide)
  have fby := @ta_yes _ _ Tryz.underlying151
  go_enter Tryz.func68, Tryz.ntmps68
  go_wp2_with fail
  go_step3
  go_wp2_with fail
  go_loopg [0, 4] 1 (fun gk s0 s4 wr => wr = w ∧ ((gk = 1 ∧ s0 = .iface 202 (.pointer (some ⟨ob (t + 1), 0, none⟩)) ∧ s4 = .int .i64 0) ∨ (gk = 0 ∧ s0 = .iface 151 (.pointer (some ⟨ob (j + 1), 0, none⟩)) ∧ s4 = .int .i64 1)))
  case atStart => exact ⟨rfl, .inl ⟨rfl, rfl, rfl⟩⟩
  case round =>
   obtain ⟨rfl, ⟨rfl, rfl, rfl⟩ | ⟨rfl, rfl, rfl⟩⟩ := hrel
   ·go_wp2_with fail
    refine (qualify_any _ _ _ _ hcell).mono ?_
    rintro e w1 ⟨rfl, rfl⟩
    go_wp2_with fail
    go_roundg 0
    case measure => omega
    case rel => exact ⟨rfl, .inr ⟨rfl, rfl, by go_num⟩⟩
   ·go_wp2_with fail
    simp only [Exit.noGoto_ret]
    go_ret2
    exact ⟨rfl, hjn, hpj, rfl⟩
end Go.Proofs.YtfilbgmbmlmdbaaGreatDoor
namespace Go.Proofs.YtfilbgmbmlmdbaaGreatDoor
open Go.RowKit Go.MapKept
def PairKey (w : World) (x : Value) : Prop := ∃ a b, x = .agg #[a, b] ∧ IfaceKey Tryz.prog w a ∧ IfaceKey Tryz.prog w b
theorem iface_sameAt {P : Program} {k : TypeId} {ms : Array (String × TypeId)} {w : World} (hp : P.underlying k = some (.interface ms)) {x y : Value} (hx : IfaceKey P w x) (hy : IfaceKey P w y) (d : Nat) : ∃ r, (Op.equalIn (d + 2) k x y).run P w = .ok r w ∧ (r = true ↔ y = x) := by
 obtain ⟨tp, te, i, j, c, cs, ty, rfl, h1, hu, hi, hc, hj, hs⟩ := hx
 obtain ⟨tp', te', i', j', c', cs', ty', rfl, h2, hu', hi', hc', hj', hs'⟩ := hy
 by_cases ht : tp = tp'
 ·subst ht
  rw [hu] at hu'; cases hu'
  by_cases hcc : c = c'
  ·subst hcc
   exact ⟨true, run_equalIn_iface_ptr_same w d _ hp hu hi hc hj, by simp⟩
  ·exact ⟨false, run_equalIn_iface_ptr_other w d hp hu hi hc hj hs (by simp) h1 h2, by simp⟩
 ·have h : ∀ d : Nat, (Op.equalIn (d + 1) k (.iface tp (.pointer (some ⟨c, 0, none⟩))) (.iface tp' (.pointer (some ⟨c', 0, none⟩)))).run P w = .ok false w := fun d => by
   simp [Op.equalIn, run_underlying hp, ht]
  exact ⟨false, h (d + 1), by simp; intro h; exact absurd h.symm ht⟩
theorem iface_check {P : Program} {k : TypeId} {ms : Array (String × TypeId)} {w : World} (hp : P.underlying k = some (.interface ms)) {x : Value} (hx : IfaceKey P w x) (em : Bool) (n : Nat) : (Instr.checkKey em (n + 2) k x).run P w = .ok () w := by
 obtain ⟨tp, te, i, j, c, cs, ty, rfl, _, hu, hi, hc, _⟩ := hx
 simp [Instr.checkKey, run_underlying hp, run_underlying hu, typeInfo, hi, hc]
section
variable {P : Program} {k e t : TypeId} {w : World} {G : Value → Prop}
end
end Go.Proofs.YtfilbgmbmlmdbaaGreatDoor
