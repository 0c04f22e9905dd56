/- What a type is behind its names and qualifiers; which kind it is of. Nothing is claimed here. -/
import Derived.Test.YtfilbgmbmlmdbaaGreatDoorZ09
set_option linter.unusedSimpArgs false
set_option linter.unusedVariables false
set_option maxRecDepth 1000000
set_option maxHeartbeats 16000000
namespace Go.Proofs.YtfilbgmbmlmdbaaGreatDoor
open Go.RowKit
def und (f : Nat → RowD) (t : Nat) : Nat := if (f t).k = 8 ∨ (f t).k = 10 then (f t).of - 1 else t
def Peels (n : Nat) (f : Nat → RowD) : Prop := ∀ t, t < n → (f t).k = 8 ∨ (f t).k = 10 → ∃ j, j < n ∧ (f t).of = j + 1 ∧ (f j).k = 1
theorem peels_of {w : World} {D : Nat → Prop} {xs : List Value} {n : Nat} {f : Nat → RowD} (hf : ∀ i, i < n → FitsD w D xs n i (f i)) : Peels n f := fun t ht h => by
 obtain ⟨j, hj, ho, hx⟩ := (hf t ht).peel h
 have e := hx.symm.trans (hf j hj).row.1
 simp only [Option.some.injEq, Value.int.injEq, true_and] at e
 exact ⟨j, hj, ho, e.symm⟩
abbrev objAt (pt : Nat → TypeId) (ob : Nat → Nat) (i : Nat) : Value := .iface (pt (i + 1)) (.pointer (some ⟨ob (i + 1), 0, none⟩))
theorem underlying_any (w : World) (n og t : Nat) (f : Nat → RowD) (pt : Nat → TypeId) (ob : Nat → Nat) (h : Outs w n f og pt ob) (ht : t < n) (hpl : Peels n f) :
  Calls Tryz.prog 65 #[objAt pt ob t] w fun e w' => e = .returned (objAt pt ob (und f t)) ∧ w' = w := by
 obtain ⟨cs, cs0, ty, lo, hob, hbk, hful⟩ := h.full t ht
 have hbl := hbk.lt
 rcases hob.kinds with ⟨hk, hp⟩ | ⟨hk, hp⟩ | ⟨hk, hp⟩ | ⟨hk, hp⟩ | ⟨hk, hp⟩ | ⟨hk, hp⟩ | ⟨hk, hp⟩ | ⟨hk, hp⟩
 ·have hu : und f t = t := if_neg (by omega)
  rw [hu]
  simp only [objAt, hp]
  have faq := lackQInt
  have fad := taNoTypedef 151 (by decide)
  clear hk hu hp hob hful hbk
  go_enter Tryz.func65, Tryz.ntmps65
  go_wp2_with fail
  go_loopg [3, 4] 1 (fun gk s3 s4 wr => s3 = .iface 151 (.pointer (some ⟨ob (t + 1), 0, none⟩)) ∧ s4 = .int .i64 0 ∧ wr = w)
  case atStart => exact ⟨rfl, rfl, rfl⟩
  case round =>
   obtain ⟨rfl, rfl, rfl⟩ := hrel
   go_wp2_with fail
   go_ret
   exact ⟨rfl, rfl⟩
 ·have hu : und f t = t := if_neg (by omega)
  rw [hu]
  simp only [objAt, hp]
  have faq := lackQPointer
  have fad := taNoTypedef 164 (by decide)
  clear hk hu hp hob hful hbk
  go_enter Tryz.func65, Tryz.ntmps65
  go_wp2_with fail
  go_loopg [3, 4] 1 (fun gk s3 s4 wr => s3 = .iface 164 (.pointer (some ⟨ob (t + 1), 0, none⟩)) ∧ s4 = .int .i64 0 ∧ wr = w)
  case atStart => exact ⟨rfl, rfl, rfl⟩
  case round =>
   obtain ⟨rfl, rfl, rfl⟩ := hrel
   go_wp2_with fail
   go_ret
   exact ⟨rfl, rfl⟩
 ·have hu : und f t = t := if_neg (by omega)
  rw [hu]
  simp only [objAt, hp]
  have faq := lackQArray
  have fad := taNoTypedef 167 (by decide)
  clear hk hu hp hob hful hbk
  go_enter Tryz.func65, Tryz.ntmps65
  go_wp2_with fail
  go_loopg [3, 4] 1 (fun gk s3 s4 wr => s3 = .iface 167 (.pointer (some ⟨ob (t + 1), 0, none⟩)) ∧ s4 = .int .i64 0 ∧ wr = w)
  case atStart => exact ⟨rfl, rfl, rfl⟩
  case round =>
   obtain ⟨rfl, rfl, rfl⟩ := hrel
   go_wp2_with fail
   go_ret
   exact ⟨rfl, rfl⟩
 ·have hu : und f t = t := if_neg (by omega)
  rw [hu]
  simp only [objAt, hp]
  have faq := lackQStruct
  have fad := taNoTypedef 162 (by decide)
  clear hk hu hp hob hful hbk
  go_enter Tryz.func65, Tryz.ntmps65
  go_wp2_with fail
  go_loopg [3, 4] 1 (fun gk s3 s4 wr => s3 = .iface 162 (.pointer (some ⟨ob (t + 1), 0, none⟩)) ∧ s4 = .int .i64 0 ∧ wr = w)
  case atStart => exact ⟨rfl, rfl, rfl⟩
  case round =>
   obtain ⟨rfl, rfl, rfl⟩ := hrel
   go_wp2_with fail
   go_ret
   exact ⟨rfl, rfl⟩
 ·have hu : und f t = t := if_neg (by omega)
  rw [hu]
  simp only [objAt, hp]
  have faq := lackQUnion
  have fad := taNoTypedef 163 (by decide)
  clear hk hu hp hob hful hbk
  go_enter Tryz.func65, Tryz.ntmps65
  go_wp2_with fail
  go_loopg [3, 4] 1 (fun gk s3 s4 wr => s3 = .iface 163 (.pointer (some ⟨ob (t + 1), 0, none⟩)) ∧ s4 = .int .i64 0 ∧ wr = w)
  case atStart => exact ⟨rfl, rfl, rfl⟩
  case round =>
   obtain ⟨rfl, rfl, rfl⟩ := hrel
   go_wp2_with fail
   go_ret
   exact ⟨rfl, rfl⟩
 ·have hu : und f t = t := if_neg (by omega)
  rw [hu]
  simp only [objAt, hp]
  have faq := lackQEnum
  have fad := taNoTypedef 144 (by decide)
  clear hk hu hp hob hful hbk
  go_enter Tryz.func65, Tryz.ntmps65
  go_wp2_with fail
  go_loopg [3, 4] 1 (fun gk s3 s4 wr => s3 = .iface 144 (.pointer (some ⟨ob (t + 1), 0, none⟩)) ∧ s4 = .int .i64 0 ∧ wr = w)
  case atStart => exact ⟨rfl, rfl, rfl⟩
  case round =>
   obtain ⟨rfl, rfl, rfl⟩ := hrel
   go_wp2_with fail
   go_ret
   exact ⟨rfl, rfl⟩
 ·obtain ⟨j, hj, ho, hkj⟩ := hpl t ht (by omega)
  obtain ⟨csj, csj0, tyj, loj, hobj, hbkj, _⟩ := h.full j hj
  have hpj : pt (j + 1) = 151 := by rcases hobj.kinds with ⟨a, b⟩ | ⟨a, b⟩ | ⟨a, b⟩ | ⟨a, b⟩ | ⟨a, b⟩ | ⟨a, b⟩ | ⟨a, b⟩ | ⟨a, b⟩ <;> first | exact b | omega
  have hu : und f t = j := by unfold und; rw [if_pos (by omega), ho]; simp
  have hcs := hful.of8 hk
  rw [ho, hpj] at hcs
  have hc := hbk.cell 1
  rw [hcs] at hc
  simp only [List.getElem?_toArray, List.getElem?_cons_zero, List.getElem?_cons_succ] at hc
  rw [hu]
  simp only [objAt, hp, hpj]
  have faq := lackQTypedef
  have fay := @ta_yes _ _ Tryz.underlying196
  have fa2 := lackQInt
  have fa3 := taNoTypedef 151 (by decide)
  clear hk hu hp hob hful hbk hcs ho hkj hobj hbkj hpj
  go_enter Tryz.func65, Tryz.ntmps65
  go_wp2_with fail
  go_loopg [3, 4] 1 (fun gk s3 s4 wr => wr = w ∧ ((gk = 1 ∧ s3 = .iface 196 (.pointer (some ⟨ob (t + 1), 0, none⟩)) ∧ s4 = .int .i64 0) ∨ (gk = 0 ∧ s3 = .iface 151 (.pointer (some ⟨ob (j + 1), 0, none⟩)) ∧ s4 = .int .i64 1)))
  case atStart => exact ⟨rfl, .inl ⟨rfl, rfl, rfl⟩⟩
  case round =>
   obtain ⟨rfl, ⟨rfl, rfl, rfl⟩ | ⟨rfl, rfl, rfl⟩⟩ := hrel
   ·go_wp2_with fail
    go_roundg 0
    case measure => omega
    case rel => exact ⟨rfl, .inr ⟨rfl, rfl, by go_num⟩⟩
   ·go_wp2_with fail
    go_ret
    exact ⟨rfl, rfl⟩
 ·obtain ⟨j, hj, ho, hkj⟩ := hpl t ht (by omega)
  obtain ⟨csj, csj0, tyj, loj, hobj, hbkj, _⟩ := h.full j hj
  have hpj : pt (j + 1) = 151 := by rcases hobj.kinds with ⟨a, b⟩ | ⟨a, b⟩ | ⟨a, b⟩ | ⟨a, b⟩ | ⟨a, b⟩ | ⟨a, b⟩ | ⟨a, b⟩ | ⟨a, b⟩ <;> first | exact b | omega
  have hu : und f t = j := by unfold und; rw [if_pos (by omega), ho]; simp
  have hcs := hful.of10 hk
  rw [ho, hpj] at hcs
  have hc := hbk.cell 0
  rw [hcs] at hc
  simp only [List.getElem?_toArray, List.getElem?_cons_zero, List.getElem?_cons_succ] at hc
  rw [hu]
  simp only [objAt, hp, hpj]
  have faq := hasQ
  have fa2 := lackQInt
  have fa3 := taNoTypedef 151 (by decide)
  clear hk hu hp hob hful hbk hcs ho hkj hobj hbkj hpj
  go_enter Tryz.func65, Tryz.ntmps65
  go_wp2_with fail
  go_loopg [3, 4] 1 (fun gk s3 s4 wr => wr = w ∧ ((gk = 1 ∧ s3 = .iface 202 (.pointer (some ⟨ob (t + 1), 0, none⟩)) ∧ s4 = .int .i64 0) ∨ (gk = 0 ∧ s3 = .iface 151 (.pointer (some ⟨ob (j + 1), 0, none⟩)) ∧ s4 = .int .i64 1)))
  case atStart => exact ⟨rfl, .inl ⟨rfl, rfl, rfl⟩⟩
  case round =>
   obtain ⟨rfl, ⟨rfl, rfl, rfl⟩ | ⟨rfl, rfl, rfl⟩⟩ := hrel
   ·go_wp2_with fail
    refine (qualify_any _ _ _ _ hc).mono ?_
    rintro e w9 ⟨rfl, rfl⟩
    go_wp2_with fail
    go_roundg 0
    case measure => omega
    case rel => exact ⟨rfl, .inr ⟨rfl, rfl, by go_num⟩⟩
   ·go_wp2_with fail
    go_ret
    exact ⟨rfl, rfl⟩
theorem taNoFwd (u : TypeId) (h : u ≠ 132) (W : World) (v : Value) : (Instr.typeAssert (.iface u v) 77 132 true).run Tryz.prog W = .ok (.tuple #[.pointer none, .bool false]) W := ta_no Tryz.underlying132 (fun W => by kernel_rfl) u h W v
theorem zzKind_any (w : World) (n og t : Nat) (f : Nat → RowD) (pt : Nat → TypeId) (ob : Nat → Nat) (h : Outs w n f og pt ob) (ht : t < n) :
  Calls Tryz.prog 69 #[objAt pt ob t] w fun e w' => e = .returned (.int .i64 ((f t).k + 1)) ∧ w' = w := by
 obtain ⟨cs, cs0, ty, lo, hob, hbk, hful⟩ := h.full t ht
 have a0 := taNoVoid
 have a1 := taNoInt
 have a2 := taNoPointer
 have a3 := taNoArray
 have a4 := taNoStruct
 have a5 := taNoUnion
 have a6 := taNoEnum
 have a7 := taNoFwd
 have a8 := taNoTypedef
 have a9 := taNoVolatile
 have y1 := @ta_yes _ _ Tryz.underlying151
 have y2 := @ta_yes _ _ Tryz.underlying164
 have y3 := @ta_yes _ _ Tryz.underlying167
 have y4 := @ta_yes _ _ Tryz.underlying162
 have y5 := @ta_yes _ _ Tryz.underlying163
 have y6 := @ta_yes _ _ Tryz.underlying144
 have y8 := @ta_yes _ _ Tryz.underlying196
 have y10 := @ta_yes _ _ Tryz.underlying202
 rcases hob.kinds with ⟨hk, hp⟩ | ⟨hk, hp⟩ | ⟨hk, hp⟩ | ⟨hk, hp⟩ | ⟨hk, hp⟩ | ⟨hk, hp⟩ | ⟨hk, hp⟩ | ⟨hk, hp⟩
 all_goals
  rw [hk]
  simp only [objAt, hp]
  clear hk hp hob hful hbk
  go_enter Tryz.func69, Tryz.ntmps69
  go_wp2_with fail
  go_ret
  exact ⟨rfl, rfl⟩
end Go.Proofs.YtfilbgmbmlmdbaaGreatDoor
namespace Go.Proofs.YtfilbgmbmlmdbaaGreatDoor
open Go.RowKit Go.MapKept
structure CellsKept (w w' : World) : Prop where
 size : w.heap.size ≤ w'.heap.size
 block : ∀ (g : Nat) cs t z, w.heap[g]? = some (Obj.cells cs t z) → w'.heap[g]? = w.heap[g]?
theorem CellsKept.refl (w : World) : CellsKept w w := ⟨Nat.le_refl _, fun _ _ _ _ _ => rfl⟩
theorem CellsKept.trans {w w1 w2 : World} (h : CellsKept w w1) (h' : CellsKept w1 w2) : CellsKept w w2 :=
 ⟨Nat.le_trans h.size h'.size, fun g cs t z hg => (h'.block g cs t z ((h.block g cs t z hg).trans hg)).trans (h.block g cs t z hg)⟩
theorem CellsKept.below {w w' : World} (h : Below w.heap.size w w') : CellsKept w w' := ⟨h.size, fun g _ _ _ hg => h.block g (Array.getElem?_eq_some_iff.1 hg).1⟩
theorem CellsKept.blk {w w' : World} (h : CellsKept w w') {b : Nat} {c : Array Value} {t : TypeId} (hb : Blk w b c t) : Blk w' b c t := hb.of_eq (h.block b _ _ _ hb)
theorem CellsKept.own {w w' : World} (h : CellsKept w w') {base e size n : Nat} {v : Value} {xs : List Value} (ho : w.ownsRow base e size v n xs) : w'.ownsRow base e size v n xs :=
 ownsRow_of ho fun g hg hl => by
  rcases ho.2 with ⟨rfl, _⟩ | ⟨g', cap, cur, rfl, _, hgg, _⟩
  ·cases hg
  ·cases hg; exact h.block _ _ _ _ hgg
theorem CellsKept.cell {w w' : World} (h : CellsKept w w') {p : Addr} {v : Value} (hc : w.cell? p = some v) : w'.cell? p = some v := by
 obtain ⟨b, off, spot⟩ := p
 have hs := World.cell?_spot hc
 cases hb : w.heap[b]? with
 | none => simp [World.cell?, hb] at hc
 | some o =>
  cases o with
  | cells cs t z => exact (World.cell?_of_block (w := w) (h.block b _ _ _ hb)).trans hc
  | _ => simp [World.cell?, hb] at hc
theorem Outs.ck {w w' : World} {n og : Nat} {f : Nat → RowD} {pt : Nat → TypeId} {ob : Nat → Nat} (h : Outs w n f og pt ob) (hc : CellsKept w w') : Outs w' n f og pt ob :=
 ⟨fun i hi => hc.cell (h.at_ i hi), fun i hi => by
  obtain ⟨cs, cs0, ty, lo, h1, h2, h3⟩ := h.full i hi
  refine ⟨cs, cs0, ty, lo, h1, hc.blk h2, ?_⟩
  generalize (f i).k = k at h3
  cases h3 with
  | int => exact .int
  | ptr => exact .ptr
  | arr => exact .arr
  | str hk ho hr => exact .str hk (hc.own ho) hr
  | enm ho hr => exact .enm (hc.own ho) hr
  | tdf => exact .tdf
  | cst => exact .cst, h.inj, Nat.lt_of_lt_of_le h.lt hc.size⟩
theorem IfaceKey.ck {w w' : World} {x : Value} (h : IfaceKey Tryz.prog w x) (hc : CellsKept w w') : IfaceKey Tryz.prog w' x := by
 obtain ⟨tp, te, i, j, c, cs, ty, rfl, h1, h2⟩ := h
 exact ⟨tp, te, i, j, c, cs, ty, rfl, (hc.block c _ _ _ h1).trans h1, h2⟩
theorem PairKey.ck {w w' : World} {x : Value} (h : PairKey w x) (hc : CellsKept w w') : PairKey w' x := by
 obtain ⟨a, b, rfl, ha, hb⟩ := h
 exact ⟨a, b, rfl, ha.ck hc, hb.ck hc⟩
theorem Outs.key {w : World} {n og : Nat} {f : Nat → RowD} {pt : Nat → TypeId} {ob : Nat → Nat} (h : Outs w n f og pt ob) {i : Nat} (hi : i < n) : IfaceKey Tryz.prog w (objAt pt ob i) := by
 obtain ⟨cs, cs0, ty, lo, h1, h2, _⟩ := h.full i hi
 exact (h1.key h2).1
structure Met (w : World) (mb : Nat) : Prop where
 mp : ∃ m, IsMapOf w mb m ∧ ∀ x u, m x = some u → PairKey w x ∧ u = .agg #[]
theorem Met.lt {w : World} {mb : Nat} (h : Met w mb) : mb < w.heap.size := by obtain ⟨m, hm, _⟩ := h.mp; exact hm.lt
structure ButMap (mb : Nat) (w w' : World) : Prop where
 os : w'.os = w.os
 tape : w'.tape = w.tape
 output : w'.output = w.output
 size : w.heap.size ≤ w'.heap.size
 block : ∀ k, k < w.heap.size → k ≠ mb → w'.heap[k]? = w.heap[k]?
theorem ButMap.refl (mb : Nat) (w : World) : ButMap mb w w := ⟨rfl, rfl, rfl, Nat.le_refl _, fun _ _ _ => rfl⟩
theorem ButMap.below {mb : Nat} {w w1 w2 : World} (h : ButMap mb w w1) (hb : Below w1.heap.size w1 w2) : ButMap mb w w2 :=
 ⟨hb.os.trans h.os, hb.tape.trans h.tape, hb.output.trans h.output, Nat.le_trans h.size hb.size, fun k hk hm => (hb.block k (Nat.lt_of_lt_of_le hk h.size)).trans (h.block k hk hm)⟩
theorem ButMap.store {mb : Nat} {w w1 w2 : World} (h : ButMap mb w w1) (hg : w1.grownBy w2 (some mb)) : ButMap mb w w2 :=
 ⟨hg.os.trans h.os, hg.tape.trans h.tape, hg.output.trans h.output, Nat.le_trans h.size hg.size, fun k hk hm => (hg.block k (Nat.lt_of_lt_of_le hk h.size) (fun e => hm (Option.some.inj e))).trans (h.block k hk hm)⟩
theorem ButMap.cells {mb : Nat} {w w' : World} (h : ButMap mb w w') (hm : Met w mb) : CellsKept w w' :=
 ⟨h.size, fun g cs t z hg => h.block g (Array.getElem?_eq_some_iff.1 hg).1 fun e => by
  obtain ⟨m, ⟨es, clock, hb, _⟩, _⟩ := hm.mp
  rw [e, hb] at hg
  cases hg⟩
theorem Met.ck {w w' : World} {mb : Nat} {m : Value → Option Value} (hm : IsMapOf w' mb m) (hk : ∀ x u, m x = some u → PairKey w x ∧ u = .agg #[]) (hc : CellsKept w w') : Met w' mb := ⟨⟨m, hm, fun x u h => ⟨(hk x u h).1.ck hc, (hk x u h).2⟩⟩⟩
noncomputable def moreKey (m : Value → Option Value) (x v : Value) : Value → Option Value := fun y => @ite _ (y = x) (Classical.propDecidable _) (some v) (m y)
theorem moreKey_at (m : Value → Option Value) (x v : Value) : moreKey m x v x = some v := by unfold moreKey; rw [if_pos rfl]
theorem moreKey_ne (m : Value → Option Value) (x v : Value) : ∀ y, y ≠ x → moreKey m x v y = m y := fun y h => by unfold moreKey; rw [if_neg h]
end Go.Proofs.YtfilbgmbmlmdbaaGreatDoor
