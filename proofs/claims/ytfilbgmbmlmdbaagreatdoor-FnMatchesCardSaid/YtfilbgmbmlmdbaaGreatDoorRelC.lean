/- Whether types are compatible: the words, and the rule on ints behind what was met. Nothing is claimed here. -/
import Derived.Test.YtfilbgmbmlmdbaaGreatDoorRelB
namespace Go.Proofs.YtfilbgmbmlmdbaaGreatDoor
open Go.RowKit Go.MapKept

/-- What has cells stays. -/
structure CellsKept (w w' : World) : Prop where
  size : w.heap.size ≤ w'.heap.size
  block : ∀ (g : Nat) cs t z, w.heap[g]? = some (Obj.cells cs t z) → w'.heap[g]? = w.heap[g]?
theorem CellsKept.refl (w : World) : CellsKept w w := ⟨Nat.le_refl _, fun _ _ _ _ _ => rfl⟩
theorem CellsKept.trans {w w1 w2 : World} (h : CellsKept w w1) (h' : CellsKept w1 w2) : CellsKept w w2 :=
  ⟨Nat.le_trans h.size h'.size, fun g cs t z hg => (h'.block g cs t z ((h.block g cs t z hg).trans hg)).trans (h.block g cs t z hg)⟩
theorem CellsKept.below {w w' : World} (h : Below w.heap.size w w') : CellsKept w w' := ⟨h.size, fun g _ _ _ hg => h.block g (Array.getElem?_eq_some_iff.1 hg).1⟩
theorem CellsKept.blk {w w' : World} (h : CellsKept w w') {b : Nat} {c : Array Value} {t : TypeId} (hb : Blk w b c t) : Blk w' b c t := hb.of_eq (h.block b _ _ _ hb)
theorem CellsKept.own {w w' : World} (h : CellsKept w w') {base e size n : Nat} {v : Value} {xs : List Value} (ho : w.ownsRow base e size v n xs) : w'.ownsRow base e size v n xs :=
  ownsRow_of ho fun g hg hl => by
    rcases ho.2 with ⟨rfl, _⟩ | ⟨g', cap, cur, rfl, _, hgg, _⟩
    · cases hg
    · cases hg; exact h.block _ _ _ _ hgg
theorem CellsKept.cell {w w' : World} (h : CellsKept w w') {p : Addr} {v : Value} (hc : w.cell? p = some v) : w'.cell? p = some v := by
  obtain ⟨b, off, spot⟩ := p
  have hs := World.cell?_spot hc
  cases hb : w.heap[b]? with
  | none => simp [World.cell?, hb] at hc
  | some o =>
    cases o with
    | cells cs t z => exact (World.cell?_of_block (w := w) (h.block b _ _ _ hb)).trans hc
    | _ => simp [World.cell?, hb] at hc
theorem Outs.ck {w w' : World} {n og : Nat} {f : Nat → RowD} {pt : Nat → TypeId} {ob : Nat → Nat} (h : Outs w n f og pt ob) (hc : CellsKept w w') : Outs w' n f og pt ob :=
  ⟨fun i hi => hc.cell (h.at_ i hi), fun i hi => by
    obtain ⟨cs, cs0, ty, lo, h1, h2, h3⟩ := h.full i hi
    refine ⟨cs, cs0, ty, lo, h1, hc.blk h2, ?_⟩
    generalize (f i).k = k at h3
    cases h3 with
    | int => exact .int
    | ptr => exact .ptr
    | arr => exact .arr
    | str hk ho hr => exact .str hk (hc.own ho) hr
    | enm ho hr => exact .enm (hc.own ho) hr
    | tdf => exact .tdf
    | cst => exact .cst, h.inj, Nat.lt_of_lt_of_le h.lt hc.size⟩
theorem IfaceKey.ck {w w' : World} {x : Value} (h : IfaceKey Tryz.prog w x) (hc : CellsKept w w') : IfaceKey Tryz.prog w' x := by
  obtain ⟨tp, te, i, j, c, cs, ty, rfl, h1, h2⟩ := h
  exact ⟨tp, te, i, j, c, cs, ty, rfl, (hc.block c _ _ _ h1).trans h1, h2⟩
theorem PairKey.ck {w w' : World} {x : Value} (h : PairKey w x) (hc : CellsKept w w') : PairKey w' x := by
  obtain ⟨a, b, rfl, ha, hb⟩ := h
  exact ⟨a, b, rfl, ha.ck hc, hb.ck hc⟩
theorem Outs.key {w : World} {n og : Nat} {f : Nat → RowD} {pt : Nat → TypeId} {ob : Nat → Nat} (h : Outs w n f og pt ob) {i : Nat} (hi : i < n) : IfaceKey Tryz.prog w (objAt pt ob i) := by
  obtain ⟨cs, cs0, ty, lo, h1, h2, _⟩ := h.full i hi
  exact (h1.key h2).1
theorem Outs.pairKey {w : World} {n n' og og' : Nat} {f f' : Nat → RowD} {pt pt' : Nat → TypeId} {ob ob' : Nat → Nat} (h : Outs w n f og pt ob) (h' : Outs w n' f' og' pt' ob') {i j : Nat} (hi : i < n) (hj : j < n') : PairKey w (.agg #[objAt pt ob i, objAt pt' ob' j]) := ⟨_, _, rfl, h.key hi, h'.key hj⟩
/-- A map of what was met. -/
structure Met (w : World) (mb : Nat) : Prop where
  mp : ∃ m, IsMapOf w mb m ∧ ∀ x u, m x = some u → PairKey w x ∧ u = .agg #[]
theorem Met.lt {w : World} {mb : Nat} (h : Met w mb) : mb < w.heap.size := by obtain ⟨m, hm, _⟩ := h.mp; exact hm.lt
/-- All but the map stays. -/
structure ButMap (mb : Nat) (w w' : World) : Prop where
  os : w'.os = w.os
  tape : w'.tape = w.tape
  output : w'.output = w.output
  size : w.heap.size ≤ w'.heap.size
  block : ∀ k, k < w.heap.size → k ≠ mb → w'.heap[k]? = w.heap[k]?
theorem ButMap.refl (mb : Nat) (w : World) : ButMap mb w w := ⟨rfl, rfl, rfl, Nat.le_refl _, fun _ _ _ => rfl⟩
theorem ButMap.below {mb : Nat} {w w1 w2 : World} (h : ButMap mb w w1) (hb : Below w1.heap.size w1 w2) : ButMap mb w w2 :=
  ⟨hb.os.trans h.os, hb.tape.trans h.tape, hb.output.trans h.output, Nat.le_trans h.size hb.size, fun k hk hm => (hb.block k (Nat.lt_of_lt_of_le hk h.size)).trans (h.block k hk hm)⟩
theorem ButMap.store {mb : Nat} {w w1 w2 : World} (h : ButMap mb w w1) (hg : w1.grownBy w2 (some mb)) : ButMap mb w w2 :=
  ⟨hg.os.trans h.os, hg.tape.trans h.tape, hg.output.trans h.output, Nat.le_trans h.size hg.size, fun k hk hm => (hg.block k (Nat.lt_of_lt_of_le hk h.size) (fun e => hm (Option.some.inj e))).trans (h.block k hk hm)⟩
theorem ButMap.cells {mb : Nat} {w w' : World} (h : ButMap mb w w') (hm : Met w mb) : CellsKept w w' :=
  ⟨h.size, fun g cs t z hg => h.block g (Array.getElem?_eq_some_iff.1 hg).1 fun e => by
    obtain ⟨m, ⟨es, clock, hb, _⟩, _⟩ := hm.mp
    rw [e, hb] at hg
    cases hg⟩
theorem Met.ck {w w' : World} {mb : Nat} {m : Value → Option Value} (hm : IsMapOf w' mb m) (hk : ∀ x u, m x = some u → PairKey w x ∧ u = .agg #[]) (hc : CellsKept w w') : Met w' mb := ⟨⟨m, hm, fun x u h => ⟨(hk x u h).1.ck hc, (hk x u h).2⟩⟩⟩

theorem pairNotNil (mb : Nat) (W : World) : (binOp .eql 157 (.map (some mb)) (.map none)).run Tryz.prog W = .ok (.bool false) W := by
  have h : ∀ d : Nat, (Op.equalIn (d + 1) 157 (.map (some mb)) (.map none)).run Tryz.prog W = .ok false W := fun d => by
    simp [Op.equalIn, run_underlying Tryz.underlying157, Result.andThen]
  have h2 : (Op.equal 157 (.map (some mb)) (.map none)).run Tryz.prog W = .ok false W := h 9999
  simp only [binOp]
  simp [h2]
/-- A map with one more entry. -/
noncomputable def moreKey (m : Value → Option Value) (x v : Value) : Value → Option Value := fun y => @ite _ (y = x) (Classical.propDecidable _) (some v) (m y)
theorem moreKey_at (m : Value → Option Value) (x v : Value) : moreKey m x v x = some v := by unfold moreKey; rw [if_pos rfl]
theorem moreKey_ne (m : Value → Option Value) (x v : Value) : ∀ y, y ≠ x → moreKey m x v y = m y := fun y h => by unfold moreKey; rw [if_neg h]
theorem Met.more {w w' : World} {mb : Nat} {m : Value → Option Value} {x : Value} (hk : ∀ y u, m y = some u → PairKey w y ∧ u = .agg #[]) (hx : PairKey w x) (hc : CellsKept w w')
    (hm : ∀ m' : Value → Option Value, m' x = some (.agg #[]) → (∀ y, y ≠ x → m' y = m y) → IsMapOf w' mb m') : Met w' mb := by
  refine ⟨⟨moreKey m x (.agg #[]), hm _ (moreKey_at _ _ _) (moreKey_ne _ _ _), fun y u h => ?_⟩⟩
  by_cases e : y = x
  · rw [e, moreKey_at] at h
    exact ⟨e ▸ hx.ck hc, (Option.some.inj h).symm⟩
  · rw [moreKey_ne _ _ _ _ e] at h
    exact ⟨(hk y u h).1.ck hc, (hk y u h).2⟩

set_option linter.unusedSimpArgs false in
set_option maxRecDepth 100000 in
set_option maxHeartbeats 4000000 in
theorem compat_ints (w : World) {n1 og1 t1 n2 og2 t2 mb : Nat} {f1 f2 : Nat → RowD} {pt1 pt2 : Nat → TypeId} {ob1 ob2 : Nat → Nat} (h1 : Outs w n1 f1 og1 pt1 ob1) (h2 : Outs w n2 f2 og2 pt2 ob2) (ht1 : t1 < n1) (ht2 : t2 < n2) (hp1 : Peels n1 f1) (hp2 : Peels n2 f2)
    (k1 : (f1 t1).k = 1) (k2 : (f2 t2).k = 1) (hm : Met w mb) :
    Calls Tryz.prog 45 #[objAt pt1 ob1 t1, objAt pt2 ob2 t2, .map (some mb)] w fun e w' => e = .returned .nilIface ∧ Met w' mb ∧ ButMap mb w w' := by
  have hmet := hm
  obtain ⟨m, hmp, hmk⟩ := hm.mp
  have hmG : ∀ x u, m x = some u → PairKey w x := fun x u h => (hmk x u h).1
  have K := pair_keys w
  have hkey := h1.pairKey h2 ht1 ht2
  have u1 : und f1 t1 = t1 := if_neg (by omega)
  have u2 : und f2 t2 = t2 := if_neg (by omega)
  have hpt : pt1 (t1 + 1) = 151 := by
    obtain ⟨cs, cs0, ty, lo, hob, _, _⟩ := h1.full t1 ht1
    rcases hob.kinds with ⟨a, b⟩ | ⟨a, b⟩ | ⟨a, b⟩ | ⟨a, b⟩ | ⟨a, b⟩ | ⟨a, b⟩ | ⟨a, b⟩ | ⟨a, b⟩ <;> first | exact b | omega
  have hz : ∀ W : World, (zeroValue 99).run Tryz.prog W = .ok (.agg #[]) W := fun W => by simp
  have hzw := hz w
  cases hat : m (.agg #[objAt pt1 ob1 t1, objAt pt2 ob2 t2]) with
  | some u =>
    obtain rfl := (hmk _ _ hat).2
    go_enter Tryz.func45, Tryz.ntmps45
    go_wp2_with fail
    refine (underlying_any w n1 og1 t1 f1 pt1 ob1 h1 ht1 hp1).mono ?_
    rintro e w9 ⟨rfl, rfl⟩
    rw [u1]
    go_wp2_with fail
    refine (underlying_any w9 n2 og2 t2 f2 pt2 ob2 h2 ht2 hp2).mono ?_
    rintro e w8 ⟨rfl, rfl⟩
    rw [u2]
    go_wp2_with fail
    refine (zzKind_any w8 n1 og1 t1 f1 pt1 ob1 h1 ht1).mono ?_
    rintro e w7 ⟨rfl, rfl⟩
    rw [k1]
    go_wp2_with fail
    refine (zzKind_any w7 n2 og2 t2 f2 pt2 ob2 h2 ht2).mono ?_
    rintro e w6 ⟨rfl, rfl⟩
    rw [k2]
    go_wp2_with (at_lookup; refine wpList_look rfl _ _ rfl Tryz.underlying157 hzw K rfl hmp hmG _ rfl hkey _ hat ?_)
    go_ret
    have hb := (Below.refl w6.heap.size w6).alloc (Nat.le_refl _) (.cells #[] 99)
    exact ⟨rfl, Met.ck (hmp.alloc _) hmk (CellsKept.below hb), (ButMap.refl mb w6).below hb⟩
  | none =>
    have hmn := pairNotNil mb
    go_enter Tryz.func45, Tryz.ntmps45
    go_wp2_with fail
    refine (underlying_any w n1 og1 t1 f1 pt1 ob1 h1 ht1 hp1).mono ?_
    rintro e w9 ⟨rfl, rfl⟩
    rw [u1]
    go_wp2_with fail
    refine (underlying_any w9 n2 og2 t2 f2 pt2 ob2 h2 ht2 hp2).mono ?_
    rintro e w8 ⟨rfl, rfl⟩
    rw [u2]
    go_wp2_with fail
    refine (zzKind_any w8 n1 og1 t1 f1 pt1 ob1 h1 ht1).mono ?_
    rintro e w7 ⟨rfl, rfl⟩
    rw [k1]
    go_wp2_with fail
    refine (zzKind_any w7 n2 og2 t2 f2 pt2 ob2 h2 ht2).mono ?_
    rintro e w6 ⟨rfl, rfl⟩
    rw [k2]
    have hb := (Below.refl w6.heap.size w6).alloc (Nat.le_refl _) (.cells #[] 99)
    have hck := CellsKept.below hb
    have K2 := pair_keys (w6.alloc (.cells #[] 99))
    have hmp2 := hmp.alloc (.cells #[] 99)
    have hmG2 : ∀ x u, m x = some u → PairKey (w6.alloc (.cells #[] 99)) x := fun x u h => (hmG x u h).ck hck
    have hkey2 := hkey.ck hck
    have a0 := taNoVoid
    have a4 := taNoStruct
    have a5 := taNoUnion
    have a6 := taNoEnum
    have a7 := taNoFwd
    have y1 := @ta_yes _ _ Tryz.underlying151
    simp only [objAt, hpt] at hkey hkey2 hat ⊢
    go_wp2_with (first
      | (at_lookup; refine wpList_look rfl _ _ rfl Tryz.underlying157 hzw K rfl hmp hmG _ rfl hkey _ hat ?_)
      | (at_mapUpdate; refine wpList_store rfl _ _ _ rfl Tryz.underlying157 K2 rfl hmp2 hmG2 _ (.agg #[]) rfl rfl hkey2 hat ?_; intro w5 hg5 hs5 hm5))
    go_ret
    have hbm := ((ButMap.refl mb w6).below hb).store hg5
    exact ⟨rfl, Met.more hmk hkey (hbm.cells hmet) hm5, hbm⟩
#print axioms compat_ints
end Go.Proofs.YtfilbgmbmlmdbaaGreatDoor
