/- A type with a number of a list; the number of a type in a list. -/
import Derived.Test.YtfilbgmbmlmdbaaGreatDoorImplH
import Derived.Test.YtfilbgmbmlmdbaaGreatDoorMapl
import Derived.LaidEql
namespace Go.Proofs.YtfilbgmbmlmdbaaGreatDoor
open Go.RowKit

/-- The types that were built, as a world has them: nothing more is asked of them here. -/
structure Outs (w : World) (n : Nat) (f : Nat → RowD) (og : Nat) (pt : Nat → TypeId) (ob : Nat → Nat) : Prop where
  at_ : ∀ i, i < n → w.cell? ⟨og, i, none⟩ = some (.iface (pt (i + 1)) (.pointer (some ⟨ob (i + 1), 0, none⟩)))
  full : ∀ i, i < n → ∃ cs cs0 ty lo, ObjC (f i).nm (f i).sz (f i).en (f i).fl (f i).k (pt (i + 1)) cs0 ty ∧ Blk w (ob (i + 1)) cs ty ∧ FullC w lo pt ob (f i).nm (f i).sz (f i).en (f i).fl (f i).of (f i).ix (f i).q (f i).ys (f i).k cs
  inj : ∀ i j, i < j → j < n → ob (i + 1) < ob (j + 1)
  lt : og < w.heap.size
theorem B2.outs {w wr : World} {n : Nat} {f : Nat → RowD} {og oc lo : Nat} {os : List Value} {pt : Nat → TypeId} {ob : Nat → Nat} (h : B2 w n f og oc lo os pt ob n wr) : Outs wr n f og pt ob :=
  ⟨fun i hi => own_cell h.own (h.has i hi), fun i hi => by
    obtain ⟨cs, cs0, ty, h1, h2, h3⟩ := h.full i hi
    exact ⟨cs, cs0, ty, lo, h1, h2, h3⟩, h.inj, (h.own.lt og rfl).2⟩

set_option maxRecDepth 100000 in
set_option maxHeartbeats 4000000 in
theorem one_any (w : World) (n cap g i : Nat) (xs : List Value) (Dx : Nat → Prop) (f : Nat → RowD) (ho : w.ownsRow 0 72 8 (.slice (some ⟨g, 0, none⟩) n cap) n xs) (hn : n ≤ 1000000) (hf : ∀ i, i < n → FitsD w Dx xs n i (f i)) (h1 : i < n) :
    Calls Tryz.prog 34 #[.slice (some ⟨g, 0, none⟩) n cap, .int .i64 ((i : Int) + 1)] w fun e w' => ∃ og pt ob, e = .returned (.tuple #[.iface (pt (i + 1)) (.pointer (some ⟨ob (i + 1), 0, none⟩)), .slice (some ⟨og, 0, none⟩) n n, .bool true]) ∧ Outs w' n f og pt ob ∧ Below w.heap.size w w' := by
  go_enter Tryz.func34, Tryz.ntmps34
  go_wp2_with fail
  refine (build_any w n cap g xs Dx f ho hn hf).mono ?_
  rintro e w1 ⟨og, oc, lo, os, pt, ob, rfl, st⟩
  have hat := st.outs.at_ i h1
  have hi1 : ¬ ((i : Int) + 1) < 1 := by omega
  have hi2 : ¬ (n : Int) < (i : Int) + 1 := by omega
  have his : (i : Int) ≤ 1000000 := by omega
  have hog := st.outs.lt
  go_wp2_with fail
  go_ret3
  exact ⟨og, pt, ob, rfl, st.outs, st.old⟩
theorem key_of {w : World} {b : Nat} {cs : Array Value} {ty p te : TypeId} {z : Nat} (h : Blk w b cs ty) (hu : Tryz.prog.underlying p = some (.pointer te)) (hi : (Tryz.prog.info? p).map (·.comparable) = some true) (hj : (Tryz.prog.info? te).map (·.size) = some (z + 1)) :
    IfaceKey Tryz.prog w (.iface p (.pointer (some ⟨b, 0, none⟩))) := by
  obtain ⟨i, hi1, hi2⟩ := Option.map_eq_some_iff.1 hi
  obtain ⟨j, hj1, hj2⟩ := Option.map_eq_some_iff.1 hj
  exact ⟨p, te, i, j, b, cs, ty, rfl, h, hu, hi1, hi2, hj1, by rw [hj2]; omega⟩
theorem keyInt {w : World} {b : Nat} {cs : Array Value} {ty : TypeId} (h : Blk w b cs ty) : IfaceKey Tryz.prog w (.iface 151 (.pointer (some ⟨b, 0, none⟩))) :=
  key_of h Tryz.underlying151 (by kernel_rfl) (z := 2) (by kernel_rfl)
theorem keyPointer {w : World} {b : Nat} {cs : Array Value} {ty : TypeId} (h : Blk w b cs ty) : IfaceKey Tryz.prog w (.iface 164 (.pointer (some ⟨b, 0, none⟩))) :=
  key_of h Tryz.underlying164 (by kernel_rfl) (z := 0) (by kernel_rfl)
theorem keyArray {w : World} {b : Nat} {cs : Array Value} {ty : TypeId} (h : Blk w b cs ty) : IfaceKey Tryz.prog w (.iface 167 (.pointer (some ⟨b, 0, none⟩))) :=
  key_of h Tryz.underlying167 (by kernel_rfl) (z := 2) (by kernel_rfl)
theorem keyStruct {w : World} {b : Nat} {cs : Array Value} {ty : TypeId} (h : Blk w b cs ty) : IfaceKey Tryz.prog w (.iface 162 (.pointer (some ⟨b, 0, none⟩))) :=
  key_of h Tryz.underlying162 (by kernel_rfl) (z := 3) (by kernel_rfl)
theorem keyUnion {w : World} {b : Nat} {cs : Array Value} {ty : TypeId} (h : Blk w b cs ty) : IfaceKey Tryz.prog w (.iface 163 (.pointer (some ⟨b, 0, none⟩))) :=
  key_of h Tryz.underlying163 (by kernel_rfl) (z := 3) (by kernel_rfl)
theorem keyEnum {w : World} {b : Nat} {cs : Array Value} {ty : TypeId} (h : Blk w b cs ty) : IfaceKey Tryz.prog w (.iface 144 (.pointer (some ⟨b, 0, none⟩))) :=
  key_of h Tryz.underlying144 (by kernel_rfl) (z := 3) (by kernel_rfl)
theorem keyTypedef {w : World} {b : Nat} {cs : Array Value} {ty : TypeId} (h : Blk w b cs ty) : IfaceKey Tryz.prog w (.iface 196 (.pointer (some ⟨b, 0, none⟩))) :=
  key_of h Tryz.underlying196 (by kernel_rfl) (z := 2) (by kernel_rfl)
theorem keyConst {w : World} {b : Nat} {cs : Array Value} {ty : TypeId} (h : Blk w b cs ty) : IfaceKey Tryz.prog w (.iface 202 (.pointer (some ⟨b, 0, none⟩))) :=
  key_of h Tryz.underlying202 (by kernel_rfl) (z := 0) (by kernel_rfl)
theorem ObjC.key {nm : ByteArray} {sz en fl k : Int} {p : TypeId} {cs0 : Array Value} {ty : TypeId} (h : ObjC nm sz en fl k p cs0 ty) {w : World} {b : Nat} {cs : Array Value} (hb : Blk w b cs ty) :
    IfaceKey Tryz.prog w (.iface p (.pointer (some ⟨b, 0, none⟩))) ∧ p ≠ 97 := by
  cases h
  · exact ⟨keyInt hb, by decide⟩
  · exact ⟨keyPointer hb, by decide⟩
  · exact ⟨keyArray hb, by decide⟩
  · exact ⟨keyStruct hb, by decide⟩
  · exact ⟨keyUnion hb, by decide⟩
  · exact ⟨keyEnum hb, by decide⟩
  · exact ⟨keyTypedef hb, by decide⟩
  · exact ⟨keyConst hb, by decide⟩
theorem eql_keys {w : World} {x y : Value} (hx : IfaceKey Tryz.prog w x) (hy : IfaceKey Tryz.prog w y) : ∃ r, (binOp .eql 77 x y).run Tryz.prog w = .ok (.bool r) w ∧ (r = true ↔ y = x) := by
  have hu : ∃ ms, Tryz.prog.underlying 77 = some (.interface ms) := ⟨_, Tryz.underlying77⟩
  obtain ⟨ms, hu⟩ := hu
  have H := iface_same hu hx hy
  obtain ⟨_, _, _, _, _, _, _, rfl, _⟩ := hx
  obtain ⟨_, _, _, _, _, _, _, rfl, _⟩ := hy
  obtain ⟨r, hr, hiff⟩ := H
  refine ⟨r, ?_, hiff⟩
  simp only [binOp]
  simp [hr]
theorem taNoVoid (u : TypeId) (h : u ≠ 97) (W : World) (v : Value) : (Instr.typeAssert (.iface u v) 77 97 true).run Tryz.prog W = .ok (.tuple #[.pointer none, .bool false]) W := ta_no Tryz.underlying97 (fun W => by kernel_rfl) u h W v

set_option maxRecDepth 100000 in
set_option maxHeartbeats 4000000 in
theorem numberOf_any (w : World) (n og t : Nat) (f : Nat → RowD) (pt : Nat → TypeId) (ob : Nat → Nat) (h : Outs w n f og pt ob) (ht : t < n) (hn : n ≤ 1000000) :
    Calls Tryz.prog 37 #[.slice (some ⟨og, 0, none⟩) n n, .iface (pt (t + 1)) (.pointer (some ⟨ob (t + 1), 0, none⟩))] w fun e w' => e = .returned (.int .i64 ((t : Int) + 1)) ∧ w' = w := by
  obtain ⟨cst, cst0, tyt, _, hot, hbt, _⟩ := h.full t ht
  obtain ⟨hkt, hvt⟩ := hot.key hbt
  have nv := taNoVoid _ hvt
  have hogl := h.lt
  go_enter Tryz.func37, Tryz.ntmps37
  go_wp2_with fail
  go_loopg [17] t (fun gk s17 wr => ∃ j : Nat, j ≤ t ∧ t - j ≤ gk ∧ s17 = .int .i64 j ∧ wr = w)
  case atStart => exact ⟨0, Nat.zero_le _, Nat.le_refl _, rfl, rfl⟩
  case round =>
    obtain ⟨j, hj, hgk, rfl, rfl⟩ := hrel
    have hjn : j < n := by omega
    have hcell := h.at_ j hjn
    obtain ⟨csj, csj0, tyj, _, hoj, hbj, _⟩ := h.full j hjn
    obtain ⟨hkj, _⟩ := hoj.key hbj
    obtain ⟨r, hr, hiff⟩ := eql_keys hkj hkt
    by_cases hjt : j = t
    · subst hjt
      have hrt : r = true := hiff.2 rfl
      subst hrt
      go_wp2_with fail
      go_ret
      exact ⟨rfl, rfl⟩
    · have hrf : r = false := by
        cases r with
        | false => rfl
        | true =>
          have e := hiff.1 rfl
          have hlt := h.inj j t (by omega) ht
          simp only [Value.iface.injEq, Value.pointer.injEq, Option.some.injEq, Addr.mk.injEq, and_true] at e
          omega
      subst hrf
      clear hiff hkj hkt
      go_wp2_with fail
      go_roundg (t - (j + 1))
      case measure => omega
      case rel => exact ⟨j + 1, by omega, Nat.le_refl _, by go_num, rfl⟩
#print axioms one_any
#print axioms numberOf_any
end Go.Proofs.YtfilbgmbmlmdbaaGreatDoor
