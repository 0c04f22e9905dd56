/- The sentinels of the package: what a row's list of them gives, a world that has them, how they read. Nothing is claimed here. -/
import Derived.Test.YtfilbgmbmlmdbaaGreatDoorCards
import Derived.Test.YtfilbgmbmlmdbaaGreatDoorTie
import Derived.SevenTiedAt
import Derived.ChangeSame
import Derived.ChangeVars
import Derived.JoinedOf
import Derived.RowKit
import Derived.RowKitTokens
import Derived.LaidLaws
import Derived.Stop.LaidErr
import Derived.Stop.Joined
import Derived.WalkKit
import Derived.ProofKit
import Derived.OpenShut
import Derived.ShutString
import Derived.ChangeOld
import Derived.Below
import Derived.WalkSmall
import Derived.Deep.DeepLaidRun
import Derived.Test.YtfilbgmbmlmdbaaGreatDoorZ27
import Derived.Test.YtfilbgmbmlmdbaaGreatDoorZ38
import Derived.Test.YtfilbgmbmlmdbaaGreatDoorZ23
import Derived.Test.YtfilbgmbmlmdbaaGreatDoorZ25
import Derived.Test.YtfilbgmbmlmdbaaGreatDoorZ26
import Derived.Stop.LaidTwo
set_option linter.unusedSimpArgs false
set_option linter.unusedVariables false
set_option maxRecDepth 1000000
set_option maxHeartbeats 16000000
namespace Go.Proofs.YtfilbgmbmlmdbaaGreatDoor
open Go.ChangeShapes Go.WideShapes Go.ChangeAt Go.RowKit
theorem zOwn : ownKnob Tryz.prog.godebug = none := by kernel_rfl
theorem zLaidOut : laidOutB Tryz.prog = true := by kernel_rfl
theorem zCellsE : Tryz.prog.cellsOf 230 = 1 := by kernel_rfl
theorem zCellsS : Tryz.prog.cellsOf 9 = 1 := by kernel_rfl
theorem zStar : "*" ++ "errors.errorString" = "*errors.errorString" := by decide
theorem zRow (u : TypeId) (h : Tryz.prog.typeName? 3 u = some "*errors.errorString") : u = 228 :=
 typeName_ptr_named (nm := "errors.errorString") (by rw [zStar]; kernel_rfl) (by kernel_rfl) (by decide) u (by rw [zStar]; exact h)
theorem zG0 : Tryz.prog.globalNamed "loop.example/pub-g03460/pub/ebpfbtf.ErrNotFound" = some 0 := by kernel_rfl
theorem zT0 : (Tryz.prog.globals[0]?).map (·.type) = some 84 := by kernel_rfl
theorem zG3 : Tryz.prog.globalNamed "loop.example/pub-g03460/pub/ebpfbtf.errIncompatibleTypes" = some 3 := by kernel_rfl
theorem zT3 : (Tryz.prog.globals[3]?).map (·.type) = some 84 := by kernel_rfl
theorem zG4 : Tryz.prog.globalNamed "loop.example/pub-g03460/pub/ebpfbtf.errImpossibleRelocation" = some 4 := by kernel_rfl
theorem zT4 : (Tryz.prog.globals[4]?).map (·.type) = some 84 := by kernel_rfl
theorem zG5 : Tryz.prog.globalNamed "loop.example/pub-g03460/pub/ebpfbtf.errNoSignedness" = some 5 := by kernel_rfl
theorem zT5 : (Tryz.prog.globals[5]?).map (·.type) = some 84 := by kernel_rfl
theorem zG6 : Tryz.prog.globalNamed "loop.example/pub-g03460/pub/ebpfbtf.ErrNotSupported" = some 6 := by kernel_rfl
theorem zT6 : (Tryz.prog.globals[6]?).map (·.type) = some 84 := by kernel_rfl
theorem zG7 : Tryz.prog.globalNamed "loop.example/pub-g03460/pub/ebpfbtf.errUnsizedType" = some 7 := by kernel_rfl
theorem zT7 : (Tryz.prog.globals[7]?).map (·.type) = some 84 := by kernel_rfl
structure Six (W : World) (a : Nat → Addr) : Prop where
 v0 : W.var? Tryz.prog "loop.example/pub-g03460/pub/ebpfbtf.ErrNotFound" = some #[.iface 228 (.pointer (some (a 0)))]
 v3 : W.var? Tryz.prog "loop.example/pub-g03460/pub/ebpfbtf.errIncompatibleTypes" = some #[.iface 228 (.pointer (some (a 3)))]
 v4 : W.var? Tryz.prog "loop.example/pub-g03460/pub/ebpfbtf.errImpossibleRelocation" = some #[.iface 228 (.pointer (some (a 4)))]
 v5 : W.var? Tryz.prog "loop.example/pub-g03460/pub/ebpfbtf.errNoSignedness" = some #[.iface 228 (.pointer (some (a 5)))]
 v6 : W.var? Tryz.prog "loop.example/pub-g03460/pub/ebpfbtf.ErrNotSupported" = some #[.iface 228 (.pointer (some (a 6)))]
 v7 : W.var? Tryz.prog "loop.example/pub-g03460/pub/ebpfbtf.errUnsizedType" = some #[.iface 228 (.pointer (some (a 7)))]
theorem six_of_laid {W : World} (h : laidMet Tryz.prog Rows.fnTypeRow.laid W) : ∃ a, Six W a := by
 obtain ⟨a6, s6, hv6, _⟩ := laid_sentinel h zG6 zT6 Tryz.underlying84 zRow Tryz.underlying228 Tryz.underlying230 rfl rfl Tryz.underlying9 zCellsE zCellsS
 obtain ⟨a0, s0, hv0, _⟩ := laid_sentinel h.tail zG0 zT0 Tryz.underlying84 zRow Tryz.underlying228 Tryz.underlying230 rfl rfl Tryz.underlying9 zCellsE zCellsS
 obtain ⟨a4, s4, hv4, _⟩ := laid_sentinel h.tail.tail zG4 zT4 Tryz.underlying84 zRow Tryz.underlying228 Tryz.underlying230 rfl rfl Tryz.underlying9 zCellsE zCellsS
 obtain ⟨a3, s3, hv3, _⟩ := laid_sentinel h.tail.tail.tail zG3 zT3 Tryz.underlying84 zRow Tryz.underlying228 Tryz.underlying230 rfl rfl Tryz.underlying9 zCellsE zCellsS
 obtain ⟨a5, s5, hv5, _⟩ := laid_sentinel h.tail.tail.tail.tail zG5 zT5 Tryz.underlying84 zRow Tryz.underlying228 Tryz.underlying230 rfl rfl Tryz.underlying9 zCellsE zCellsS
 obtain ⟨a7, s7, hv7, _⟩ := laid_sentinel h.tail.tail.tail.tail.tail zG7 zT7 Tryz.underlying84 zRow Tryz.underlying228 Tryz.underlying230 rfl rfl Tryz.underlying9 zCellsE zCellsS
 exact ⟨fun g => match g with | 0 => a0 | 3 => a3 | 4 => a4 | 5 => a5 | 6 => a6 | _ => a7, hv0, hv3, hv4, hv5, hv6, hv7⟩
theorem Six.below {W W' : World} {a : Nat → Addr} (h : Six W a) (hb : Below W.heap.size W W') : Six W' a := by
 have lt : ∀ {n : String} {g : Nat} {x : Value}, Tryz.prog.globalNamed n = some g → W.var? Tryz.prog n = some #[x] → g < W.heap.size := fun hg hv =>
  World.block_lt_of_cell? _ ⟨_, 0, none⟩ (World.var?_cell hg hv 0)
 exact ⟨var?_below hb zG0 (lt zG0 h.v0) h.v0, var?_below hb zG3 (lt zG3 h.v3) h.v3, var?_below hb zG4 (lt zG4 h.v4) h.v4, var?_below hb zG5 (lt zG5 h.v5) h.v5, var?_below hb zG6 (lt zG6 h.v6) h.v6, var?_below hb zG7 (lt zG7 h.v7) h.v7⟩
noncomputable def zLow : Nat := (World.holding Tryz.prog default ⟨#[], #[], []⟩).heap.size
def zPut (v : Value) : Obj → Obj
 | .cells _ t frozen => .cells #[v] t frozen
 | o => o
noncomputable def zWorld (os : Os) : World :=
 let w0 := World.holding Tryz.prog os ⟨#[(.cells #[.string { data := #[110, 111, 116, 32, 115, 117, 112, 112, 111, 114, 116, 101, 100] }] 230), (.cells #[.string { data := #[110, 111, 116, 32, 102, 111, 117, 110, 100] }] 230), (.cells #[.string { data := #[105, 109, 112, 111, 115, 115, 105, 98, 108, 101, 32, 114, 101, 108, 111, 99, 97, 116, 105, 111, 110] }] 230), (.cells #[.string { data := #[105, 110, 99, 111, 109, 112, 97, 116, 105, 98, 108, 101, 32, 116, 121, 112, 101, 115] }] 230), (.cells #[.string { data := #[110, 111, 32, 115, 105, 103, 110, 101, 100, 110, 101, 115, 115] }] 230), (.cells #[.string { data := #[116, 121, 112, 101, 32, 105, 115, 32, 117, 110, 115, 105, 122, 101, 100] }] 230)], #[], []⟩
 { w0 with heap := ((((((w0.heap.modify 6 (zPut (.iface 228 (.pointer (some ⟨zLow + 0, 0, none⟩))))).modify 0 (zPut (.iface 228 (.pointer (some ⟨zLow + 1, 0, none⟩))))).modify 4 (zPut (.iface 228 (.pointer (some ⟨zLow + 2, 0, none⟩))))).modify 3 (zPut (.iface 228 (.pointer (some ⟨zLow + 3, 0, none⟩))))).modify 5 (zPut (.iface 228 (.pointer (some ⟨zLow + 4, 0, none⟩))))).modify 7 (zPut (.iface 228 (.pointer (some ⟨zLow + 5, 0, none⟩))))) }
theorem zWorld_met (os : Os) (args : Array Value) : laidMet Tryz.prog Rows.fnTypeRow.laid ((zWorld os).forCall (fun _ _ => 0) ⟨#[], args, []⟩).memory :=
 laidMet_of_run3 8 (by kernel_rfl) (by kernel_rfl) (by kernel_rfl)
end Go.Proofs.YtfilbgmbmlmdbaaGreatDoor
namespace Go.Proofs.YtfilbgmbmlmdbaaGreatDoor
open Go.RowKit Go.MapKept
structure SixE (W : World) (a : Nat → Addr) : Prop where
 ne : a 6 ≠ a 4
 b4 : ∃ cs ty, W.heap[(a 4).block]? = some (.cells cs ty (0, 0))
 b6 : ∃ cs ty, W.heap[(a 6).block]? = some (.cells cs ty (0, 0))
theorem six_var {n : String} {W : World} {a a' : Addr} (h : W.var? Tryz.prog n = some #[.iface 228 (.pointer (some a))]) (h' : W.var? Tryz.prog n = some #[.iface 228 (.pointer (some a'))]) : a = a' := by
 rw [h] at h'
 simpa using h'
theorem sixE_of_laid {W : World} {a : Nat → Addr} (h : laidMet Tryz.prog Rows.fnTypeRow.laid W) (six : Six W a) : SixE W a := by
 obtain ⟨a6, a0, s6, s0, c6, c0, t6, t0, v6, v0, x6, y6, -, x0, y0, -, -, b6, b0⟩ := laid_sentinels2 h zG6 zT6 zG0 zT0 Tryz.underlying84 zRow Tryz.underlying228 Tryz.underlying230 rfl rfl Tryz.underlying9 zCellsE zCellsS
 obtain ⟨a0', a4, s0', s4, c0', c4, t0', t4, v0', v4, -, -, -, x4, y4, -, -, -, b4⟩ := laid_sentinels2 h.tail zG0 zT0 zG4 zT4 Tryz.underlying84 zRow Tryz.underlying228 Tryz.underlying230 rfl rfl Tryz.underlying9 zCellsE zCellsS
 obtain rfl := six_var v6 six.v6
 obtain rfl := six_var v4 six.v4
 refine ⟨fun e => ?_, ⟨_, _, b4⟩, ⟨_, _, b6⟩⟩
 rw [e, x4] at x6
 obtain rfl : s4 = s6 := by simpa using x6
 rw [y4] at y6
 revert y6
 decide
theorem SixE.below {W W' : World} {a : Nat → Addr} (h : SixE W a) (hb : Below W.heap.size W W') : SixE W' a := by
 obtain ⟨ne, ⟨c4, t4, b4⟩, ⟨c6, t6, b6⟩⟩ := h
 exact ⟨ne, ⟨c4, t4, (hb.block _ (Array.getElem?_eq_some_iff.1 b4).1).trans b4⟩, ⟨c6, t6, (hb.block _ (Array.getElem?_eq_some_iff.1 b6).1).trans b6⟩⟩
theorem SixE.lt {W : World} {a : Nat → Addr} (h : SixE W a) : (a 4).block < W.heap.size := by
 obtain ⟨c, t, b⟩ := h.b4
 exact (Array.getElem?_eq_some_iff.1 b).1
theorem SixE.other {W : World} {a : Nat → Addr} (h : SixE W a) : OtherErr (a 4) W (.iface 228 (.pointer (some (a 6)))) := by
 obtain ⟨c, t, b⟩ := h.b6
 exact ⟨_, c, t, rfl, h.ne, b⟩
theorem Six.c4 {W : World} {a : Nat → Addr} (h : Six W a) : W.cell? ⟨4, 0, none⟩ = some (.iface 228 (.pointer (some (a 4)))) := World.var?_cell zG4 h.v4 0
theorem Six.c6 {W : World} {a : Nat → Addr} (h : Six W a) : W.cell? ⟨6, 0, none⟩ = some (.iface 228 (.pointer (some (a 6)))) := World.var?_cell zG6 h.v6 0
theorem Acc.below {w w' : World} {g L o : Nat} {p : List Nat} (h : Acc w g L p o) (hg : g < w.heap.size) (hb : Below w.heap.size w w') : Acc w' g L p o :=
 ⟨h.1, fun i x hi => ⟨(hb.cell (p := ⟨g, o + i, none⟩) hg).trans (h.2 i x hi).1, (h.2 i x hi).2⟩⟩
theorem calls_get {P : Program} {f : FuncId} {args : Array Value} {w : World} {R : Ending → World → Prop} (h : Calls P f args w R) : ∃ e w', R e w' := by
 obtain ⟨e, w', _, hR, _⟩ := h []
 exact ⟨e, w', hR⟩
theorem Outs.enmS {w : World} {n og i : Nat} {f : Nat → RowD} {pt : Nat → TypeId} {ob : Nat → Nat} (h : Outs w n f og pt ob) (hi : i < n) {q : Nat} {nm : ByteArray} {sg : Bool} {vn : Nat → ByteArray} {vv : Nat → Int} (r : RT f i (.enm nm sg q vn vv)) : w.cell? ⟨ob (i + 1), 2, none⟩ = some (.bool sg) := by
 obtain ⟨cs, cs0, ty, lo, hob, hbk, hful⟩ := h.full i hi
 cases r with
 | enm hk hn hs hl hqq hr =>
  rw [hk, hn, hs, hl] at hful
  cases hful with
  | str hk' _ _ => omega
  | enm ho he =>
   have := hbk.cell 2
   cases sg <;> exact this
theorem RT.und_int {f : Nat → RowD} {i n : Nat} {t : Ty} {sz : Nat} {sg : Bool} {nm : ByteArray} (r : RT f i t) (ht : FOk t) (hi : i < n) (hR : Refs n f) (e : t.behind = .int sz sg nm) : asRow 1 f i = some (und f i) ∧ RT f (und f i) (.int sz sg nm) ∧ und f i < n ∧ ((f i).k = 1 ∨ (f i).k = 8 ∨ (f i).k = 10) := by
 obtain ⟨r', hi', -, -⟩ := ht.und r hi hR
 rw [e] at r'
 have h3 : (f i).k = 1 ∨ (f i).k = 8 ∨ (f i).k = 10 := by
  have hk := r.kind
  cases t with
  | int => exact .inl hk
  | named => exact .inr (.inl hk)
  | cst => exact .inr (.inr hk)
  | _ => cases e
 refine ⟨?_, r', hi', h3⟩
 unfold asRow und
 cases t with
 | int =>
  have hk : (f i).k = 1 := r.kind
  rw [if_pos hk, if_neg (by omega)]
 | named =>
  have hk : (f i).k = 8 := r.kind
  rw [if_neg (by omega), if_pos ⟨.inl hk, rfl⟩, if_pos (.inl hk)]
 | cst =>
  have hk : (f i).k = 10 := r.kind
  rw [if_neg (by omega), if_pos ⟨.inr hk, rfl⟩, if_pos (.inr hk)]
 | _ => cases e
theorem RT.und_enm {f : Nat → RowD} {i : Nat} {t : Ty} {sg : Bool} {nm : ByteArray} {q : Nat} {vn : Nat → ByteArray} {vv : Nat → Int} (r : RT f i t) (ht : FOk t) (e : t.behind = .enm nm sg q vn vv) : asRow 6 f i = some i ∧ und f i = i ∧ RT f i (.enm nm sg q vn vv) ∧ (f i).k = 6 := by
 cases t with
 | enm =>
  have hk : (f i).k = 6 := r.kind
  refine ⟨if_pos hk, ?_, ?_, hk⟩
  ·unfold und; rw [if_neg (by omega)]
  ·simp only [Ty.behind] at e; rw [← e]; exact r
 | named nm u => cases ht with
  | leaf h => cases h with
   | int h => obtain ⟨_, _, _, e', _⟩ := h; cases e'
   | enm h => obtain ⟨_, _, _, _, _, e', _⟩ := h; cases e'
   | named h _ => obtain ⟨_, _, _, rfl, _⟩ := h; cases e
 | cst u => cases ht with
  | leaf h => cases h with
   | int h => obtain ⟨_, _, _, e', _⟩ := h; cases e'
   | enm h => obtain ⟨_, _, _, _, _, e', _⟩ := h; cases e'
   | cst h => obtain ⟨_, _, _, rfl, _⟩ := h; cases e
 | _ => cases e
theorem sgn_int {t : Ty} {sz : Nat} {sg : Bool} {nm : ByteArray} (e : t.behind = .int sz sg nm) : sgn t = if sg then 1 else 0 := by unfold sgn; rw [e]
theorem sgn_enm {t : Ty} {sg : Bool} {nm : ByteArray} {q : Nat} {vn : Nat → ByteArray} {vv : Nat → Int} (e : t.behind = .enm nm sg q vn vv) : sgn t = if sg then 1 else 0 := by unfold sgn; rw [e]
theorem boolInt (b : Bool) : (if b then (1 : Int) else 0) = 0 ∨ (if b then (1 : Int) else 0) = 1 := by cases b <;> decide
def HasSign (t : Ty) : Prop := (∃ sz sg nm, t.behind = .int sz sg nm) ∨ ∃ nm sg n vn vv, t.behind = .enm nm sg n vn vv
theorem fix_any {T : Two} {w : World} {a : Nat → Addr} {i0 j0 g L cap n0 k : Nat} {t u : Ty} {p : List Nat} {R : FS × Out} {big : Bool} {idv rs : Value} (pk : Pkg T w (a 4)) (six : Six w a) (se : SixE w a) (r1 : RT T.f1 i0 t) (r2 : RT T.f2 j0 u) (hi0 : i0 < T.n1) (hj0 : j0 < T.n2) (ok1 : FOk t) (ok2 : FOk u) (hc1 : isC t = true) (hc2 : isC u = true) (hacc : Acc w g L (n0 :: p) 0) (hL : L ≤ 5) (hg : g < w.heap.size) (hcap : L ≤ cap) (hk : k ≤ 5)
  (hR : R = fieldGo p ⟨t, n0 * t.bytes, 0, 0, u, n0 * u.bytes, 0, 0⟩) (hs : R.2 = .found → 3 < k → Shf R.1) (hsg : R.2 = .found → k = 3 → HasSign R.1.a) :
  CalcX w (objAt T.pt1 T.ob1 i0) (.slice (some ⟨g, 0, none⟩) L cap) k idv (objAt T.pt2 T.ob2 j0) rs big (fxK R k) (fxA R k) (fxB R k big) (fxP R k) (fxO R) := by
 intro W cb hb hblk
 have pkW := pk.ck (CellsKept.below hb)
 have sixW := six.below hb
 have seW := se.below hb
 have accW := hacc.below hg hb
 have hgW := Nat.lt_of_lt_of_le hg hb.size
 have hre : ReloE W cb (objAt T.pt1 T.ob1 i0) (.slice (some ⟨g, 0, none⟩) L cap) k idv (a 4) := ⟨hblk, sixW.c4⟩
 have hfw : FwdC W (objAt T.pt2 T.ob2 j0) := fun W' hb' => by
  have hkk : (T.f2 j0).k = 4 ∨ (T.f2 j0).k = 5 := by
   have h := r2.kind
   cases u with
   | comp un => cases un with
    | false => exact .inl h
    | true => exact .inr h
   | _ => cases hc2
  refine (As_Fwd W' T.n2 T.og2 j0 T.f2 T.pt2 T.ob2 (pkW.ck (CellsKept.below hb')).i.h2 hj0 (pkW.i.p2 j0 hj0) hkk).mono ?_
  rintro e w' ⟨rfl, he⟩
  have hr : asRow 7 T.f2 j0 = none := by
   unfold asRow
   rw [if_neg (by omega), if_neg (by omega)]
  rw [hr] at he
  exact ⟨he, rfl⟩
 have hff : ∀ W', Below W.heap.size W W' → Calls Tryz.prog 62 #[objAt T.pt1 T.ob1 i0, .slice (some ⟨g, 0, none⟩) L cap, objAt T.pt2 T.ob2 j0] W' (KRes T W' (a 4) R) := fun W' hb' => by
  rw [hR]
  exact findField_any (pkW.ck (CellsKept.below hb')) (sixW.below hb').c6 (seW.below hb').other (seW.below hb').lt r1 r2 hi0 hj0 ok1 ok2 hc1 hc2 (accW.below hgW hb') hL (Nat.lt_of_lt_of_le hgW hb'.size) hcap
 obtain ⟨s, o⟩ := R
 cases o with
 | wrong =>
  have hF : FieldC W (objAt T.pt1 T.ob1 i0) (.slice (some ⟨g, 0, none⟩) L cap) (objAt T.pt2 T.ob2 j0) fun v w' => ∃ ev, v = .tuple #[cfA, cfA, ev] ∧ OtherErr (a 4) w' ev := fun W' hb' => (hff W' hb').mono fun e w' ⟨h1, ev, h2, h3⟩ => ⟨h1, _, h2, ev, rfl, h3⟩
  obtain ⟨sc, sy, hsn⟩ := seW.b4
  have hfin : ∀ {e : Ending} {w' : World}, ((∃ b, e = .returned (.tuple #[.agg fix0, .iface 228 (.pointer (some b))])) ∧ Below W.heap.size W w') → (∃ s' ev, e = .returned (.tuple #[fixV (fxK (s, Out.wrong) k) (fxA (s, Out.wrong) k) (fxB (s, Out.wrong) k big) (fxP (s, Out.wrong) k) s', ev]) ∧ ErrV (fxO (s, Out.wrong)) ev) ∧ Below W.heap.size W w' :=
   fun ⟨⟨b, h1⟩, h2⟩ => ⟨⟨false, _, h1, b, rfl⟩, h2⟩
  rcases (by omega : k = 0 ∨ k = 1 ∨ k = 2 ∨ k = 3 ∨ k = 4 ∨ k = 5) with rfl | rfl | rfl | rfl | rfl | rfl
  ·exact (calc_wrong (by omega) hsn hre hfw hF).mono fun _ _ h => hfin h
  ·exact (calc_wrong (by omega) hsn hre hfw hF).mono fun _ _ h => hfin h
  ·exact (calc_wrong (by omega) hsn hre hfw hF).mono fun _ _ h => hfin h
  ·exact (calc_wrong (by omega) hsn hre hfw hF).mono fun _ _ h => hfin h
  ·exact (calc_wrong (by omega) hsn hre hfw hF).mono fun _ _ h => hfin h
  ·exact (calc_wrong (by omega) hsn hre hfw hF).mono fun _ _ h => hfin h
 | poison =>
  have hF : FieldC W (objAt T.pt1 T.ob1 i0) (.slice (some ⟨g, 0, none⟩) L cap) (objAt T.pt2 T.ob2 j0) fun v _ => v = .tuple #[cfA, cfA, .iface 228 (.pointer (some (a 4)))] := fun W' hb' => (hff W' hb').mono fun e w' ⟨h1, h2⟩ => ⟨h1, _, h2, rfl⟩
  rcases (by omega : k = 0 ∨ k = 1 ∨ k = 2 ∨ k = 3 ∨ k = 4 ∨ k = 5) with rfl | rfl | rfl | rfl | rfl | rfl
  ·exact (calc_no (p1 := 0) (pb := true) (by decide) hre hfw hF).mono fun _ _ h => ⟨⟨false, _, h.1, rfl⟩, h.2⟩
  ·exact (calc_no (p1 := 0) (pb := true) (by decide) hre hfw hF).mono fun _ _ h => ⟨⟨false, _, h.1, rfl⟩, h.2⟩
  ·exact (calc_no (p1 := 1) (pb := false) (by decide) hre hfw hF).mono fun _ _ h => ⟨⟨false, _, h.1, rfl⟩, h.2⟩
  ·exact (calc_no (p1 := 0) (pb := true) (by decide) hre hfw hF).mono fun _ _ h => ⟨⟨false, _, h.1, rfl⟩, h.2⟩
  ·exact (calc_no (p1 := 0) (pb := true) (by decide) hre hfw hF).mono fun _ _ h => ⟨⟨false, _, h.1, rfl⟩, h.2⟩
  ·exact (calc_no (p1 := 0) (pb := true) (by decide) hre hfw hF).mono fun _ _ h => ⟨⟨false, _, h.1, rfl⟩, h.2⟩
 | found =>
  obtain ⟨PA, hPA⟩ : ∃ PA : TypeId → Value → Prop, PA = fun tA pA => ∃ ia, ia < T.n1 ∧ RT T.f1 ia s.a ∧ tA = T.pt1 (ia + 1) ∧ pA = .pointer (some ⟨T.ob1 (ia + 1), 0, none⟩) := ⟨_, rfl⟩
  obtain ⟨PB, hPB⟩ : ∃ PB : TypeId → Value → Prop, PB = fun tB pB => ∃ ib, ib < T.n2 ∧ RT T.f2 ib s.b ∧ tB = T.pt2 (ib + 1) ∧ pB = .pointer (some ⟨T.ob2 (ib + 1), 0, none⟩) := ⟨_, rfl⟩
  have hF : FieldC W (objAt T.pt1 T.ob1 i0) (.slice (some ⟨g, 0, none⟩) L cap) (objAt T.pt2 T.ob2 j0) fun v _ => ∃ tA pA tB pB, v = .tuple #[.agg (cfC (.iface tA pA) (s.ao : Nat) (s.af : Nat) (s.ab : Nat)), .agg (cfC (.iface tB pB) (s.bo : Nat) (s.bf : Nat) (s.bb : Nat)), .nilIface] ∧ PA tA pA ∧ PB tB pB := fun W' hb' => (hff W' hb').mono fun e w' ⟨h1, ia, ib, h2, h3, h4, h5, h6, _⟩ =>
   ⟨h1, _, h2, _, _, _, _, rfl, by rw [hPA]; exact ⟨ia, h5, h3, rfl, rfl⟩, by rw [hPB]; exact ⟨ib, h6, h4, rfl, rfl⟩⟩
  obtain ⟨e0, w0, -, ia0, ib0, -, -, -, -, -, oka, okb, hao, hbo⟩ := calls_get (hff W (Below.refl _ _))
  simp only at oka okb hao hbo
  have hya := oka.flat.1
  have hyb := okb.flat.1
  have hs1 : ∀ tA pA, PA tA pA → SizeC W (.iface tA pA) ((s.a.bytes : Nat) : Int) := fun tA pA h => by
   rw [hPA] at h
   obtain ⟨ia, h1, h2, rfl, rfl⟩ := h
   exact size_fok pkW.i.h1 oka h2 h1 pkW.r1
  have hs2 : ∀ tB pB, PB tB pB → SizeC W (.iface tB pB) ((s.b.bytes : Nat) : Int) := fun tB pB h => by
   rw [hPB] at h
   obtain ⟨ib, h1, h2, rfl, rfl⟩ := h
   exact size_fok pkW.i.h2 okb h2 h1 pkW.r2
  have hok : FndOk s := fieldGo_from ok1 ok2 hc1 hR.symm
  rcases (by omega : k = 0 ∨ k = 1 ∨ k = 2 ∨ k = 3 ∨ k = 4 ∨ k = 5) with rfl | rfl | rfl | rfl | rfl | rfl
  ·exact (calc0_yes (by omega) (by omega) hre hfw hF).mono fun _ _ h => ⟨⟨_, _, h.1, rfl⟩, h.2⟩
  ·exact (calc1_yes (by omega) (by omega) hs1 hs2 hre hfw hF).mono fun _ _ h => ⟨⟨_, _, h.1, rfl⟩, h.2⟩
  ·exact (calc2_yes hre hfw hF).mono fun _ _ h => ⟨⟨_, _, h.1, rfl⟩, h.2⟩
  ·show Calls _ _ _ _ fun e w' => (∃ s' ev, e = .returned (.tuple #[fixV 3 (sgn s.a) (sgn s.b) false s', ev]) ∧ ErrV true ev) ∧ Below W.heap.size W w'
   rcases hsg rfl rfl with ⟨sz, sg, nm, e1⟩ | ⟨nm, sg, n, vn, vv, e1⟩
   ·obtain ⟨sz', sg', nm', e2⟩ := cmp_int hok.same e1
    rw [sgn_int e1, sgn_int e2]
    refine (calc3_int (boolInt sg) (boolInt sg') (fun tA pA h => ?_) (fun tB pB h => ?_) hre hfw hF).mono fun _ _ h => ⟨⟨_, _, h.1, rfl⟩, h.2⟩
    ·rw [hPA] at h
     obtain ⟨ia, h1, h2, rfl, rfl⟩ := h
     obtain ⟨-, h4, h5, -⟩ := h2.und_int oka h1 pkW.r1 e1
     obtain ⟨h6, -, -, h7⟩ := pkW.i.h1.intC h5 h4
     refine ⟨_, fun W' hb' => ?_, h7⟩
     rw [← h6]
     exact underlying_any W' T.n1 T.og1 ia T.f1 T.pt1 T.ob1 (pkW.ck (CellsKept.below hb')).i.h1 h1 pkW.i.p1
    ·rw [hPB] at h
     obtain ⟨ib, h1, h2, rfl, rfl⟩ := h
     obtain ⟨h3, h4, h5, hk3⟩ := h2.und_int okb h1 pkW.r2 e2
     obtain ⟨h6, -, -, h7⟩ := pkW.i.h2.intC h5 h4
     refine ⟨_, fun W' hb' => ?_, h7⟩
     refine (As_Int W' T.n2 T.og2 ib T.f2 T.pt2 T.ob2 (pkW.ck (CellsKept.below hb')).i.h2 h1 (pkW.i.p2 ib h1) hk3).mono ?_
     rintro e w' ⟨rfl, he⟩
     rw [h3] at he
     exact ⟨he.2.2, rfl⟩
   ·obtain ⟨nm', sg', n', vn', vv', e2⟩ := cmp_enm hok.same e1
    rw [sgn_enm e1, sgn_enm e2]
    refine (calc3_enm (gx := sg) (gy := sg') (fun tA pA h => ?_) (fun tB pB h => ?_) hre hfw hF).mono fun _ _ h => ⟨⟨_, _, h.1, rfl⟩, h.2⟩
    ·rw [hPA] at h
     obtain ⟨ia, h1, h2, rfl, rfl⟩ := h
     obtain ⟨-, h4, h5, -⟩ := h2.und_enm oka e1
     obtain ⟨h6, -⟩ := pkW.i.h1.enmC h1 h5
     refine ⟨T.ob1 (ia + 1), fun W' hb' => ?_, pkW.i.h1.enmS h1 h5⟩
     have := underlying_any W' T.n1 T.og1 ia T.f1 T.pt1 T.ob1 (pkW.ck (CellsKept.below hb')).i.h1 h1 pkW.i.p1
     rw [h4] at this
     rw [← h6]
     exact this
    ·rw [hPB] at h
     obtain ⟨ib, h1, h2, rfl, rfl⟩ := h
     obtain ⟨h3, h4, h5, hk3⟩ := h2.und_enm okb e2
     refine ⟨T.ob2 (ib + 1), fun W' hb' => ?_, pkW.i.h2.enmS h1 h5⟩
     refine (As_Enum W' T.n2 T.og2 ib T.f2 T.pt2 T.ob2 (pkW.ck (CellsKept.below hb')).i.h2 h1 (pkW.i.p2 ib h1) hk3).mono ?_
     rintro e w' ⟨rfl, he⟩
     rw [h3] at he
     exact ⟨he.2.2, rfl⟩
  ·obtain ⟨hw, hz⟩ := hs rfl (by omega)
   simp only at hw hz
   cases big with
   | false =>
    refine (calc4_little hyb (q := wid s) rfl hs2 hre hfw hF).mono fun _ _ h => ⟨⟨true, .nilIface, h.1.trans ?_, rfl⟩, h.2⟩
    show _ = Ending.returned (.tuple #[fixV 4 0 (64 - (s.bf : Int) - (wid s : Int)) false true, .nilIface])
    rw [Int.emod_eq_of_lt (by omega) (by omega)]
   | true =>
    refine (calc4_big hyb hs2 hre hfw hF).mono fun _ _ h => ⟨⟨true, .nilIface, h.1.trans ?_, rfl⟩, h.2⟩
    have hbf : s.bf ≤ 64 := by omega
    show _ = Ending.returned (.tuple #[fixV 4 0 (64 - 8 * (s.b.bytes : Int) + (s.bf : Int)) false true, .nilIface])
    rw [Int.emod_eq_of_lt (by omega) (by omega), Int.mul_comm]
  ·obtain ⟨hw, hz⟩ := hs rfl (by omega)
   simp only at hw hz
   refine (calc5_yes hyb (q := wid s) rfl hs2 hre hfw hF).mono fun _ _ h => ⟨⟨true, .nilIface, h.1.trans ?_, rfl⟩, h.2⟩
   show _ = Ending.returned (.tuple #[fixV 5 0 (64 - (wid s : Int)) false true, .nilIface])
   rw [Int.emod_eq_of_lt (by omega) (by omega)]
end Go.Proofs.YtfilbgmbmlmdbaaGreatDoor
