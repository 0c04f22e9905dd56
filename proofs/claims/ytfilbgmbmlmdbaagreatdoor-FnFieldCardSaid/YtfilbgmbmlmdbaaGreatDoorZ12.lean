/- A relocation of a type: the package's own function. Nothing is claimed here. -/
import Derived.Test.YtfilbgmbmlmdbaaGreatDoorZ11
import Derived.Laws.EntriesVeiled
set_option linter.unusedSimpArgs false
set_option linter.unusedVariables false
set_option maxRecDepth 1000000
set_option maxHeartbeats 16000000
namespace Go.Proofs.YtfilbgmbmlmdbaaGreatDoor
open Go.RowKit Go.MapKept
def SizeC (w : World) (v : Value) (z : Int) : Prop := ∀ W, CellsKept w W → Calls Tryz.prog 59 #[v] W fun e w' => e = .returned (.tuple #[.int .i64 z, .nilIface]) ∧ Below W.heap.size W w'
abbrev fix0 : Array Value := #[.int .u32 0, .int .u64 0, .int .u64 0, .bool false, .bool false]
structure CSt (w : World) (cb r : Nat) (W : World) : Prop where
 rb : Blk W r #[.pointer (some ⟨cb, 0, none⟩)] 109
 res : Blk W (r + 1) fix0 106
 fb : Blk W (r + 2) #[.func (.func 53) #[] #[.pointer (some ⟨r, 0, none⟩)]] 120
 zb : Blk W (r + 3) fix0 106
 bel : Below w.heap.size w W
 at_ : r = w.heap.size
theorem CSt.start (w : World) (cb : Nat) : CSt w cb w.heap.size ((((w.alloc (.cells #[.pointer (some ⟨cb, 0, none⟩)] 109)).alloc (.cells fix0 106)).alloc (.cells #[.func (.func 53) #[] #[.pointer (some ⟨w.heap.size, 0, none⟩)]] 120)).alloc (.cells fix0 106)) :=
 ⟨(((Blk.new _ _ _).alloc _).alloc _).alloc _, ((Blk.newAt _ _ _ (by simp)).alloc _).alloc _, (Blk.newAt _ _ _ (by simp)).alloc _, Blk.newAt _ _ _ (by simp),
  ((((Below.refl _ _).alloc (Nat.le_refl _) _).alloc (by simp) _).alloc (by simp; omega) _).alloc (by simp; omega) _, rfl⟩
theorem CSt.old {w W W' : World} {cb r : Nat} (h : CSt w cb r W) (hb : Below W.heap.size W W') : CSt w cb r W' :=
 ⟨h.rb.old hb, h.res.old hb, h.fb.old hb, h.zb.old hb, h.bel.trans (hb.mono h.bel.size), h.at_⟩
theorem Blk.four {w : World} {b : Nat} {a0 a1 a2 a3 : Value} {t : TypeId} (h : Blk w b #[a0, a1, a2, a3] t) : w.cell? ⟨b, 0, none⟩ = some a0 ∧ w.cell? ⟨b, 1, none⟩ = some a1 ∧ w.cell? ⟨b, 2, none⟩ = some a2 ∧ w.cell? ⟨b, 3, none⟩ = some a3 :=
 ⟨h.cell 0, h.cell 1, h.cell 2, h.cell 3⟩
section
variable {w : World} {n1 og1 t1 n2 og2 t2 cb ab acap : Nat} {f1 f2 : Nat → RowD} {pt1 pt2 : Nat → TypeId} {ob1 ob2 : Nat → Nat} {id bo rs : Value} {a : Addr}
end
theorem results_tmp4 {fn : Func} {t u v x : Tmp} (h : fn.results = #[.tmp t, .tmp u, .tmp v, .tmp x]) (tmps : Array Value) (P : Program) (w : World) :
  (results fn tmps).run P w = .ok (.tuple #[tmps.getD t undef, tmps.getD u undef, tmps.getD v undef, tmps.getD x undef]) w := by
 simp [results, h]
theorem results_tmp5 {fn : Func} {t u v x y : Tmp} (h : fn.results = #[.tmp t, .tmp u, .tmp v, .tmp x, .tmp y]) (tmps : Array Value) (P : Program) (w : World) :
  (results fn tmps).run P w = .ok (.tuple #[tmps.getD t undef, tmps.getD u undef, tmps.getD v undef, tmps.getD x undef, tmps.getD y undef]) w := by
 simp [results, h]
theorem RowFits.kept {w w' : World} {D : Nat → Prop} {xs : List Value} {n i : Nat} {k : Int} {nm : ByteArray} {sz en fl : Int} {of ix : Nat} {mv : Value} {q : Nat} {ys : List Value} (h : RowFits w D xs n i k nm sz en fl of ix mv q ys) (hb : Below w.heap.size w w') :
  RowFits w' D xs n i k nm sz en fl of ix mv q ys := { h with own := ownsRow_of h.own fun x _ hl => hb.block x hl }
theorem intParts : ElemOk Tryz.prog 27 3 1 8 := .of (z := .int .i64 0) Tryz.underlying27 (by kernel_rfl) (by rfl) (by decide)
end Go.Proofs.YtfilbgmbmlmdbaaGreatDoor
