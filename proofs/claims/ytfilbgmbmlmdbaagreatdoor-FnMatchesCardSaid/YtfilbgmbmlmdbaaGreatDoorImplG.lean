/- The thin package's own building of types: words, plain lemmas. Nothing is claimed here. -/
import Derived.Test.YtfilbgmbmlmdbaaGreatDoorImplF
namespace Go.Proofs.YtfilbgmbmlmdbaaGreatDoor
open Go.RowKit

/-- A row's data. -/
structure RowD where
  k : Int
  nm : ByteArray
  sz : Int
  en : Int
  fl : Int
  of : Nat
  ix : Nat
  mv : Value
  q : Nat
  ys : List Value
abbrev FitsD (w : World) (D : Nat → Prop) (xs : List Value) (n i : Nat) (d : RowD) : Prop := RowFits w D xs n i d.k d.nm d.sz d.en d.fl d.of d.ix d.mv d.q d.ys
theorem Rows.data {w : World} {v : Value} {n : Nat} {xs : List Value} {D : Nat → Prop} (h : Rows w v n xs D) : ∃ f : Nat → RowD, ∀ i, i < n → FitsD w D xs n i (f i) := by
  classical
  have h' : ∀ i, ∃ d : RowD, i < n → FitsD w D xs n i d := fun i => by
    by_cases hi : i < n
    · obtain ⟨k, nm, sz, en, fl, of, ix, mv, q, ys, hf⟩ := h.fits i hi
      exact ⟨⟨k, nm, sz, en, fl, of, ix, mv, q, ys⟩, fun _ => hf⟩
    · exact ⟨⟨0, ⟨#[]⟩, 0, 0, 0, 0, 0, .nilIface, 0, []⟩, fun h => absurd h hi⟩
  exact ⟨fun i => Classical.choose (h' i), fun i => Classical.choose_spec (h' i)⟩
theorem lrow_cells {w : World} {base e n g cap i : Nat} {xs : List Value} {k : Int} {nm : ByteArray} {sz en fl of ix : Int} {mv : Value} (h : w.ownsRow base e 8 (.slice (some ⟨g, 0, none⟩) n cap) n xs) (l : LRow xs i k nm sz en fl of ix mv) :
    w.cell? ⟨g, i * 8, none⟩ = some (.int .i64 k) ∧ w.cell? ⟨g, i * 8 + 1, none⟩ = some (.string nm) ∧ w.cell? ⟨g, i * 8 + 2, none⟩ = some (.int .i64 sz) ∧ w.cell? ⟨g, i * 8 + 3, none⟩ = some (.int .i64 en) ∧ w.cell? ⟨g, i * 8 + 4, none⟩ = some (.int .i64 fl) ∧
      w.cell? ⟨g, i * 8 + 5, none⟩ = some (.int .i64 of) ∧ w.cell? ⟨g, i * 8 + 6, none⟩ = some (.int .i64 ix) ∧ w.cell? ⟨g, i * 8 + 7, none⟩ = some mv := by
  obtain ⟨h0, h1, h2, h3, h4, h5, h6, h7⟩ := l
  rw [Nat.mul_comm] at h0 h1 h2 h3 h4 h5 h6 h7
  exact ⟨own_cell h h0, own_cell h h1, own_cell h h2, own_cell h h3, own_cell h h4, own_cell h h5, own_cell h h6, own_cell h h7⟩
theorem kinds_at {w : World} {n g cap : Nat} {xs : List Value} {D : Nat → Prop} {f : Nat → RowD} (h : w.ownsRow 0 72 8 (.slice (some ⟨g, 0, none⟩) n cap) n xs) (hf : ∀ i, i < n → FitsD w D xs n i (f i)) : KindsAt w g n := fun i hi =>
  ⟨_, (lrow_cells h (hf i hi).row).1, fun e => by have := (hf i hi).kind; unfold KindOk at this; omega⟩

/-- The types that were made of the first k rows, ahead of their parts. -/
structure B1 (w : World) (n : Nat) (f : Nat → RowD) (og oc : Nat) (os : List Value) (pt : Nat → TypeId) (ob : Nat → Nat) (k : Nat) (wr : World) : Prop where
  old : Below w.heap.size w wr
  var : Blk wr oc #[.slice (some ⟨og, 0, none⟩) n n] 78
  own : wr.ownsRow w.heap.size 77 1 (.slice (some ⟨og, 0, none⟩) n n) n os
  has : ∀ i, i < k → os[i]? = some (.iface (pt (i + 1)) (.pointer (some ⟨ob (i + 1), 0, none⟩)))
  obj : ∀ i, i < k → ∃ cs ty, ObjC (f i).nm (f i).sz (f i).en (f i).fl (f i).k (pt (i + 1)) cs ty ∧ Blk wr (ob (i + 1)) cs ty ∧ w.heap.size ≤ ob (i + 1) ∧ ob (i + 1) ≠ og ∧ ob (i + 1) ≠ oc
  inj : ∀ i j, i < j → j < k → ob (i + 1) < ob (j + 1)
  lo : w.heap.size ≤ oc ∧ oc ≠ og
theorem B1.new {w wr w2 : World} {n : Nat} {f : Nat → RowD} {og oc : Nat} {os : List Value} {pt : Nat → TypeId} {ob : Nat → Nat} {k : Nat} (h : B1 w n f og oc os pt ob k wr) (hb : Below wr.heap.size wr w2) : B1 w n f og oc os pt ob k w2 :=
  ⟨h.old.trans (hb.mono h.old.size), h.var.old hb, ownsRow_of h.own fun g _ hl => hb.block g hl, h.has, fun i hi => by
    obtain ⟨cs, ty, h1, h2, h3⟩ := h.obj i hi
    exact ⟨cs, ty, h1, h2.old hb, h3⟩, h.inj, h.lo⟩
theorem B1.push {w wr w2 : World} {n : Nat} {f : Nat → RowD} {og oc : Nat} {os : List Value} {pt : Nat → TypeId} {ob : Nat → Nat} {k b : Nat} {p : TypeId} {cs : Array Value} {ty : TypeId} (h : B1 w n f og oc os pt ob k wr) (hk : k < n) (hb : Below wr.heap.size wr w2)
    (ho : ObjC (f k).nm (f k).sz (f k).en (f k).fl (f k).k p cs ty) (hbk : Blk w2 b cs ty) (hlo : wr.heap.size ≤ b) :
    B1 w n f og oc (os.set k (.iface p (.pointer (some ⟨b, 0, none⟩)))) (upd pt (k + 1) p) (upd ob (k + 1) b) (k + 1) (w2.setCell ⟨og, k, none⟩ (.iface p (.pointer (some ⟨b, 0, none⟩)))) := by
  have hn := h.new hb
  have hogl := (h.own.lt og rfl).2
  have hocl := h.var.lt
  have hog := (h.own.lt og rfl).1
  obtain ⟨hs1, -⟩ := hn.own.stored k (.iface p (.pointer (some ⟨b, 0, none⟩)))
  have hlen := h.own.1
  refine ⟨hn.old.setCell hog _, hn.var.other (by show oc ≠ og; exact h.lo.2) _, hs1, fun i hi => ?_, fun i hi => ?_, fun i j hij hj => ?_, h.lo⟩
  · by_cases hik : i < k
    · rw [List.getElem?_set_ne (by omega), upd_other _ _ (by omega), upd_other _ _ (by omega)]; exact hn.has i hik
    · obtain rfl : i = k := by omega
      rw [upd_same, upd_same, List.getElem?_set_self (by omega)]
  · by_cases hik : i < k
    · rw [upd_other _ _ (by omega), upd_other _ _ (by omega)]
      obtain ⟨cs', ty', h1, h2, h3, h4, h5⟩ := hn.obj i hik
      exact ⟨cs', ty', h1, h2.other (by show ob (i + 1) ≠ og; exact h4) _, h3, h4, h5⟩
    · obtain rfl : i = k := by omega
      rw [upd_same, upd_same]
      have := h.old.size
      exact ⟨cs, ty, ho, hbk.other (by show b ≠ og; omega) _, by omega, by omega, by omega⟩
  · by_cases hjk : j < k
    · rw [upd_other _ _ (by omega), upd_other _ _ (by omega)]; exact h.inj i j hij hjk
    · obtain rfl : j = k := by omega
      rw [upd_same, upd_other _ _ (by omega)]
      obtain ⟨_, _, _, h2, _⟩ := h.obj i hij
      have := h2.lt
      omega
/-- The types that were made of the rows, the first k of them with their parts. -/
structure B2 (w : World) (n : Nat) (f : Nat → RowD) (og oc lo : Nat) (os : List Value) (pt : Nat → TypeId) (ob : Nat → Nat) (k : Nat) (wr : World) : Prop where
  old : Below w.heap.size w wr
  var : Blk wr oc #[.slice (some ⟨og, 0, none⟩) n n] 78
  own : wr.ownsRow w.heap.size 77 1 (.slice (some ⟨og, 0, none⟩) n n) n os
  has : ∀ i, i < n → os[i]? = some (.iface (pt (i + 1)) (.pointer (some ⟨ob (i + 1), 0, none⟩)))
  full : ∀ i, i < k → ∃ cs cs0 ty, ObjC (f i).nm (f i).sz (f i).en (f i).fl (f i).k (pt (i + 1)) cs0 ty ∧ Blk wr (ob (i + 1)) cs ty ∧ FullC wr lo pt ob (f i).nm (f i).sz (f i).en (f i).fl (f i).of (f i).ix (f i).q (f i).ys (f i).k cs
  obj : ∀ i, k ≤ i → i < n → ∃ cs ty, ObjC (f i).nm (f i).sz (f i).en (f i).fl (f i).k (pt (i + 1)) cs ty ∧ Blk wr (ob (i + 1)) cs ty
  far : ∀ i, i < n → w.heap.size ≤ ob (i + 1) ∧ ob (i + 1) < lo ∧ ob (i + 1) ≠ og ∧ ob (i + 1) ≠ oc
  inj : ∀ i j, i < j → j < n → ob (i + 1) < ob (j + 1)
  lo : lo ≤ wr.heap.size ∧ w.heap.size ≤ oc ∧ oc ≠ og
theorem B2.start {w wr : World} {n : Nat} {f : Nat → RowD} {og oc : Nat} {os : List Value} {pt : Nat → TypeId} {ob : Nat → Nat} (h : B1 w n f og oc os pt ob n wr) : B2 w n f og oc wr.heap.size os pt ob 0 wr :=
  ⟨h.old, h.var, h.own, h.has, fun i hi => by omega, fun i _ hi => by
    obtain ⟨cs, ty, h1, h2, _⟩ := h.obj i hi
    exact ⟨cs, ty, h1, h2⟩, fun i hi => by
    obtain ⟨cs, ty, h1, h2, h3, h4, h5⟩ := h.obj i hi
    exact ⟨h3, h2.lt, h4, h5⟩, h.inj, Nat.le_refl _, h.lo⟩
theorem B2.at_ {w wr : World} {n : Nat} {f : Nat → RowD} {og oc lo : Nat} {os : List Value} {pt : Nat → TypeId} {ob : Nat → Nat} {k : Nat} (h : B2 w n f og oc lo os pt ob k wr) : AtSt wr n n og oc pt ob :=
  ⟨h.var, fun i hi => own_cell h.own (h.has i hi), (h.own.lt og rfl).2⟩
theorem B2.new {w wr w2 : World} {n : Nat} {f : Nat → RowD} {og oc lo : Nat} {os : List Value} {pt : Nat → TypeId} {ob : Nat → Nat} {k : Nat} (h : B2 w n f og oc lo os pt ob k wr) (hb : Below wr.heap.size wr w2) : B2 w n f og oc lo os pt ob k w2 :=
  ⟨h.old.trans (hb.mono h.old.size), h.var.old hb, ownsRow_of h.own fun g _ hl => hb.block g hl, h.has, fun i hi => by
    obtain ⟨cs, cs0, ty, h1, h2, h3⟩ := h.full i hi
    exact ⟨cs, cs0, ty, h1, h2.old hb, h3.of_eq fun g hg _ => hb.block g hg⟩, fun i h1 hi => by
    obtain ⟨cs, ty, h1, h2⟩ := h.obj i h1 hi
    exact ⟨cs, ty, h1, h2.old hb⟩, h.far, h.inj, Nat.le_trans h.lo.1 hb.size, h.lo.2⟩
theorem B2.push {w wr w2 : World} {n : Nat} {f : Nat → RowD} {og oc lo : Nat} {os : List Value} {pt : Nat → TypeId} {ob : Nat → Nat} {k : Nat} {cs0 : Array Value} {ty : TypeId} (h : B2 w n f og oc lo os pt ob k wr) (hk : k < n) (ho : ObjC (f k).nm (f k).sz (f k).en (f k).fl (f k).k (pt (k + 1)) cs0 ty)
    (hf : FillPost wr (ob (k + 1)) lo ty pt ob (f k).nm (f k).sz (f k).en (f k).fl (f k).of (f k).ix (f k).q (f k).ys (f k).k w2) : B2 w n f og oc lo os pt ob (k + 1) w2 := by
  obtain ⟨cs, hg, hbk, hfull⟩ := hf
  obtain ⟨f1, f2, f3, f4⟩ := h.far k hk
  have hogl := h.own.lt og rfl
  have hne : ∀ i, i < n → i ≠ k → ob (i + 1) ≠ ob (k + 1) := fun i hi hik e => by
    rcases Nat.lt_or_gt_of_ne hik with x | x
    · have := h.inj i k x hk; omega
    · have := h.inj k i x hi; omega
  refine ⟨h.old.grown hg h.old.size (fun x hx => by cases hx; exact f1), h.var.grown hg (fun x => f4 (Option.some.inj x).symm), ownsRow_of h.own fun g hgg hl => hg.block g hl (fun x => by
      have e : og = g := by simpa [Value.ownBlock] using hgg
      exact f3 (by rw [e]; exact (Option.some.inj x).symm)), h.has, fun i hi => ?_, fun i h1 hi => ?_, h.far, h.inj, Nat.le_trans h.lo.1 hg.size, h.lo.2⟩
  · by_cases hik : i < k
    · obtain ⟨cs', cs0', ty', h1, h2, h3⟩ := h.full i hik
      exact ⟨cs', cs0', ty', h1, h2.grown hg (fun x => hne i (by omega) (by omega) (Option.some.inj x)), h3.of_eq fun g hgl hlo => hg.block g hgl (fun x => by have := Option.some.inj x; omega)⟩
    · obtain rfl : i = k := by omega
      exact ⟨cs, cs0, ty, ho, hbk, hfull⟩
  · obtain ⟨cs', ty', h2, h3⟩ := h.obj i (by omega) hi
    exact ⟨cs', ty', h2, h3.grown hg (fun x => hne i hi (by omega) (Option.some.inj x))⟩
#print axioms B2.push
end Go.Proofs.YtfilbgmbmlmdbaaGreatDoor
