/- Whether a type of the reference may stand for another one. Nothing is claimed here. -/
import Derived.Test.YtfilbgmbmlmdbaaGreatDoorZ03
import Derived.Test.YtfilbgmbmlmdbaaGreatDoorZ04
import Derived.Test.YtfilbgmbmlmdbaaGreatDoorZ12
import Derived.Test.YtfilbgmbmlmdbaaGreatDoorZ08
set_option linter.unusedSimpArgs false
set_option linter.unusedVariables false
set_option maxRecDepth 1000000
set_option maxHeartbeats 16000000
namespace Go.Proofs.YtfilbgmbmlmdbaaGreatDoor
open Go.RowKit
theorem Rep.kindCell {w : World} {D : Nat → Prop} {b : Nat} {t : Ty} (r : Rep w D b t) : w.cell? ⟨b, 0, none⟩ = some (.int .i64 (t.kind : Int)) := by
 cases r with
 | int h _ => exact h.cell 0
 | ptr h _ _ => exact h.cell 0
 | arr h _ _ => exact h.cell 0
 | named h _ _ => exact h.cell 0
 | cst h _ _ => exact h.cell 0
 | enm h _ _ _ _ => exact h.cell 0
 | @comp b sz n un nm pn py pa pb v xs pc h _ _ _ _ _ => cases un <;> exact h.cell 0
theorem StrSt.whole {W w w3 : World} {Dx : Nat → Prop} {F : Ty → Prop} {M A tb : Nat} {nm nm' : ByteArray} {k sz : Nat} {v : Value} {xs : List Value} {pn : Nat → ByteArray} {py : Nat → Ty} {pa pb pc : Nat → Nat}
  (st : StrSt W Dx F M A tb nm k v xs pn py pa pb pc w) (hb : Blk w3 tb #[.int .i64 4, .string nm', .int .i64 sz, .bool false, .pointer none, v] 38) (ho : ∀ b, b < w.heap.size → b ≠ tb → w3.heap[b]? = w.heap[b]?) :
  Rep w3 Dx tb (.comp false nm' sz k pn py pa pb) := by
 have hown : ∀ g, v.ownBlock = some g → tb + 1 ≤ g := fun g hg => (st.own.lt g hg).1
 refine .comp (un := false) (v := v) (xs := xs) (pc := pc) hb (fun hx => by have := st.dx tb hx; omega) ?_ ?_ st.row ?_
 ·exact ownsRow_base (ownsRow_of st.own fun g hg hl => ho g hl (fun x => by have := hown g hg; omega)) (Nat.zero_le _)
 ·exact fun g hg hx => by have := hown g hg; have := st.dx g hx; omega
 ·intro i hi
  exact (st.rep i hi).keep (fun b hb hd => ho b hb (fun x => hd (.inr (.inl x)))) (fun b _ hx => .inl hx)
theorem IntT.good {t : Ty} (h : IntT t) : Good t ∧ t.cnt ≤ 1 := by
 obtain ⟨sz, sg, nm, rfl, hs, _⟩ := h
 exact ⟨.int (by omega), Nat.le_refl _⟩
theorem IntT.isInt {t : Ty} (h : IntT t) : ∃ sz sg im, t = .int sz sg im := by
 obtain ⟨sz, sg, nm, rfl, hs, _⟩ := h
 exact ⟨_, _, _, rfl⟩
theorem Leaf.good {t : Ty} (h : Leaf t) : Good t ∧ t.cnt ≤ 3 := by
 cases h with
 | int h => have := h.good; exact ⟨this.1, by omega⟩
 | ptr h => have := h.good; exact ⟨.ptr this.1, by simp only [Ty.cnt]; omega⟩
 | enm h => obtain ⟨nm, sg, n, vn, vv, rfl, _, h4, _⟩ := h; exact ⟨.enm (by omega), by simp only [Ty.cnt]; omega⟩
 | arr h h1 h6 => have := h.good; exact ⟨.arr (by omega) this.1, by simp only [Ty.cnt]; omega⟩
 | named h hn => have := h.good; exact ⟨.named h.isInt this.1, by simp only [Ty.cnt]; omega⟩
 | cst h => have := h.good; exact ⟨.cst h.isInt this.1, by simp only [Ty.cnt]; omega⟩
theorem BitsOk.small {y : Ty} {a b : Nat} (h : BitsOk y a b) (hy : Good y) : b ≤ 64 := by
 rcases h with ⟨rfl, _⟩ | ⟨sz, sg, im, rfl, hb, _⟩
 ·omega
 ·cases hy with
  | int h => omega
theorem AnonT.good {F : Ty → Prop} {M c : Nat} {y : Ty} (hF : ∀ t, F t → Good t ∧ t.cnt ≤ c) (hM : M ≤ 100000) (h : AnonT F M y) : Good y ∧ y.cnt ≤ 2 * c + 1 := by
 obtain ⟨un, sz, n, pn, py, pa, pb, rfl, h1, h2, hs, hp⟩ := h
 refine ⟨.comp (by omega) (by omega) (fun i hi => ?_) (fun i hi => (hF _ (hp i hi).2.1).1), ?_⟩
 ·have := (hp i hi).2.2.1.small (hF _ (hp i hi).2.1).1
  have := (hp i hi).2.2.2
  exact ⟨by omega, by omega⟩
 ·have := sumTo_le (fun i => (py i).cnt) n c (fun i hi => (hF _ (hp i hi).2.1).2)
  have h3 : n * c ≤ 2 * c := Nat.mul_le_mul_right _ h2
  simp only [Ty.cnt]; omega
theorem PartOk.good {F : Ty → Prop} {M c : Nat} {nm : ByteArray} {y : Ty} {a b : Nat} (hF : ∀ t, F t → Good t ∧ t.cnt ≤ c) (hM : M ≤ 100000) (h : PartOk F M nm y a b) : Good y ∧ y.cnt ≤ 2 * c + 1 ∧ b ≤ 64 := by
 rcases h with ⟨_, hy, hb⟩ | ⟨_, hy, rfl, _⟩
 ·have := hF _ hy
  exact ⟨this.1, by omega, hb.small this.1⟩
 ·have := hy.good hF hM
  exact ⟨this.1, this.2, by omega⟩
theorem comp_good {F : Ty → Prop} {M c N A sz n : Nat} {un : Bool} {nm : ByteArray} {pn : Nat → ByteArray} {py : Nat → Ty} {pa pb : Nat → Nat} (hF : ∀ t, F t → Good t ∧ t.cnt ≤ c) (hM : M ≤ 100000) (hs : sz < 4294967296) (hn : n ≤ N) (hN : N ≤ 1000) (hA : A < 4294967296)
  (hp : ∀ i, i < n → PartOk F M (pn i) (py i) (pa i) (pb i) ∧ pa i ≤ A) : Good (.comp un nm sz n pn py pa pb) ∧ (Ty.comp un nm sz n pn py pa pb).cnt ≤ N * (2 * c + 1) + 1 := by
 refine ⟨.comp hs (by omega) (fun i hi => ?_) (fun i hi => ((hp i hi).1.good hF hM).1), ?_⟩
 ·have := ((hp i hi).1.good hF hM).2.2
  have := (hp i hi).2
  exact ⟨by omega, by omega⟩
 ·have := sumTo_le (fun i => (py i).cnt) n (2 * c + 1) (fun i hi => ((hp i hi).1.good hF hM).2.1)
  have h3 : n * (2 * c + 1) ≤ N * (2 * c + 1) := Nat.mul_le_mul_right _ hn
  simp only [Ty.cnt]; omega
theorem StrT.good {F : Ty → Prop} {M c mx : Nat} {nm : ByteArray} {t : Ty} (hF : ∀ t, F t → Good t ∧ t.cnt ≤ c) (hM : M ≤ 100000) (hmx : mx ≤ 100000) (h : StrT F M mx nm t) : Good t ∧ t.cnt ≤ 20 * (2 * c + 1) + 1 := by
 obtain ⟨sz, n, pn, py, pa, pb, rfl, hn, hs, hp⟩ := h
 exact comp_good (A := 8 * mx) hF hM (by omega) hn (by omega) (by omega) hp
theorem FT.good {t : Ty} (h : FT t) : Good t ∧ t.cnt ≤ 141 := by
 rcases h with h | h
 ·have := h.good; exact ⟨this.1, by omega⟩
 ·exact h.good (fun t ht => ht.good) (by omega) (by omega)
end Go.Proofs.YtfilbgmbmlmdbaaGreatDoor
namespace Go.Proofs.YtfilbgmbmlmdbaaGreatDoor
open Go.RowKit Go.MapKept
theorem FT.cases {t : Ty} (h : FT t) : IntT t ∨ (∃ u, t = .ptr u ∧ IntT u) ∨ (∃ nm sg n vn vv, t = .enm nm sg n vn vv) ∨ (∃ n u, t = .arr n u ∧ IntT u ∧ 1 ≤ n ∧ n ≤ 6) ∨ (∃ nm u, t = .named nm u ∧ IntT u) ∨ (∃ u, t = .cst u ∧ IntT u) ∨
  (∃ nm sz n pn py pa pb, t = .comp false nm sz n pn py pa pb ∧ sz ≤ 168) := by
 rcases h with h | h
 ·cases h with
  | int h => exact .inl h
  | ptr h => exact .inr (.inl ⟨_, rfl, h⟩)
  | enm h => obtain ⟨nm, sg, n, vn, vv, rfl, _⟩ := h; exact .inr (.inr (.inl ⟨nm, sg, n, vn, vv, rfl⟩))
  | arr h h1 h6 => exact .inr (.inr (.inr (.inl ⟨_, _, rfl, h, h1, h6⟩)))
  | named h _ => exact .inr (.inr (.inr (.inr (.inl ⟨_, _, rfl, h⟩))))
  | cst h => exact .inr (.inr (.inr (.inr (.inr (.inl ⟨_, rfl, h⟩)))))
 ·obtain ⟨sz, n, pn, py, pa, pb, rfl, _, hs, _⟩ := h
  exact .inr (.inr (.inr (.inr (.inr (.inr ⟨_, _, _, _, _, _, _, rfl, hs⟩)))))
theorem IntT.row {f : Nat → RowD} {i : Nat} {t : Ty} (h : IntT t) (r : RT f i t) : (f i).k = 1 ∧ (f i).sz = (t.bytes : Int) ∧ 0 ≤ (f i).sz ∧ (f i).sz ≤ 8 := by
 obtain ⟨sz, sg, nm, rfl, hs, _⟩ := h
 cases r with
 | int hk hn hs' he =>
  refine ⟨hk, hs', ?_, ?_⟩
  ·rw [hs']; omega
  ·rw [hs']; omega
section
variable {w : World} {D : Nat → Prop} {xs : List Value} {n i og : Nat} {f : Nat → RowD} {t : Ty} {pt : Nat → TypeId} {ob : Nat → Nat}
end
end Go.Proofs.YtfilbgmbmlmdbaaGreatDoor
