/- Numbering by first occurrence, in plain words. Nothing is claimed here. -/
import Derived.Test.YtfilbgmbmlmdbaaAddA
import Derived.Test.YtfilbgmbmlmdbaaAsA
import Derived.Test.YtfilbgmbmlmdbaaAddN
namespace Go.Proofs.Ytfilbgmbmlmdbaa
open Go.RowKit Go.MapKept

/-- What has a number once k entries of a list have been seen, and how many numbers are out. -/
def cntOf (is : Nat → Nat) : Nat → (Nat → Option Nat) × Nat
  | 0 => (fun _ => none, 0)
  | k + 1 =>
    match (cntOf is k).1 (is k) with
    | some _ => cntOf is k
    | none => (fun i => if i = is k then some ((cntOf is k).2 + 1) else (cntOf is k).1 i, (cntOf is k).2 + 1)
/-- The number of entry k. -/
def numOf (is : Nat → Nat) (k : Nat) : Nat := ((cntOf is k).1 (is k)).getD ((cntOf is k).2 + 1)
theorem cntOf_hit {is : Nat → Nat} {k c : Nat} (h : (cntOf is k).1 (is k) = some c) : cntOf is (k + 1) = cntOf is k ∧ numOf is k = c := by
  refine ⟨?_, by simp [numOf, h]⟩
  show (match (cntOf is k).1 (is k) with
    | some _ => cntOf is k
    | none => _) = _
  rw [h]
theorem cntOf_miss {is : Nat → Nat} {k : Nat} (h : (cntOf is k).1 (is k) = none) :
    cntOf is (k + 1) = (fun i => if i = is k then some ((cntOf is k).2 + 1) else (cntOf is k).1 i, (cntOf is k).2 + 1) ∧ numOf is k = (cntOf is k).2 + 1 := by
  refine ⟨?_, by simp [numOf, h]⟩
  show (match (cntOf is k).1 (is k) with
    | some _ => cntOf is k
    | none => _) = _
  rw [h]
theorem cntOf_le (is : Nat → Nat) : ∀ k, (cntOf is k).2 ≤ k
  | 0 => Nat.le_refl _
  | k + 1 => by
    have h := cntOf_le is k
    cases e : (cntOf is k).1 (is k) with
    | some c => rw [(cntOf_hit e).1]; omega
    | none => rw [(cntOf_miss e).1]; show (cntOf is k).2 + 1 ≤ k + 1; omega
theorem cntOf_val (is : Nat → Nat) : ∀ k i c, (cntOf is k).1 i = some c → 1 ≤ c ∧ c ≤ (cntOf is k).2
  | 0, i, c, h => by simp [cntOf] at h
  | k + 1, i, c, h => by
    have ih := cntOf_val is k i
    cases e : (cntOf is k).1 (is k) with
    | some c => rw [(cntOf_hit e).1] at h ⊢; exact ih _ h
    | none =>
      rw [(cntOf_miss e).1] at h ⊢
      dsimp only at h ⊢
      by_cases hi : i = is k
      · rw [if_pos hi] at h
        simp only [Option.some.injEq] at h
        omega
      · rw [if_neg hi] at h
        have := ih _ h
        omega
theorem numOf_le (is : Nat → Nat) (k : Nat) : 1 ≤ numOf is k ∧ numOf is k ≤ k + 1 := by
  have h := cntOf_le is k
  cases e : (cntOf is k).1 (is k) with
  | some c => rw [(cntOf_hit e).2]; have := cntOf_val is k _ _ e; omega
  | none => rw [(cntOf_miss e).2]; omega

/-- The key of a built type. -/
abbrev keyAt (pt : Nat → TypeId) (ob : Nat → Nat) (i : Nat) : Value := .iface (pt (i + 1)) (.pointer (some ⟨ob (i + 1), 0, none⟩))
theorem ObjC.notDs {nm : ByteArray} {sz en fl k : Int} {p : TypeId} {cs0 : Array Value} {ty : TypeId} (h : ObjC nm sz en fl k p cs0 ty) : p ≠ 114 := by
  cases h <;> decide
/-- The types that were built, below block lo: their keys. -/
structure Keys (w : World) (lo n : Nat) (og : Nat) (pt : Nat → TypeId) (ob : Nat → Nat) : Prop where
  at_ : ∀ i, i < n → w.cell? ⟨og, i, none⟩ = some (keyAt pt ob i)
  full : ∀ i, i < n → ∃ nm sz en fl k cs cs0 ty, ObjC nm sz en fl k (pt (i + 1)) cs0 ty ∧ Blk w (ob (i + 1)) cs ty
  inj : ∀ i j, i < j → j < n → ob (i + 1) < ob (j + 1)
  lt : og < lo ∧ lo ≤ w.heap.size
  lts : ∀ i, i < n → ob (i + 1) < lo
theorem Outs.keys {w : World} {n : Nat} {f : Nat → RowD} {og : Nat} {pt : Nat → TypeId} {ob : Nat → Nat} (h : Outs w n f og pt ob) : Keys w w.heap.size n og pt ob :=
  ⟨h.at_, fun i hi => by obtain ⟨cs, cs0, ty, lo, h1, h2, h3⟩ := h.full i hi; exact ⟨_, _, _, _, _, cs, cs0, ty, h1, h2⟩, h.inj, ⟨h.lt, Nat.le_refl _⟩, fun i hi => by obtain ⟨cs, cs0, ty, lo, h1, h2, h3⟩ := h.full i hi; exact h2.lt⟩
section
variable {w : World} {lo n og : Nat} {pt : Nat → TypeId} {ob : Nat → Nat}
theorem Keys.old {w' : World} (h : Keys w lo n og pt ob) (hb : Below lo w w') : Keys w' lo n og pt ob :=
  ⟨fun i hi => (hb.cell h.lt.1).trans (h.at_ i hi), fun i hi => by
    obtain ⟨nm, sz, en, fl, k, cs, cs0, ty, h1, h2⟩ := h.full i hi
    exact ⟨nm, sz, en, fl, k, cs, cs0, ty, h1, h2.of_eq (hb.block _ (h.lts i hi))⟩, h.inj, ⟨h.lt.1, Nat.le_trans h.lt.2 hb.size⟩, h.lts⟩
theorem Keys.key (h : Keys w lo n og pt ob) {i : Nat} (hi : i < n) : IfaceKey Try.prog w (keyAt pt ob i) ∧ pt (i + 1) ≠ 68 ∧ pt (i + 1) ≠ 114 := by
  obtain ⟨nm, sz, en, fl, k, cs, cs0, ty, h1, h2⟩ := h.full i hi
  exact ⟨(h1.key h2).1, (h1.key h2).2, h1.notDs⟩
theorem Keys.ne (h : Keys w lo n og pt ob) {i j : Nat} (hi : i < n) (hj : j < n) (e : keyAt pt ob i = keyAt pt ob j) : i = j := by
  simp only [keyAt, Value.iface.injEq, Value.pointer.injEq, Option.some.injEq, Addr.mk.injEq, and_true] at e
  rcases Nat.lt_trichotomy i j with x | x | x
  · have := h.inj i j x hj; omega
  · exact x
  · have := h.inj j i x hi; omega
/-- What a builder's map tells: the numbers of phi. -/
structure Tells (pt : Nat → TypeId) (ob : Nat → Nat) (n : Nat) (φ : Nat → Option Nat) (m : Value → Option Value) : Prop where
  at_ : ∀ i, i < n → m (keyAt pt ob i) = (φ i).map fun c => .int .u32 (c : Int)
  only : ∀ x u, m x = some u → ∃ i, i < n ∧ x = keyAt pt ob i
theorem Tells.start (pt : Nat → TypeId) (ob : Nat → Nat) (n : Nat) : Tells pt ob n (fun _ => none) (fun _ => none) := ⟨fun _ _ => rfl, fun _ _ h => by cases h⟩
theorem Tells.put {c i : Nat} {φ : Nat → Option Nat} {m m' : Value → Option Value} (h : Tells pt ob n φ m) (ho : Keys w lo n og pt ob) (hi : i < n) (h1 : m' (keyAt pt ob i) = some (.int .u32 (c : Int))) (h2 : ∀ y, y ≠ keyAt pt ob i → m' y = m y) :
    Tells pt ob n (fun j => if j = i then some c else φ j) m' := by
  refine ⟨fun j hj => ?_, fun x u hx => ?_⟩
  · by_cases e : j = i
    · subst e; simp [h1]
    · rw [h2 _ fun e' => e (ho.ne hj hi e')]
      simp only [if_neg e]
      exact h.at_ j hj
  · by_cases e : x = keyAt pt ob i
    · exact ⟨i, hi, e⟩
    · rw [h2 _ e] at hx
      exact h.only x u hx
/-- A map with one more entry. -/
noncomputable def withKey (m : Value → Option Value) (x v : Value) : Value → Option Value := fun y => @ite _ (y = x) (Classical.propDecidable _) (some v) (m y)
theorem withKey_at (m : Value → Option Value) (x v : Value) : withKey m x v x = some v := by unfold withKey; rw [if_pos rfl]
theorem withKey_ne (m : Value → Option Value) (x v : Value) : ∀ y, y ≠ x → withKey m x v y = m y := fun y h => by unfold withKey; rw [if_neg h]
theorem taNoDs (u : TypeId) (h : u ≠ 114) (W : World) (v : Value) : (Instr.typeAssert (.iface u v) 48 114 true).run Try.prog W = .ok (.tuple #[.pointer none, .bool false]) W := ta_no Try.underlying114 (fun W => by kernel_rfl) u h W v

/-- A builder with c types, which has told the numbers of phi. -/
structure Bld (w : World) (lo bb mb c n : Nat) (tv : Value) (φ : Nat → Option Nat) (pt : Nat → TypeId) (ob : Nat → Nat) : Prop where
  blk : Blk w bb #[tv, .map (some mb), .pointer none] 111
  own : ∃ xs, w.ownsRow lo 48 1 tv c xs
  mp : ∃ m, IsMapOf w mb m ∧ Tells pt ob n φ m
  los : lo ≤ bb ∧ lo ≤ mb
  ne : bb ≠ mb ∧ tv.ownBlock ≠ some bb ∧ tv.ownBlock ≠ some mb ∧ ∃ a cap, tv = .slice a c cap
/-- The blocks of a builder. -/
def Bb (bb mb : Nat) (tv : Value) (g : Nat) : Prop := g = bb ∨ g = mb ∨ tv.ownBlock = some g
theorem Bld.kept {w' : World} {bb mb c : Nat} {tv : Value} {φ : Nat → Option Nat} (h : Bld w lo bb mb c n tv φ pt ob) (hk : ∀ g, g < w.heap.size → Bb bb mb tv g → w'.heap[g]? = w.heap[g]?) : Bld w' lo bb mb c n tv φ pt ob := by
  obtain ⟨xs, ho⟩ := h.own
  obtain ⟨m, hm, ht⟩ := h.mp
  exact ⟨h.blk.of_eq (hk _ h.blk.lt (.inl rfl)), ⟨xs, ownsRow_of ho fun g hg hl => hk g hl (.inr (.inr hg))⟩, ⟨m, hm.of_eq (hk _ hm.lt (.inr (.inl rfl))), ht⟩, h.los, h.ne⟩
end
#print axioms numOf_le
#print axioms Tells.put
end Go.Proofs.Ytfilbgmbmlmdbaa
