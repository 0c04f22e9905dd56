/- What listed leaves: rows that fit. Plain lemmas; nothing is claimed here. -/
import Derived.Test.YtfilbgmbmlmdbaaGreatDoorListAb
namespace Go.Proofs.YtfilbgmbmlmdbaaGreatDoor
open Go.RowKit

/-- The kinds of types of the set. -/
def KindOk (k : Int) : Prop := k = 1 ∨ k = 2 ∨ k = 3 ∨ k = 4 ∨ k = 5 ∨ k = 6 ∨ k = 8 ∨ k = 10
/-- Row i of a list of n types, whose numbers have room and lead to rows; names and what qualifies lead to ints. -/
structure RowFits (w : World) (D : Nat → Prop) (xs : List Value) (n i : Nat) (k : Int) (nm : ByteArray) (sz en fl : Int) (of ix : Nat) (mv : Value) (q : Nat) (ys : List Value) : Prop where
  row : LRow xs i k nm sz en fl of ix mv
  kind : KindOk k
  hsz : 0 ≤ sz ∧ sz < 4294967296
  hen : en = 0 ∨ en = 1
  hfl : fl = 0 ∨ fl = 1
  hof : of ≤ n
  hix : ix ≤ n
  own : w.ownsRow 0 74 5 mv q ys
  few : q ≤ 1000
  far : ∀ g, mv.ownBlock = some g → ¬ D g
  mem : ∀ j, j < q → ∃ (nm : ByteArray) (o : Nat) (a b v : Int), PRow ys j nm (.int .i64 o) a b v ∧ o ≤ n ∧ (0 ≤ a ∧ a < 4294967296) ∧ (0 ≤ b ∧ b < 4294967296)
  some1 : (k = 2 ∨ k = 3 ∨ k = 8 ∨ k = 10 → 1 ≤ of) ∧ (k = 3 → 1 ≤ ix)
  some2 : k = 4 ∨ k = 5 → ∀ j, j < q → ∀ nm o a b v, PRow ys j nm (.int .i64 ((o : Nat) : Int)) a b v → 1 ≤ o
  peel : k = 8 ∨ k = 10 → ∃ j, j < n ∧ of = j + 1 ∧ xs[8 * j]? = some (.int .i64 1)

theorem RowOk.kind {W w : World} {D : Nat → Prop} {xs : List Value} {m : Value → Option Value} {ixv : Value} {b i : Nat} {k : Int} {nm : ByteArray} {sz : Int} {sg : Bool} {o pv : Value} (r : RowOk W w D xs m ixv b i)
    (h : Blk W b #[.int .i64 k, .string nm, .int .i64 sz, .bool sg, o, pv] 38) : xs[8 * i]? = some (.int .i64 k) := by
  cases r with
  | int h' l => have := (h.inj6 h').1; rw [this]; exact l.1
  | of hk h' hm l => have := (h.inj6 h').1; rw [this]; exact l.1
  | arr h' hm hx l => have := (h.inj6 h').1; rw [this]; exact l.1
  | enm h' hp ho hv hr l => have := (h.inj6 h').1; rw [this]; exact l.1
  | comp hk h' hp ho hv hr l => have := (h.inj6 h').1; rw [this]; exact l.1

/-- No row is open: all of them fit. -/
theorem LSt.fits {W w : World} {lb mb : Nat} {ixv : Value} {hb n : Nat} {X : Nat → Prop} {v : Value} {xs : List Value} {m : Value → Option Value} (st : LSt W lb mb ixv hb X n v xs m (fun _ => False) w) (i : Nat) (hi : i < n) :
    ∃ k nm sz en fl of ix mv q ys, RowFits w (Wr lb mb v) xs n i k nm sz en fl of ix mv q ys := by
  have num : ∀ x (z : Nat), m x = some (.int .i64 (z : Int)) → z ≤ n ∧ 1 ≤ z := fun x z hx => by
    obtain ⟨_, j, _, _, h2, h3, _⟩ := st.key x _ hx
    simp only [Value.int.injEq, true_and] at h2
    exact ⟨by omega, by omega⟩
  have nilFar : ∀ g, (Value.slice none 0 0).ownBlock = some g → ¬ Wr lb mb v g := fun g hg => by simp [Value.ownBlock] at hg
  have nilMem : ∀ j, j < 0 → ∃ (nm : ByteArray) (o : Nat) (a b v : Int), PRow [] j nm (.int .i64 o) a b v ∧ o ≤ n ∧ (0 ≤ a ∧ a < 4294967296) ∧ (0 ≤ b ∧ b < 4294967296) := fun j hj => by omega
  obtain ⟨b, hmb⟩ := st.row i hi
  obtain ⟨b', i', t, e1, e2, _, r, hg, hro⟩ := st.key _ _ hmb
  simp only [Value.pointer.injEq, Option.some.injEq, Addr.mk.injEq, and_true] at e1
  simp only [Value.int.injEq, true_and] at e2
  obtain rfl : i' = i := by omega
  subst e1
  rcases hro with hro | hro
  · exact hro.elim
  · cases hro with
    | @int nm sz sg o pv h l =>
      have hs : 0 ≤ sz ∧ sz < 4294967296 := by
        cases r with
        | int h' _ =>
          obtain ⟨_, _, e, _⟩ := h.inj6 h'
          simp only [Value.int.injEq, true_and] at e
          cases hg with
          | int hz => omega
        | ptr h' _ _ => have := (h.inj6 h').1; simp at this
        | arr h' _ _ => have := (h.inj6 h').1; simp at this
        | named h' _ _ => have := (h.inj6 h').1; simp at this
        | cst h' _ _ => have := (h.inj6 h').1; simp at this
        | enm h' _ _ _ _ => have := (h.inj6 h').1; simp at this
        | @comp _ _ _ un _ _ _ _ _ _ _ _ h' _ _ _ _ _ => have := (h.inj6 h').1; cases un <;> simp at this
      exact ⟨_, _, _, _, _, 0, 0, _, 0, [], l, .inl rfl, hs, by cases sg <;> simp, .inl rfl, Nat.zero_le _, Nat.zero_le _, World.ownsRow_nil _ _ _ _, Nat.zero_le _, nilFar, nilMem, ⟨fun h => by omega, fun h => by omega⟩, fun h => by omega, fun h => by omega⟩
    | @of k nm sz sg o pv z hk h hm l =>
      have hko : KindOk k := by rcases hk with h | h | h <;> simp [KindOk, h]
      have hpl : k = 8 ∨ k = 10 → ∃ j, j < n ∧ z = j + 1 ∧ xs[8 * j]? = some (.int .i64 1) := by
        intro h8
        have key : ∀ (c : Nat) (u : Ty), o = .pointer (some ⟨c, 0, none⟩) → Rep W (Ex lb mb hb) c u → (∃ sz sg im, u = .int sz sg im) → ∃ j, j < n ∧ z = j + 1 ∧ xs[8 * j]? = some (.int .i64 1) := by
          rintro c u rfl rc ⟨sz', sg', im', rfl⟩
          obtain ⟨c', j, t', f1, f2, hj, _, _, hro⟩ := st.key _ _ hm
          simp only [Value.pointer.injEq, Option.some.injEq, Addr.mk.injEq, and_true] at f1
          simp only [Value.int.injEq, true_and] at f2
          subst f1
          cases rc with
          | int hc _ =>
            rcases hro with hro | hro
            · exact hro.elim
            · exact ⟨j, hj, by omega, hro.kind hc⟩
        cases r with
        | int h' _ => have := (h.inj6 h').1; simp at this; omega
        | ptr h' _ _ => have := (h.inj6 h').1; simp at this; omega
        | arr h' _ _ => have := (h.inj6 h').1; simp at this; omega
        | named h' _ rc =>
          obtain ⟨_, _, _, _, e, _⟩ := h.inj6 h'
          cases hg with
          | named hu _ => exact key _ _ e rc hu
        | cst h' _ rc =>
          obtain ⟨_, _, _, _, e, _⟩ := h.inj6 h'
          cases hg with
          | cst hu _ => exact key _ _ e rc hu
        | enm h' _ _ _ _ => have := (h.inj6 h').1; simp at this; omega
        | @comp _ _ _ un _ _ _ _ _ _ _ _ h' _ _ _ _ _ => have := (h.inj6 h').1; cases un <;> simp at this <;> omega
      exact ⟨k, _, 0, 0, 0, z, 0, _, 0, [], l, hko, by omega, .inl rfl, .inl rfl, (num _ _ hm).1, Nat.zero_le _, World.ownsRow_nil _ _ _ _, Nat.zero_le _, nilFar, nilMem, ⟨fun _ => (num _ _ hm).2, fun h => by rcases hk with e | e | e <;> rw [e] at h <;> simp at h⟩, fun _ j hj => by omega, hpl⟩
    | @arr nm sz sg o pv z zx h hm hx l =>
      have hs : 0 ≤ sz ∧ sz < 4294967296 := by
        cases r with
        | int h' _ => have := (h.inj6 h').1; simp at this
        | ptr h' _ _ => have := (h.inj6 h').1; simp at this
        | arr h' _ _ =>
          obtain ⟨_, _, e, _⟩ := h.inj6 h'
          simp only [Value.int.injEq, true_and] at e
          cases hg with
          | arr hz _ => omega
        | named h' _ _ => have := (h.inj6 h').1; simp at this
        | cst h' _ _ => have := (h.inj6 h').1; simp at this
        | enm h' _ _ _ _ => have := (h.inj6 h').1; simp at this
        | @comp _ _ _ un _ _ _ _ _ _ _ _ h' _ _ _ _ _ => have := (h.inj6 h').1; cases un <;> simp at this
      exact ⟨_, _, _, _, _, z, zx, _, 0, [], l, .inr (.inr (.inl rfl)), hs, .inl rfl, .inl rfl, (num _ _ hm).1, (num _ _ hx).1, World.ownsRow_nil _ _ _ _, Nat.zero_le _, nilFar, nilMem, ⟨fun _ => (num _ _ hm).2, fun _ => (num _ _ hx).2⟩, fun _ j hj => by omega, fun h => by omega⟩
    | @enm nm sz sg o pv mv q ys h hp ho hv hr l =>
      have hs : (0 ≤ sz ∧ sz < 4294967296) ∧ q ≤ 1000 := by
        cases r with
        | int h' _ => have := (h.inj6 h').1; simp at this
        | ptr h' _ _ => have := (h.inj6 h').1; simp at this
        | arr h' _ _ => have := (h.inj6 h').1; simp at this
        | named h' _ _ => have := (h.inj6 h').1; simp at this
        | cst h' _ _ => have := (h.inj6 h').1; simp at this
        | enm h' _ ho' _ _ =>
          obtain ⟨_, _, e, _, _, e5⟩ := h.inj6 h'
          simp only [Value.int.injEq, true_and] at e
          cases hg with
          | enm hn =>
            obtain ⟨_, _, rfl⟩ := hp
            obtain ⟨_, _, e6⟩ := own_slice ho'
            rw [e6] at e5
            simp only [Value.slice.injEq] at e5
            exact ⟨by omega, by omega⟩
        | @comp _ _ _ un _ _ _ _ _ _ _ _ h' _ _ _ _ _ => have := (h.inj6 h').1; cases un <;> simp at this
      exact ⟨_, _, _, _, _, 0, 0, mv, q, ys, l, .inr (.inr (.inr (.inr (.inr (.inl rfl))))), hs.1, .inl rfl, by cases sg <;> simp, Nat.zero_le _, Nat.zero_le _, ho, hs.2, fun g hg hd => hv g hg (.inl hd),
        fun j hj => by obtain ⟨nm, o, a, b, v, _, h2⟩ := hr j hj; exact ⟨nm, 0, 0, 0, v, h2, Nat.zero_le _, by omega, by omega⟩, ⟨fun h => by omega, fun h => by omega⟩, fun h => by omega, fun h => by omega⟩
    | @comp k nm sz sg o pv mv q ys hk h hp ho hv hr l =>
      have hs : (0 ≤ sz ∧ sz < 4294967296) ∧ q ≤ 1000 ∧ ∀ j, j < q → ∀ nm o a b v, PartAt W pv j nm o a b v → (0 ≤ a ∧ a < 4294967296) ∧ (0 ≤ b ∧ b < 4294967296) := by
        cases r with
        | int h' _ => have := (h.inj6 h').1; simp at this; omega
        | ptr h' _ _ => have := (h.inj6 h').1; simp at this; omega
        | arr h' _ _ => have := (h.inj6 h').1; simp at this; omega
        | named h' _ _ => have := (h.inj6 h').1; simp at this; omega
        | cst h' _ _ => have := (h.inj6 h').1; simp at this; omega
        | enm h' _ _ _ _ => have := (h.inj6 h').1; simp at this; omega
        | @comp _ _ _ un _ _ _ _ _ _ _ _ h' _ ho' _ hr' _ =>
          obtain ⟨_, _, e, _, _, e5⟩ := h.inj6 h'
          simp only [Value.int.injEq, true_and] at e
          cases hg with
          | comp hsz hn ha _ =>
            obtain ⟨_, _, rfl⟩ := hp
            obtain ⟨_, _, e6⟩ := own_slice ho'
            rw [e6] at e5
            simp only [Value.slice.injEq] at e5
            refine ⟨by omega, by omega, fun j hj nm o a b v hpt => ?_⟩
            have hj' := e5.2.1 ▸ hj
            have hp' := PartAt.of ho' (hr' j hj') hj'
            rw [e6, ← e5.1, ← e5.2.1, ← e5.2.2] at hp'
            obtain ⟨_, _, ea, eb, _⟩ := hpt.uniq hp'
            have := ha j hj'
            omega
      exact ⟨k, _, sz, 0, 0, 0, 0, mv, q, ys, l, by unfold KindOk; omega, hs.1, .inl rfl, .inl rfl, Nat.zero_le _, Nat.zero_le _, ho, hs.2.1, fun g hg hd => hv g hg (.inl hd),
        fun j hj => by obtain ⟨nm, o, a, b, v, z, h1, h2, h3⟩ := hr j hj; have := hs.2.2 j hj _ _ _ _ _ h1; exact ⟨nm, z, a, b, 0, h3, (num _ _ h2).1, this.1, this.2⟩, ⟨fun h => by omega, fun h => by omega⟩,
        fun _ j hj nm' o' a' b' v' hp => by
          obtain ⟨_, _, _, _, _, z, _, h2, h3⟩ := hr j hj
          have e := hp.2.1.symm.trans h3.2.1
          simp only [Option.some.injEq, Value.int.injEq, true_and] at e
          have := (num _ _ h2).2
          omega,
        fun h => by omega⟩
#print axioms LSt.fits
end Go.Proofs.YtfilbgmbmlmdbaaGreatDoor
