/- What a listed type's rows give of its kind and its size. Nothing is claimed here. -/
import Derived.Test.YtfilbgmbmlmdbaaGreatDoorRelK
import Derived.Test.YtfilbgmbmlmdbaaGreatDoorRelL
import Derived.Test.YtfilbgmbmlmdbaaGreatDoorListE
import Derived.Test.YtfilbgmbmlmdbaaGreatDoorTurnD
namespace Go.Proofs.YtfilbgmbmlmdbaaGreatDoor
open Go.RowKit Go.MapKept

theorem FT.cases {t : Ty} (h : FT t) : IntT t ∨ (∃ u, t = .ptr u ∧ IntT u) ∨ (∃ nm sg n vn vv, t = .enm nm sg n vn vv) ∨ (∃ n u, t = .arr n u ∧ IntT u ∧ 1 ≤ n ∧ n ≤ 6) ∨ (∃ nm u, t = .named nm u ∧ IntT u) ∨ (∃ u, t = .cst u ∧ IntT u) ∨
    (∃ nm sz n pn py pa pb, t = .comp false nm sz n pn py pa pb ∧ sz ≤ 168) := by
  rcases h with h | h
  · cases h with
    | int h => exact .inl h
    | ptr h => exact .inr (.inl ⟨_, rfl, h⟩)
    | enm h => obtain ⟨nm, sg, n, vn, vv, rfl, _⟩ := h; exact .inr (.inr (.inl ⟨nm, sg, n, vn, vv, rfl⟩))
    | arr h h1 h6 => exact .inr (.inr (.inr (.inl ⟨_, _, rfl, h, h1, h6⟩)))
    | named h _ => exact .inr (.inr (.inr (.inr (.inl ⟨_, _, rfl, h⟩))))
    | cst h => exact .inr (.inr (.inr (.inr (.inr (.inl ⟨_, rfl, h⟩)))))
  · obtain ⟨sz, n, pn, py, pa, pb, rfl, _, hs, _⟩ := h
    exact .inr (.inr (.inr (.inr (.inr (.inr ⟨_, _, _, _, _, _, _, rfl, hs⟩)))))
theorem IntT.row {f : Nat → RowD} {i : Nat} {t : Ty} (h : IntT t) (r : RT f i t) : (f i).k = 1 ∧ (f i).sz = (t.bytes : Int) ∧ 0 ≤ (f i).sz ∧ (f i).sz ≤ 8 := by
  obtain ⟨sz, sg, nm, rfl, hs, _⟩ := h
  cases r with
  | int hk hn hs' he =>
    refine ⟨hk, hs', ?_, ?_⟩
    · rw [hs']; omega
    · rw [hs']; omega
theorem FT.ofInts {t : Ty} (h : FT t) : OfInts t := by
  intro v hv
  rcases h.cases with ⟨sz, sg, nm, rfl, _⟩ | ⟨u, rfl, hu⟩ | ⟨nm, sg, n, vn, vv, rfl⟩ | ⟨n, u, rfl, hu, _⟩ | ⟨nm, u, rfl, hu⟩ | ⟨u, rfl, hu⟩ | ⟨nm, sz, n, pn, py, pa, pb, rfl, _⟩
  · rcases hv with hv | ⟨n, hv⟩ <;> simp [Ty.behind] at hv
  · rcases hv with hv | ⟨n, hv⟩
    · simp only [Ty.behind, Ty.ptr.injEq] at hv; exact hv ▸ hu.isInt
    · simp [Ty.behind] at hv
  · rcases hv with hv | ⟨n, hv⟩ <;> simp [Ty.behind] at hv
  · rcases hv with hv | ⟨n, hv⟩
    · simp [Ty.behind] at hv
    · simp only [Ty.behind, Ty.arr.injEq] at hv; exact hv.2 ▸ hu.isInt
  · obtain ⟨sz, sg, im, rfl⟩ := hu.isInt
    rcases hv with hv | ⟨n, hv⟩ <;> simp [Ty.behind] at hv
  · obtain ⟨sz, sg, im, rfl⟩ := hu.isInt
    rcases hv with hv | ⟨n, hv⟩ <;> simp [Ty.behind] at hv
  · rcases hv with hv | ⟨n, hv⟩ <;> simp [Ty.behind] at hv
section
variable {w : World} {D : Nat → Prop} {xs : List Value} {n i og : Nat} {f : Nat → RowD} {t : Ty} {pt : Nat → TypeId} {ob : Nat → Nat}
theorem rt_kind (h : FT t) (r : RT f i t) (hf : ∀ i, i < n → FitsD w D xs n i (f i)) (hi : i < n) : (f (und f i)).k = (t.behind.kind : Int) ∧ Tight n f (und f i) := by
  have hof := (hf i hi).hof
  have hix := (hf i hi).hix
  rcases h.cases with hint | ⟨u, rfl, hu⟩ | ⟨nm, sg, q, vn, vv, rfl⟩ | ⟨q, u, rfl, hu, _⟩ | ⟨nm, u, rfl, hu⟩ | ⟨u, rfl, hu⟩ | ⟨nm, sz, q, pn, py, pa, pb, rfl, _⟩
  · have hk := (hint.row r).1
    have e : und f i = i := if_neg (by omega)
    rw [e]
    obtain ⟨sz, sg, nm, rfl, _⟩ := hint
    exact ⟨hk, hi, .inl hk, fun h => by omega, fun h => by omega⟩
  · cases r with
    | @ptr _ j _ hk ho r =>
      have e : und f i = i := if_neg (by omega)
      rw [e]
      exact ⟨hk, hi, .inr (.inl hk), fun _ => ⟨j, by omega, ho, (hu.row r).1⟩, fun h => by omega⟩
  · cases r with
    | enm hk hn hs hl hq hr =>
      have e : und f i = i := if_neg (by omega)
      rw [e]
      exact ⟨hk, hi, by omega, fun h => by omega, fun h => by omega⟩
  · cases r with
    | @arr _ j x _ _ hk hs ho hx rx r =>
      have e : und f i = i := if_neg (by omega)
      rw [e]
      exact ⟨hk, hi, by omega, fun h => by omega, fun _ => ⟨j, x, by omega, by omega, ho, hx, (hu.row r).1, rx⟩⟩
  · cases r with
    | @named _ j _ _ hk hn ho r =>
      have e : und f i = j := by unfold und; rw [if_pos (.inl hk), ho]; simp
      rw [e]
      have hk1 := (hu.row r).1
      obtain ⟨sz, sg, im, rfl, _⟩ := hu
      exact ⟨hk1, by omega, .inl hk1, fun h => by omega, fun h => by omega⟩
  · cases r with
    | @cst _ j _ hk ho r =>
      have e : und f i = j := by unfold und; rw [if_pos (.inr hk), ho]; simp
      rw [e]
      have hk1 := (hu.row r).1
      obtain ⟨sz, sg, im, rfl, _⟩ := hu
      exact ⟨hk1, by omega, .inl hk1, fun h => by omega, fun h => by omega⟩
  · cases r with
    | comp hk hn hs hq hr r =>
      have hk4 : (f i).k = 4 := hk
      have e : und f i = i := if_neg (by omega)
      rw [e]
      exact ⟨hk4, hi, by omega, fun h => by omega, fun h => by omega⟩
theorem rt_size (o : Outs w n f og pt ob) (h : FT t) (r : RT f i t) {W0 : World} (hf : ∀ i, i < n → FitsD W0 D xs n i (f i)) (hi : i < n) : SizeC w (objAt pt ob i) (t.bytes : Int) := by
  intro W hW
  have o := o.ck hW
  have hof := (hf i hi).hof
  have hix := (hf i hi).hix
  rcases h.cases with hint | ⟨u, rfl, hu⟩ | ⟨nm, sg, q, vn, vv, rfl⟩ | ⟨q, u, rfl, hu, q1, q6⟩ | ⟨nm, u, rfl, hu⟩ | ⟨u, rfl, hu⟩ | ⟨nm, sz, q, pn, py, pa, pb, rfl, hs⟩
  · obtain ⟨hk, hs, h0, h8⟩ := hint.row r
    rw [← hs]
    exact sizeof_Int o hi hk h0 (by omega)
  · cases r with
    | @ptr _ j _ hk ho r => exact sizeof_Pointer o hi hk
  · cases r with
    | enm hk hn hs hl hq hr =>
      have := sizeof_Enum o hi hk (by omega) (by omega)
      rw [hs] at this
      exact this
  · cases r with
    | @arr _ j x _ _ hk hs ho hx rx r =>
      obtain ⟨hk1, hs1, h0, h8⟩ := hu.row r
      have := sizeof_Array o hi hk (by omega) ho hk1 h0 (by omega) x hx (by omega) (by omega)
      rw [hs, hs1] at this
      have e : ((Ty.arr q u).bytes : Int) = (q : Int) * (u.bytes : Int) := Int.natCast_mul _ _
      rw [e]
      exact this
  · cases r with
    | @named _ j _ _ hk hn ho r =>
      obtain ⟨hk1, hs1, h0, h8⟩ := hu.row r
      have := sizeof_Typedef o hi hk (by omega) ho hk1 h0 (by omega)
      rw [hs1] at this
      exact this
  · cases r with
    | @cst _ j _ hk ho r =>
      obtain ⟨hk1, hs1, h0, h8⟩ := hu.row r
      have := sizeof_Const o hi hk (by omega) ho hk1 h0 (by omega)
      rw [hs1] at this
      exact this
  · cases r with
    | comp hk hn hs' hq hr r =>
      have hk4 : (f i).k = 4 := hk
      have := sizeof_Struct o hi hk4 (by omega) (by omega)
      rw [hs'] at this
      exact this
end
#print axioms rt_kind
#print axioms rt_size
end Go.Proofs.YtfilbgmbmlmdbaaGreatDoor
