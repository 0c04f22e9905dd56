/- Whether a type of the reference says no more than another one. Nothing is claimed here. -/
import Derived.Test.YtfilbgmbmlmdbaaGreatDoorZ13
set_option linter.unusedSimpArgs false
set_option linter.unusedVariables false
set_option maxRecDepth 1000000
set_option maxHeartbeats 16000000
namespace Go.Proofs.YtfilbgmbmlmdbaaGreatDoor
open Go.RowKit Go.MapKept
def ess (a b : ByteArray) : Bool := a.size == 0 || b.size == 0 || a == b
def allB (n : Nat) (p : Nat → Bool) : Bool := (List.range n).all p
def anyB (n : Nat) (p : Nat → Bool) : Bool := (List.range n).any p
def tm : Ty → Ty → Bool
 | .int sz sg nm, u => match u.behind with
  | .int sz' sg' nm' => ess nm nm' && (sz == sz' && sg == sg')
  | _ => false
 | .ptr t, u => match u.behind with
  | .ptr u' => tm t u'
  | _ => false
 | .arr n t, u => match u.behind with
  | .arr n' u' => n == n' && tm t u'
  | _ => false
 | .named _ t, u => tm t u
 | .cst t, u => tm t u
 | .enm nm _ n vn _, u => match u.behind with
  | .enm nm' _ n' vn' _ => ess nm nm' && (decide (n ≤ n') && allB n fun i => anyB n' fun j => vn i == vn' j && true)
  | _ => false
 | .comp un nm _ n pn py _ _, u => match u.behind with
  | .comp un' nm' _ n' pn' py' _ _ => (un == un') && (ess nm nm' && (decide (n ≤ n') && allB n fun i => anyB n' fun j => pn i == pn' j && tm (py i) (py' j)))
  | _ => false
theorem behind_idem (t : Ty) : t.behind.behind = t.behind := by
 induction t with
 | named nm t ih => exact ih
 | cst t ih => exact ih
 | _ => rfl
theorem behind_kinds (t : Ty) : t.behind.kind ≠ 8 ∧ t.behind.kind ≠ 10 := by
 induction t with
 | named nm t ih => exact ih
 | cst t ih => exact ih
 | comp un => cases un <;> (constructor <;> simp [Ty.behind, Ty.kind])
 | _ => constructor <;> simp [Ty.behind, Ty.kind]
theorem name_full2 {b : ByteArray} (h : b.size ≠ 0) : b.toList.isEmpty = false := by
 have e : b.toList.length = b.size := by rw [ByteArray.toList_eq]; rfl
 cases hb : b.toList with
 | nil => rw [hb] at e; simp at e; omega
 | cons _ _ => rfl
theorem name_ne {a b : ByteArray} (h : a ≠ b) : (a.toList == b.toList) = false := by
 have hh : (a == b) = false := by
  cases h' : a == b with
  | false => rfl
  | true => exact absurd ((MapKept.bytes_beq _ _).1 h') h
 rwa [beq_toListBytes] at hh
theorem bytes_ne {a b : ByteArray} (h : a ≠ b) : (a == b) = false := by
 cases h' : a == b with
 | false => rfl
 | true => exact absurd ((MapKept.bytes_beq _ _).1 h') h
theorem bytes_same (a : ByteArray) : (a == a) = true := (MapKept.bytes_beq _ _).2 rfl
theorem ess_cases (a b : ByteArray) : (a.size = 0 ∧ ess a b = true) ∨ (a.size ≠ 0 ∧ b.size = 0 ∧ ess a b = true) ∨ (a.size ≠ 0 ∧ b.size ≠ 0 ∧ a = b ∧ ess a b = true) ∨ (a.size ≠ 0 ∧ b.size ≠ 0 ∧ a ≠ b ∧ ess a b = false) := by
 by_cases ha : a.size = 0
 ·exact .inl ⟨ha, by simp [ess, ha]⟩
 ·by_cases hb : b.size = 0
  ·exact .inr (.inl ⟨ha, hb, by simp [ess, hb]⟩)
  ·by_cases he : a = b
   ·subst he
    exact .inr (.inr (.inl ⟨ha, hb, rfl, by simp [ess, bytes_same]⟩))
   ·exact .inr (.inr (.inr ⟨ha, hb, he, by simp [ess, ha, hb, bytes_ne he]⟩))
theorem essential_spec (w : World) (a b : ByteArray) : Calls Tryz.prog 39 #[.string a, .string b] w fun e w' => e = .returned (.bool (ess a b)) ∧ w' = w := by
 rcases ess_cases a b with ⟨h1, he⟩ | ⟨h1, h2, he⟩ | ⟨h1, h2, h3, he⟩ | ⟨h1, h2, h3, he⟩
 all_goals
  rw [he]
  clear he
 ·have x1 := name_nil h1
  clear h1
  go_enter Tryz.func39, Tryz.ntmps39
  go_wp2_with fail
  go_ret
  exact ⟨rfl, rfl⟩
 ·have x1 := name_full2 h1
  have x2 := name_nil h2
  clear h1 h2
  go_enter Tryz.func39, Tryz.ntmps39
  go_wp2_with fail
  go_ret
  exact ⟨rfl, rfl⟩
 ·subst h3
  have x1 := name_full2 h1
  clear h1 h2
  go_enter Tryz.func39, Tryz.ntmps39
  go_wp2_with fail
  go_ret
  exact ⟨rfl, rfl⟩
 ·have x1 := name_full2 h1
  have x2 := name_full2 h2
  have x3 := name_ne h3
  clear h1 h2 h3
  go_enter Tryz.func39, Tryz.ntmps39
  go_wp2_with fail
  go_ret
  exact ⟨rfl, rfl⟩
def cmpK : Ty → Ty → Bool
 | .comp .., .comp .. => true
 | .int .., .int .. => true
 | .ptr _, .ptr _ => true
 | .arr .., .arr .. => true
 | .enm nm .., .enm nm' .. => ess nm nm'
 | _, _ => false
def cmpF (t u : Ty) : Bool := cmpK t.behind u.behind
structure Hit where
 y : Ty
 at_ : Nat
 bits : Nat
 last : Bool
def direct (n : Nat) (pn : Nat → ByteArray) (nm : ByteArray) : Option Nat := (List.range n).find? fun i => pn i == nm
theorem find_range {p : Nat → Bool} : ∀ (n : Nat) {j : Nat}, j < n → p j = true → (∀ i, i < j → p i = false) → (List.range n).find? p = some j := by
 intro n
 induction n with
 | zero => intro j h; omega
 | succ n ih =>
  intro j hj hp hn
  rw [List.range_succ, List.find?_append]
  by_cases h : j < n
  ·rw [ih h hp hn]; rfl
  ·obtain rfl : j = n := by omega
   have : (List.range j).find? p = none := List.find?_eq_none.2 fun x hx => by rw [hn x (List.mem_range.1 hx)]; decide
   rw [this]
   simp [hp]
theorem direct_some {n j : Nat} {pn : Nat → ByteArray} {nm : ByteArray} (hj : j < n) (h : pn j = nm) (hn : ∀ i, i < j → pn i ≠ nm) : direct n pn nm = some j :=
 find_range n hj ((MapKept.bytes_beq _ _).2 h) fun i hi => bytes_ne (hn i hi)
theorem direct_none {n : Nat} {pn : Nat → ByteArray} {nm : ByteArray} (hn : ∀ i, i < n → pn i ≠ nm) : direct n pn nm = none :=
 List.find?_eq_none.2 fun x hx => by rw [bytes_ne (hn x (List.mem_range.1 hx))]; decide
def hit (nm : ByteArray) (p : Ty × Nat) : Option Hit := match p.1 with
 | .comp _ _ _ n pn py pa pb => (direct n pn nm).map fun i => ⟨py i, pa i + p.2, pb i, i + 1 == n⟩
 | _ => none
def anonU (pn : Nat → ByteArray) (py : Nat → Ty) (pa : Nat → Nat) (j o : Nat) : List (Ty × Nat) := (List.range j).filterMap fun i => if (pn i).size = 0 then some (py i, o + pa i) else none
theorem anonU_zero (pn : Nat → ByteArray) (py : Nat → Ty) (pa : Nat → Nat) (o : Nat) : anonU pn py pa 0 o = [] := rfl
theorem anonU_named {pn : Nat → ByteArray} {py : Nat → Ty} {pa : Nat → Nat} {j o : Nat} (h : (pn j).size ≠ 0) : anonU pn py pa (j + 1) o = anonU pn py pa j o := by
 unfold anonU
 rw [List.range_succ, List.filterMap_append]
 simp only [List.filterMap_cons, if_neg h, List.filterMap_nil, List.append_nil]
theorem anonU_anon {pn : Nat → ByteArray} {py : Nat → Ty} {pa : Nat → Nat} {j o : Nat} (h : (pn j).size = 0) : anonU pn py pa (j + 1) o = anonU pn py pa j o ++ [(py j, o + pa j)] := by
 unfold anonU
 rw [List.range_succ, List.filterMap_append]
 simp only [List.filterMap_cons, if_pos h, List.filterMap_nil]
theorem anonU_len (pn : Nat → ByteArray) (py : Nat → Ty) (pa : Nat → Nat) (o : Nat) : ∀ j, (anonU pn py pa j o).length ≤ j := fun j => by
 have := List.length_filterMap_le (fun i => if (pn i).size = 0 then some (py i, o + pa i) else none) (List.range j)
 rw [List.length_range] at this
 exact this
theorem anonU_mem {pn : Nat → ByteArray} {py : Nat → Ty} {pa : Nat → Nat} {j o : Nat} {p : Ty × Nat} (h : p ∈ anonU pn py pa j o) : ∃ i, i < j ∧ (pn i).size = 0 ∧ p = (py i, o + pa i) := by
 simp only [anonU, List.mem_filterMap, List.mem_range] at h
 obtain ⟨i, hi, h⟩ := h
 split at h
 ·rename_i h0; exact ⟨i, hi, h0, (Option.some.inj h).symm⟩
 ·cases h
def findP (nm : ByteArray) : Ty → Option Hit
 | t@(.comp _ _ _ n pn py pa _) => ((t, 0) :: anonU pn py pa n 0).findSome? (hit nm)
 | _ => none
theorem findSome_at {α β : Type} (f : α → Option β) {h : β} : ∀ (L : List α) (k : Nat), (∀ k', k' < k → ∀ p, L[k']? = some p → f p = none) → (L[k]?).bind f = some h → L.findSome? f = some h := by
 intro L
 induction L with
 | nil => intro k _ h; cases k <;> cases h
 | cons x L ih =>
  intro k hn hk
  cases k with
  | zero => simp only [List.getElem?_cons_zero, Option.bind_some] at hk; simp [List.findSome?, hk]
  | succ k =>
   have hx := hn 0 (Nat.succ_pos _) x rfl
   simp only [List.findSome?, hx]
   exact ih k (fun k' hk' p hp => hn (k' + 1) (by omega) p hp) hk
theorem findSome_no {α β : Type} (f : α → Option β) : ∀ (L : List α), (∀ k, k < L.length → ∀ p, L[k]? = some p → f p = none) → L.findSome? f = none := by
 intro L
 induction L with
 | nil => intro _; rfl
 | cons x L ih =>
  intro hn
  have hx := hn 0 (Nat.succ_pos _) x rfl
  simp only [List.findSome?, hx]
  exact ih fun k hk p hp => hn (k + 1) (by simpa using hk) p hp
def Shp (t : Ty) : Prop := ∃ un nm sz n pn py pa pb, t = .comp un nm sz n pn py pa pb ∧ n ≤ 20 ∧ (∀ i, i < n → pa i ≤ 200000 ∧ pb i ≤ 64) ∧
 ∀ i, i < n → (pn i).size = 0 → ∃ un' nm' sz' n' pn' py' pa' pb', py i = .comp un' nm' sz' n' pn' py' pa' pb' ∧ n' ≤ 20 ∧ ∀ j, j < n' → (pn' j).size ≠ 0 ∧ pa' j ≤ 200000 ∧ pb' j ≤ 64
def Tgt (x : Ty) (o : Nat) : Prop := ∃ un nm sz n pn py pa pb, x = .comp un nm sz n pn py pa pb ∧ n ≤ 20 ∧ o ≤ 200000 ∧ ∀ i, i < n → pa i ≤ 200000 ∧ pb i ≤ 64
inductive Leads (w : World) (D : Nat → Prop) : Nat → Ty → Nat → Prop
 | here {b : Nat} {t : Ty} {k : Int} (r : Rep w D b t) (h0 : w.cell? ⟨b, 0, none⟩ = some (.int .i64 k)) (k8 : (k == 8) = false) (k10 : (k == 10) = false) (hb : t.behind = t) : Leads w D b t b
 | step {b c b' : Nat} {t u : Ty} {k : Int} (hk : k = 8 ∨ k = 10) (h0 : w.cell? ⟨b, 0, none⟩ = some (.int .i64 k)) (h4 : w.cell? ⟨b, 4, none⟩ = some (.pointer (some ⟨c, 0, none⟩))) (lt : b < w.heap.size) (l : Leads w D c u b') (hb : t.behind = u.behind) (hl : t.layers = u.layers + 1) : Leads w D b t b'
theorem leads_any {w : World} {D : Nat → Prop} : ∀ (n : Nat) {b : Nat} {t : Ty}, t.layers ≤ n → Rep w D b t → ∃ b', Leads w D b t b' := by
 intro n
 induction n with
 | zero =>
  intro b t hn r
  rcases r.peel with ⟨k, h0, -, k8, k10, hb⟩ | ⟨c2, u2, h0, h4, r2, hb, hl⟩ | ⟨c2, u2, h0, h4, r2, hb, hl⟩
  ·exact ⟨b, .here r h0 k8 k10 hb⟩
  ·omega
  ·omega
 | succ n ih =>
  intro b t hn r
  rcases r.peel with ⟨k, h0, -, k8, k10, hb⟩ | ⟨c2, u2, h0, h4, r2, hb, hl⟩ | ⟨c2, u2, h0, h4, r2, hb, hl⟩
  ·exact ⟨b, .here r h0 k8 k10 hb⟩
  ·obtain ⟨b', l⟩ := ih (by omega) r2
   exact ⟨b', .step (.inl rfl) h0 h4 r.lt l hb hl⟩
  ·obtain ⟨b', l⟩ := ih (by omega) r2
   exact ⟨b', .step (.inr rfl) h0 h4 r.lt l hb hl⟩
theorem Leads.rep {w : World} {D : Nat → Prop} {b b' : Nat} {t : Ty} (l : Leads w D b t b') : Rep w D b' t.behind := by
 induction l with
 | here r _ _ _ hb => rw [hb]; exact r
 | step _ _ _ _ _ hb _ ih => rw [hb]; exact ih
theorem behind_at {w : World} {D : Nat → Prop} {b : Nat} {t : Ty} (r : Rep w D b t) :
  ∃ b', Rep w D b' t.behind ∧ Calls Tryz.prog 13 #[.pointer (some ⟨b, 0, none⟩)] w fun e w' => e = .returned (.pointer (some ⟨b', 0, none⟩)) ∧ w' = w := by
 obtain ⟨b', l⟩ := leads_any t.layers (Nat.le_refl _) r
 refine ⟨b', l.rep, ?_⟩
 have lb := r.lt
 clear r
 go_enter Tryz.func13, Tryz.ntmps13
 go_wp2
 go_loopg [0] t.layers (fun k v wr => ∃ c u, v = .pointer (some ⟨c, 0, none⟩) ∧ Leads w D c u b' ∧ u.layers ≤ k ∧ w = wr)
 case atStart => exact ⟨b, t, rfl, l, Nat.le_refl _, rfl⟩
 case round =>
  obtain ⟨c, u, rfl, lu, hk, rfl⟩ := hrel
  cases lu with
  | here r h0 k8 k10 hb =>
   have lc := r.lt
   clear hb r l
   go_wp2
   go_ret
   exact ⟨rfl, rfl⟩
  | @step _ c2 _ _ u2 k hkk h0 h4 lt l2 hb hl =>
   have hlt : u2.layers < gk := by omega
   have L2 := Lib.hid l2
   clear hl hb l l2
   rcases hkk with rfl | rfl
   all_goals
    go_wp2
    go_roundg u2.layers
    case measure => exact hlt
    case rel => exact ⟨c2, u2, rfl, L2.out, Nat.le_refl _, rfl⟩
section
variable {w : World} {b c b' c' : Nat}
end
theorem Good.behind {t : Ty} (h : Good t) : Good t.behind := by
 induction h with
 | named _ _ ih => exact ih
 | cst _ _ ih => exact ih
 | int h => exact .int h
 | ptr h => exact .ptr h
 | arr hn h => exact .arr hn h
 | enm h => exact .enm h
 | comp h1 h2 h3 h4 => exact .comp h1 h2 h3 h4
theorem cnt_behind (t : Ty) : t.behind.cnt ≤ t.cnt := by
 induction t with
 | named nm t ih => exact Nat.le_trans ih (Nat.le_succ _)
 | cst t ih => exact Nat.le_trans ih (Nat.le_succ _)
 | _ => exact Nat.le_refl _
theorem cast_beq (a b : Nat) : ((a : Int) == (b : Int)) = (a == b) := by
 by_cases h : a = b
 ·subst h; simp
 ·have h2 : ¬ (a : Int) = b := by omega
  rw [beq_eq_false_iff_ne.2 h, beq_eq_false_iff_ne.2 h2]
end Go.Proofs.YtfilbgmbmlmdbaaGreatDoor
