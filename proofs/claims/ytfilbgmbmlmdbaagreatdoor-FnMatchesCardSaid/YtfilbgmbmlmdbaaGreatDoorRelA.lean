/- What a type is behind its names and qualifiers; which kind it is of. Nothing is claimed here. -/
import Derived.Test.YtfilbgmbmlmdbaaGreatDoorAsB
import Derived.Test.YtfilbgmbmlmdbaaGreatDoorPair
namespace Go.Proofs.YtfilbgmbmlmdbaaGreatDoor
open Go.RowKit

/-- Behind names and qualifiers. -/
def und (f : Nat → RowD) (t : Nat) : Nat := if (f t).k = 8 ∨ (f t).k = 10 then (f t).of - 1 else t
/-- Names and qualifiers lead to ints. -/
def Peels (n : Nat) (f : Nat → RowD) : Prop := ∀ t, t < n → (f t).k = 8 ∨ (f t).k = 10 → ∃ j, j < n ∧ (f t).of = j + 1 ∧ (f j).k = 1
theorem peels_of {w : World} {D : Nat → Prop} {xs : List Value} {n : Nat} {f : Nat → RowD} (hf : ∀ i, i < n → FitsD w D xs n i (f i)) : Peels n f := fun t ht h => by
  obtain ⟨j, hj, ho, hx⟩ := (hf t ht).peel h
  have e := hx.symm.trans (hf j hj).row.1
  simp only [Option.some.injEq, Value.int.injEq, true_and] at e
  exact ⟨j, hj, ho, e.symm⟩
abbrev objAt (pt : Nat → TypeId) (ob : Nat → Nat) (i : Nat) : Value := .iface (pt (i + 1)) (.pointer (some ⟨ob (i + 1), 0, none⟩))

set_option linter.unusedSimpArgs false in
set_option maxRecDepth 100000 in
set_option maxHeartbeats 4000000 in
theorem underlying_any (w : World) (n og t : Nat) (f : Nat → RowD) (pt : Nat → TypeId) (ob : Nat → Nat) (h : Outs w n f og pt ob) (ht : t < n) (hpl : Peels n f) :
    Calls Tryz.prog 65 #[objAt pt ob t] w fun e w' => e = .returned (objAt pt ob (und f t)) ∧ w' = w := by
  obtain ⟨cs, cs0, ty, lo, hob, hbk, hful⟩ := h.full t ht
  have hbl := hbk.lt
  rcases hob.kinds with ⟨hk, hp⟩ | ⟨hk, hp⟩ | ⟨hk, hp⟩ | ⟨hk, hp⟩ | ⟨hk, hp⟩ | ⟨hk, hp⟩ | ⟨hk, hp⟩ | ⟨hk, hp⟩
  · have hu : und f t = t := if_neg (by omega)
    rw [hu]
    simp only [objAt, hp]
    have faq := lackQInt
    have fad := taNoTypedef 151 (by decide)
    clear hk hu hp hob hful hbk
    go_enter Tryz.func65, Tryz.ntmps65
    go_wp2_with fail
    go_loopg [3, 4] 1 (fun gk s3 s4 wr => s3 = .iface 151 (.pointer (some ⟨ob (t + 1), 0, none⟩)) ∧ s4 = .int .i64 0 ∧ wr = w)
    case atStart => exact ⟨rfl, rfl, rfl⟩
    case round =>
      obtain ⟨rfl, rfl, rfl⟩ := hrel
      go_wp2_with fail
      go_ret
      exact ⟨rfl, rfl⟩
  · have hu : und f t = t := if_neg (by omega)
    rw [hu]
    simp only [objAt, hp]
    have faq := lackQPointer
    have fad := taNoTypedef 164 (by decide)
    clear hk hu hp hob hful hbk
    go_enter Tryz.func65, Tryz.ntmps65
    go_wp2_with fail
    go_loopg [3, 4] 1 (fun gk s3 s4 wr => s3 = .iface 164 (.pointer (some ⟨ob (t + 1), 0, none⟩)) ∧ s4 = .int .i64 0 ∧ wr = w)
    case atStart => exact ⟨rfl, rfl, rfl⟩
    case round =>
      obtain ⟨rfl, rfl, rfl⟩ := hrel
      go_wp2_with fail
      go_ret
      exact ⟨rfl, rfl⟩
  · have hu : und f t = t := if_neg (by omega)
    rw [hu]
    simp only [objAt, hp]
    have faq := lackQArray
    have fad := taNoTypedef 167 (by decide)
    clear hk hu hp hob hful hbk
    go_enter Tryz.func65, Tryz.ntmps65
    go_wp2_with fail
    go_loopg [3, 4] 1 (fun gk s3 s4 wr => s3 = .iface 167 (.pointer (some ⟨ob (t + 1), 0, none⟩)) ∧ s4 = .int .i64 0 ∧ wr = w)
    case atStart => exact ⟨rfl, rfl, rfl⟩
    case round =>
      obtain ⟨rfl, rfl, rfl⟩ := hrel
      go_wp2_with fail
      go_ret
      exact ⟨rfl, rfl⟩
  · have hu : und f t = t := if_neg (by omega)
    rw [hu]
    simp only [objAt, hp]
    have faq := lackQStruct
    have fad := taNoTypedef 162 (by decide)
    clear hk hu hp hob hful hbk
    go_enter Tryz.func65, Tryz.ntmps65
    go_wp2_with fail
    go_loopg [3, 4] 1 (fun gk s3 s4 wr => s3 = .iface 162 (.pointer (some ⟨ob (t + 1), 0, none⟩)) ∧ s4 = .int .i64 0 ∧ wr = w)
    case atStart => exact ⟨rfl, rfl, rfl⟩
    case round =>
      obtain ⟨rfl, rfl, rfl⟩ := hrel
      go_wp2_with fail
      go_ret
      exact ⟨rfl, rfl⟩
  · have hu : und f t = t := if_neg (by omega)
    rw [hu]
    simp only [objAt, hp]
    have faq := lackQUnion
    have fad := taNoTypedef 163 (by decide)
    clear hk hu hp hob hful hbk
    go_enter Tryz.func65, Tryz.ntmps65
    go_wp2_with fail
    go_loopg [3, 4] 1 (fun gk s3 s4 wr => s3 = .iface 163 (.pointer (some ⟨ob (t + 1), 0, none⟩)) ∧ s4 = .int .i64 0 ∧ wr = w)
    case atStart => exact ⟨rfl, rfl, rfl⟩
    case round =>
      obtain ⟨rfl, rfl, rfl⟩ := hrel
      go_wp2_with fail
      go_ret
      exact ⟨rfl, rfl⟩
  · have hu : und f t = t := if_neg (by omega)
    rw [hu]
    simp only [objAt, hp]
    have faq := lackQEnum
    have fad := taNoTypedef 144 (by decide)
    clear hk hu hp hob hful hbk
    go_enter Tryz.func65, Tryz.ntmps65
    go_wp2_with fail
    go_loopg [3, 4] 1 (fun gk s3 s4 wr => s3 = .iface 144 (.pointer (some ⟨ob (t + 1), 0, none⟩)) ∧ s4 = .int .i64 0 ∧ wr = w)
    case atStart => exact ⟨rfl, rfl, rfl⟩
    case round =>
      obtain ⟨rfl, rfl, rfl⟩ := hrel
      go_wp2_with fail
      go_ret
      exact ⟨rfl, rfl⟩
  · obtain ⟨j, hj, ho, hkj⟩ := hpl t ht (by omega)
    obtain ⟨csj, csj0, tyj, loj, hobj, hbkj, _⟩ := h.full j hj
    have hpj : pt (j + 1) = 151 := by rcases hobj.kinds with ⟨a, b⟩ | ⟨a, b⟩ | ⟨a, b⟩ | ⟨a, b⟩ | ⟨a, b⟩ | ⟨a, b⟩ | ⟨a, b⟩ | ⟨a, b⟩ <;> first | exact b | omega
    have hu : und f t = j := by unfold und; rw [if_pos (by omega), ho]; simp
    have hcs := hful.of8 hk
    rw [ho, hpj] at hcs
    have hc := hbk.cell 1
    rw [hcs] at hc
    simp only [List.getElem?_toArray, List.getElem?_cons_zero, List.getElem?_cons_succ] at hc
    rw [hu]
    simp only [objAt, hp, hpj]
    have faq := lackQTypedef
    have fay := @ta_yes _ _ Tryz.underlying196
    have fa2 := lackQInt
    have fa3 := taNoTypedef 151 (by decide)
    clear hk hu hp hob hful hbk hcs ho hkj hobj hbkj hpj
    go_enter Tryz.func65, Tryz.ntmps65
    go_wp2_with fail
    go_loopg [3, 4] 1 (fun gk s3 s4 wr => wr = w ∧ ((gk = 1 ∧ s3 = .iface 196 (.pointer (some ⟨ob (t + 1), 0, none⟩)) ∧ s4 = .int .i64 0) ∨ (gk = 0 ∧ s3 = .iface 151 (.pointer (some ⟨ob (j + 1), 0, none⟩)) ∧ s4 = .int .i64 1)))
    case atStart => exact ⟨rfl, .inl ⟨rfl, rfl, rfl⟩⟩
    case round =>
      obtain ⟨rfl, ⟨rfl, rfl, rfl⟩ | ⟨rfl, rfl, rfl⟩⟩ := hrel
      · go_wp2_with fail
        go_roundg 0
        case measure => omega
        case rel => exact ⟨rfl, .inr ⟨rfl, rfl, by go_num⟩⟩
      · go_wp2_with fail
        go_ret
        exact ⟨rfl, rfl⟩
  · obtain ⟨j, hj, ho, hkj⟩ := hpl t ht (by omega)
    obtain ⟨csj, csj0, tyj, loj, hobj, hbkj, _⟩ := h.full j hj
    have hpj : pt (j + 1) = 151 := by rcases hobj.kinds with ⟨a, b⟩ | ⟨a, b⟩ | ⟨a, b⟩ | ⟨a, b⟩ | ⟨a, b⟩ | ⟨a, b⟩ | ⟨a, b⟩ | ⟨a, b⟩ <;> first | exact b | omega
    have hu : und f t = j := by unfold und; rw [if_pos (by omega), ho]; simp
    have hcs := hful.of10 hk
    rw [ho, hpj] at hcs
    have hc := hbk.cell 0
    rw [hcs] at hc
    simp only [List.getElem?_toArray, List.getElem?_cons_zero, List.getElem?_cons_succ] at hc
    rw [hu]
    simp only [objAt, hp, hpj]
    have faq := hasQ
    have fa2 := lackQInt
    have fa3 := taNoTypedef 151 (by decide)
    clear hk hu hp hob hful hbk hcs ho hkj hobj hbkj hpj
    go_enter Tryz.func65, Tryz.ntmps65
    go_wp2_with fail
    go_loopg [3, 4] 1 (fun gk s3 s4 wr => wr = w ∧ ((gk = 1 ∧ s3 = .iface 202 (.pointer (some ⟨ob (t + 1), 0, none⟩)) ∧ s4 = .int .i64 0) ∨ (gk = 0 ∧ s3 = .iface 151 (.pointer (some ⟨ob (j + 1), 0, none⟩)) ∧ s4 = .int .i64 1)))
    case atStart => exact ⟨rfl, .inl ⟨rfl, rfl, rfl⟩⟩
    case round =>
      obtain ⟨rfl, ⟨rfl, rfl, rfl⟩ | ⟨rfl, rfl, rfl⟩⟩ := hrel
      · go_wp2_with fail
        refine (qualify_any _ _ _ _ hc).mono ?_
        rintro e w9 ⟨rfl, rfl⟩
        go_wp2_with fail
        go_roundg 0
        case measure => omega
        case rel => exact ⟨rfl, .inr ⟨rfl, rfl, by go_num⟩⟩
      · go_wp2_with fail
        go_ret
        exact ⟨rfl, rfl⟩
#print axioms underlying_any
end Go.Proofs.YtfilbgmbmlmdbaaGreatDoor
