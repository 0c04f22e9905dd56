/- Whether types match, by the package's own rule: the walks over what is no struct. Nothing is claimed here. -/
import Derived.Test.YtfilbgmbmlmdbaaGreatDoorRelD
import Derived.Test.YtfilbgmbmlmdbaaGreatDoorWb
namespace Go.Proofs.YtfilbgmbmlmdbaaGreatDoor
open Go.RowKit Go.MapKept

set_option maxRecDepth 100000 in
set_option maxHeartbeats 4000000 in
theorem fwd_Int (w : World) (b : Nat) : Calls Tryz.prog 61 #[.iface 151 (.pointer (some ⟨b, 0, none⟩))] w fun e w' => e = .returned (.tuple #[.pointer none, .bool false]) ∧ w' = w := by
  have fan := taNoFwd 151 (by decide)
  have faq := lackQInt
  have fad := taNoTypedef 151 (by decide)
  go_enter Tryz.func61, Tryz.ntmps61
  go_wp2_with fail
  refine wp_scope_jumps 0 (fun a w' => w' = w ∧ ∃ u0 u1 u2 u3 u4 u5 u6 u7 u8 u9 u10 u11 u12 u13 u14 u15 u16 u17 u18 u19 u20 u21 u22 u23 u24 u25 u26 u27 u28 u29 u30 u31 : Value, a = ⟨#[u0, u1, u2, u3, u4, u5, u6, u7, u8, u9, u10, u11, u12, u13, u14, u15, u16, u17, u18, u19, u20, u21, u22, u23, u24, u25, u26, u27, u28, u29, u30, u31], []⟩) (fun _ _ => 0) rfl ?_ ?_
  · go_wp2_with fail
    go_loopg [0, 4] 1 (fun gk s0 s4 wr => s0 = .iface 151 (.pointer (some ⟨b, 0, none⟩)) ∧ s4 = .int .i64 0 ∧ wr = w)
    case atStart => exact ⟨rfl, rfl, rfl⟩
    case round =>
      obtain ⟨rfl, rfl, rfl⟩ := hrel
      go_wp2_with fail
      go_step3
      simp only [Exit.inBlock, Exit.then]
      exact ⟨rfl, rfl, _, _, _, _, _, _, _, _, _, _, _, _, _, _, _, _, _, _, _, _, _, _, _, _, _, _, _, _, _, _, _, _, rfl⟩
  · rintro a w' ⟨rfl, u0, u1, u2, u3, u4, u5, u6, u7, u8, u9, u10, u11, u12, u13, u14, u15, u16, u17, u18, u19, u20, u21, u22, u23, u24, u25, u26, u27, u28, u29, u30, u31, rfl⟩
    go_wp2_with fail
    simp only [jump_ret]
    go_ret2
    exact ⟨rfl, rfl⟩

set_option maxRecDepth 100000 in
set_option maxHeartbeats 4000000 in
theorem fwd_Struct (w : World) (b : Nat) : Calls Tryz.prog 61 #[.iface 162 (.pointer (some ⟨b, 0, none⟩))] w fun e w' => e = .returned (.tuple #[.pointer none, .bool false]) ∧ w' = w := by
  have fan := taNoFwd 162 (by decide)
  have faq := lackQStruct
  have fad := taNoTypedef 162 (by decide)
  go_enter Tryz.func61, Tryz.ntmps61
  go_wp2_with fail
  refine wp_scope_jumps 0 (fun a w' => w' = w ∧ ∃ u0 u1 u2 u3 u4 u5 u6 u7 u8 u9 u10 u11 u12 u13 u14 u15 u16 u17 u18 u19 u20 u21 u22 u23 u24 u25 u26 u27 u28 u29 u30 u31 : Value, a = ⟨#[u0, u1, u2, u3, u4, u5, u6, u7, u8, u9, u10, u11, u12, u13, u14, u15, u16, u17, u18, u19, u20, u21, u22, u23, u24, u25, u26, u27, u28, u29, u30, u31], []⟩) (fun _ _ => 0) rfl ?_ ?_
  · go_wp2_with fail
    go_loopg [0, 4] 1 (fun gk s0 s4 wr => s0 = .iface 162 (.pointer (some ⟨b, 0, none⟩)) ∧ s4 = .int .i64 0 ∧ wr = w)
    case atStart => exact ⟨rfl, rfl, rfl⟩
    case round =>
      obtain ⟨rfl, rfl, rfl⟩ := hrel
      go_wp2_with fail
      go_step3
      simp only [Exit.inBlock, Exit.then]
      exact ⟨rfl, rfl, _, _, _, _, _, _, _, _, _, _, _, _, _, _, _, _, _, _, _, _, _, _, _, _, _, _, _, _, _, _, _, _, rfl⟩
  · rintro a w' ⟨rfl, u0, u1, u2, u3, u4, u5, u6, u7, u8, u9, u10, u11, u12, u13, u14, u15, u16, u17, u18, u19, u20, u21, u22, u23, u24, u25, u26, u27, u28, u29, u30, u31, rfl⟩
    go_wp2_with fail
    simp only [jump_ret]
    go_ret2
    exact ⟨rfl, rfl⟩
end Go.Proofs.YtfilbgmbmlmdbaaGreatDoor

namespace Go.Proofs.YtfilbgmbmlmdbaaGreatDoor
open Go.RowKit Go.MapKept

/-- Types whose names are short, pointers and arrays of ints, no name twice. -/
inductive OkM : Ty → Prop
  | int {t : Ty} (h : IntT t) : OkM t
  | ptr {t : Ty} (h : IntT t) : OkM (.ptr t)
  | arr {n : Nat} {t : Ty} (h : IntT t) (hn : n < 4294967296) : OkM (.arr n t)
  | enm {t : Ty} (h : EnmT t) : OkM t
  | named {nm : ByteArray} {t : Ty} (h : IntT t) : OkM (.named nm t)
  | cst {t : Ty} (h : IntT t) : OkM (.cst t)
  | comp {sz n : Nat} {nm : ByteArray} {pn : Nat → ByteArray} {py : Nat → Ty} {pa pb : Nat → Nat} (hnm : nm.size ≤ 2) (hn : n ≤ 1000) (hp : ∀ i, i < n → (pn i).size = 1) (hd : ∀ i j, i < j → j < n → pn i ≠ pn j) (hc : ∀ i, i < n → OkM (py i)) :
      OkM (.comp false nm sz n pn py pa pb)
theorem OkM.rt_und {f : Nat → RowD} {i : Nat} {t : Ty} (h : OkM t) (r : RT f i t) : RT f (und f i) t.behind := by
  have self : ∀ {i t}, RT f i t → (f i).k ≠ 8 → (f i).k ≠ 10 → t.behind = t → RT f (und f i) t.behind := fun r h8 h10 hb => by
    rw [hb]; unfold und; rw [if_neg (by omega)]; exact r
  cases h with
  | int h => obtain ⟨sz, sg, nm, rfl, _⟩ := h; cases r with | int hk hn hs he => exact self (.int hk hn hs he) (by omega) (by omega) rfl
  | ptr h => cases r with | ptr hk ho r => exact self (.ptr hk ho r) (by omega) (by omega) rfl
  | arr h _ => cases r with | arr hk hs ho hx rx r => exact self (.arr hk hs ho hx rx r) (by omega) (by omega) rfl
  | enm h => obtain ⟨nm, sg, n, vn, vv, rfl, _⟩ := h; cases r with | enm hk hn hs hl hq hr => exact self (.enm hk hn hs hl hq hr) (by omega) (by omega) rfl
  | named h =>
    obtain ⟨sz, sg, nm, rfl, _⟩ := h
    cases r with
    | @named _ j _ _ hk hn ho r =>
      have e : und f i = j := by unfold und; rw [if_pos (.inl hk), ho]; simp
      rw [e]; exact r
  | cst h =>
    obtain ⟨sz, sg, nm, rfl, _⟩ := h
    cases r with
    | @cst _ j _ hk ho r =>
      have e : und f i = j := by unfold und; rw [if_pos (.inr hk), ho]; simp
      rw [e]; exact r
  | comp _ _ _ _ _ =>
    cases r with
    | comp hk hn hs hq hr r =>
      have hk4 : (f i).k = 4 := hk
      exact self (.comp hk hn hs hq hr r) (by omega) (by omega) rfl
theorem OkM.behind {t : Ty} (h : OkM t) : OkM t.behind := by
  cases h with
  | int h => have := h; obtain ⟨sz, sg, nm, rfl, _⟩ := h; exact .int this
  | ptr h => exact .ptr h
  | arr h hn => exact .arr h hn
  | enm h => have := h; obtain ⟨nm, sg, n, vn, vv, rfl, _⟩ := h; exact .enm this
  | named h => have := h; obtain ⟨sz, sg, nm, rfl, _⟩ := h; exact .int this
  | cst h => have := h; obtain ⟨sz, sg, nm, rfl, _⟩ := h; exact .int this
  | comp h1 h2 h3 h4 h5 => exact .comp h1 h2 h3 h4 h5
theorem PRow.uniq2 {ys : List Value} {j : Nat} {nm nm' : ByteArray} {o o' : Value} {a b v a' b' v' : Int} (h : PRow ys j nm o a b v) (h' : PRow ys j nm' o' a' b' v') : nm = nm' ∧ o = o' := by
  obtain ⟨h0, h1, _⟩ := h
  obtain ⟨k0, k1, _⟩ := h'
  rw [h0] at k0; rw [h1] at k1
  cases k0; cases k1
  exact ⟨rfl, rfl⟩
theorem sg_inj {a b : Bool} {x : Int} (h : x = if a then 1 else 0) (h' : x = if b then 1 else 0) : a = b := by
  cases a <;> cases b <;> first | rfl | (rw [h] at h'; simp at h')
theorem sumTo_congr {f g : Nat → Nat} {n : Nat} (h : ∀ i, i < n → f i = g i) : sumTo f n = sumTo g n := by
  induction n with
  | zero => rfl
  | succ n ih => simp only [sumTo]; rw [ih fun i hi => h i (by omega), h n (by omega)]
/-- A row says one type. -/
theorem cnt_uniq {f : Nat → RowD} {i : Nat} {t : Ty} (r : RT f i t) : ∀ {t' : Ty}, RT f i t' → t.cnt = t'.cnt := by
  induction r with
  | int hk hn hs he =>
    intro t' r'
    cases r' with
    | int => rfl
    | @comp _ _ _ un _ _ _ _ _ _ hk' => cases un <;> (rw [hk] at hk'; simp at hk')
    | _ hk' => rw [hk] at hk'; simp at hk'
  | ptr hk ho r ih =>
    intro t' r'
    cases r' with
    | ptr hk' ho' r' => obtain rfl := Nat.succ.inj (ho.symm.trans ho'); simp only [Ty.cnt, ih r']
    | @comp _ _ _ un _ _ _ _ _ _ hk' => cases un <;> (rw [hk] at hk'; simp at hk')
    | _ hk' => rw [hk] at hk'; simp at hk'
  | arr hk hs ho hx rx r ih =>
    intro t' r'
    cases r' with
    | arr hk' hs' ho' hx' rx' r' => obtain rfl := Nat.succ.inj (ho.symm.trans ho'); simp only [Ty.cnt, ih r']
    | @comp _ _ _ un _ _ _ _ _ _ hk' => cases un <;> (rw [hk] at hk'; simp at hk')
    | _ hk' => rw [hk] at hk'; simp at hk'
  | named hk hn ho r ih =>
    intro t' r'
    cases r' with
    | named hk' hn' ho' r' => obtain rfl := Nat.succ.inj (ho.symm.trans ho'); simp only [Ty.cnt, ih r']
    | @comp _ _ _ un _ _ _ _ _ _ hk' => cases un <;> (rw [hk] at hk'; simp at hk')
    | _ hk' => rw [hk] at hk'; simp at hk'
  | cst hk ho r ih =>
    intro t' r'
    cases r' with
    | cst hk' ho' r' => obtain rfl := Nat.succ.inj (ho.symm.trans ho'); simp only [Ty.cnt, ih r']
    | @comp _ _ _ un _ _ _ _ _ _ hk' => cases un <;> (rw [hk] at hk'; simp at hk')
    | _ hk' => rw [hk] at hk'; simp at hk'
  | enm hk hn hs hl hq hr =>
    intro t' r'
    cases r' with
    | enm => rfl
    | @comp _ _ _ un _ _ _ _ _ _ hk' => cases un <;> (rw [hk] at hk'; simp at hk')
    | _ hk' => rw [hk] at hk'; simp at hk'
  | @comp i sz n un nm pn py pa pb pc hk hn hs hq hr r ih =>
    intro t' r'
    cases r' with
    | @comp _ sz' n' un' nm' pn' py' pa' pb' pc' hk' hn' hs' hq' hr' r' =>
      obtain rfl : n = n' := hq.symm.trans hq'
      simp only [Ty.cnt]
      congr 1
      refine sumTo_congr fun j hj => ?_
      have e := ((hr j hj).uniq2 (hr' j hj)).2
      simp only [Value.int.injEq, true_and] at e
      obtain e2 : pc j = pc' j := by omega
      have r2 := r' j hj
      rw [← e2] at r2
      exact ih j hj r2
    | int hk' => cases un <;> (rw [hk] at hk'; simp at hk')
    | ptr hk' => cases un <;> (rw [hk] at hk'; simp at hk')
    | arr hk' => cases un <;> (rw [hk] at hk'; simp at hk')
    | named hk' => cases un <;> (rw [hk] at hk'; simp at hk')
    | cst hk' => cases un <;> (rw [hk] at hk'; simp at hk')
    | enm hk' => cases un <;> (rw [hk] at hk'; simp at hk')
theorem RT.kind {f : Nat → RowD} {i : Nat} {t : Ty} (r : RT f i t) : (f i).k = (t.kind : Int) := by
  cases r with
  | @comp _ _ _ un _ _ _ _ _ _ hk => rw [hk]; cases un <;> rfl
  | int hk => exact hk
  | ptr hk => exact hk
  | arr hk => exact hk
  | named hk => exact hk
  | cst hk => exact hk
  | enm hk => exact hk
theorem rt_behind2 {g : Nat → RowD} {j : Nat} {u : Ty} (r : RT g j u) : ∀ {u' : Ty}, RT g j u' → ∃ k, RT g k u.behind ∧ RT g k u'.behind := by
  induction r with
  | named hk hn ho r ih =>
    intro u' r'
    cases r' with
    | named hk' hn' ho' r' => obtain rfl := Nat.succ.inj (ho.symm.trans ho'); have := ih r'; exact this
    | @comp _ _ _ un _ _ _ _ _ _ hk' => cases un <;> (rw [hk] at hk'; simp at hk')
    | _ hk' => rw [hk] at hk'; simp at hk'
  | cst hk ho r ih =>
    intro u' r'
    cases r' with
    | cst hk' ho' r' => obtain rfl := Nat.succ.inj (ho.symm.trans ho'); have := ih r'; exact this
    | @comp _ _ _ un _ _ _ _ _ _ hk' => cases un <;> (rw [hk] at hk'; simp at hk')
    | _ hk' => rw [hk] at hk'; simp at hk'
  | int hk hn hs he =>
    intro u' r'
    refine ⟨_, .int hk hn hs he, ?_⟩
    cases r' with
    | int hk' hn' hs' he' => exact .int hk' hn' hs' he'
    | @comp _ _ _ un _ _ _ _ _ _ hk' => cases un <;> (rw [hk] at hk'; simp at hk')
    | _ hk' => rw [hk] at hk'; simp at hk'
  | ptr hk ho r =>
    intro u' r'
    refine ⟨_, .ptr hk ho r, ?_⟩
    cases r' with
    | ptr hk' ho' r' => exact .ptr hk' ho' r'
    | @comp _ _ _ un _ _ _ _ _ _ hk' => cases un <;> (rw [hk] at hk'; simp at hk')
    | _ hk' => rw [hk] at hk'; simp at hk'
  | arr hk hs ho hx rx r =>
    intro u' r'
    refine ⟨_, .arr hk hs ho hx rx r, ?_⟩
    cases r' with
    | arr hk' hs' ho' hx' rx' r' => exact .arr hk' hs' ho' hx' rx' r'
    | @comp _ _ _ un _ _ _ _ _ _ hk' => cases un <;> (rw [hk] at hk'; simp at hk')
    | _ hk' => rw [hk] at hk'; simp at hk'
  | enm hk hn hs hl hq hr =>
    intro u' r'
    refine ⟨_, .enm hk hn hs hl hq hr, ?_⟩
    cases r' with
    | enm hk' hn' hs' hl' hq' hr' => exact .enm hk' hn' hs' hl' hq' hr'
    | @comp _ _ _ un _ _ _ _ _ _ hk' => cases un <;> (rw [hk] at hk'; simp at hk')
    | _ hk' => rw [hk] at hk'; simp at hk'
  | @comp i sz n un nm pn py pa pb pc hk hn hs hq hr r =>
    intro u' r'
    refine ⟨_, .comp hk hn hs hq hr r, ?_⟩
    cases r' with
    | comp hk' hn' hs' hq' hr' r' => exact .comp hk' hn' hs' hq' hr' r'
    | int hk' => cases un <;> (rw [hk] at hk'; simp at hk')
    | ptr hk' => cases un <;> (rw [hk] at hk'; simp at hk')
    | arr hk' => cases un <;> (rw [hk] at hk'; simp at hk')
    | named hk' => cases un <;> (rw [hk] at hk'; simp at hk')
    | cst hk' => cases un <;> (rw [hk] at hk'; simp at hk')
    | enm hk' => cases un <;> (rw [hk] at hk'; simp at hk')
/-- The comparison depends on the rows alone. -/
theorem tm_uniq {f g : Nat → RowD} {i : Nat} {t : Ty} (r : RT f i t) : ∀ {t' : Ty}, RT f i t' → ∀ {j : Nat} {u u' : Ty}, RT g j u → RT g j u' → tm t u = tm t' u' := by
  induction r with
  | named hk hn ho r ih =>
    intro t' r' j u u' q q'
    cases r' with
    | named hk' hn' ho' r' => obtain rfl := Nat.succ.inj (ho.symm.trans ho'); exact ih r' q q'
    | @comp _ _ _ un _ _ _ _ _ _ hk' => cases un <;> (rw [hk] at hk'; simp at hk')
    | _ hk' => rw [hk] at hk'; simp at hk'
  | cst hk ho r ih =>
    intro t' r' j u u' q q'
    cases r' with
    | cst hk' ho' r' => obtain rfl := Nat.succ.inj (ho.symm.trans ho'); exact ih r' q q'
    | @comp _ _ _ un _ _ _ _ _ _ hk' => cases un <;> (rw [hk] at hk'; simp at hk')
    | _ hk' => rw [hk] at hk'; simp at hk'
  | int hk hn hs he =>
    intro t' r' j u u' q q'
    obtain ⟨k, p, p'⟩ := rt_behind2 q q'
    cases r' with
    | int hk' hn' hs' he' =>
      obtain rfl := hn.symm.trans hn'
      obtain rfl := sg_inj he he'
      have e := hs.symm.trans hs'
      obtain rfl := Int.ofNat.inj e
      rw [← tm_behind_right _ u, ← tm_behind_right _ u']
      by_cases h1 : u.behind.kind = 1
      · have h1' : u'.behind.kind = 1 := by have := p.kind; have := p'.kind; omega
        revert p p'
        generalize u.behind = a at h1
        generalize u'.behind = b at h1'
        intro p p'
        cases p with
        | int k1 n1 s1 e1 =>
          cases p' with
          | int k2 n2 s2 e2 =>
            obtain rfl := n1.symm.trans n2
            obtain rfl := sg_inj e1 e2
            obtain rfl := Int.ofNat.inj (s1.symm.trans s2)
            rfl
          | @comp _ _ _ un => cases un <;> cases h1'
          | _ => cases h1'
        | @comp _ _ _ un => cases un <;> cases h1
        | _ => cases h1
      · rw [tm_kind (by rw [behind_idem]; exact fun e => h1 e.symm), tm_kind (by rw [behind_idem]; intro e; apply h1; have := p.kind; have := p'.kind; have e' : u'.behind.kind = 1 := e.symm; omega)]
    | @comp _ _ _ un _ _ _ _ _ _ hk' => cases un <;> (rw [hk] at hk'; simp at hk')
    | _ hk' => rw [hk] at hk'; simp at hk'
  | ptr hk ho r ih =>
    intro t' r' j u u' q q'
    obtain ⟨k, p, p'⟩ := rt_behind2 q q'
    cases r' with
    | ptr hk' ho' r' =>
      obtain rfl := Nat.succ.inj (ho.symm.trans ho')
      rw [← tm_behind_right _ u, ← tm_behind_right _ u']
      by_cases h1 : u.behind.kind = 2
      · have h1' : u'.behind.kind = 2 := by have := p.kind; have := p'.kind; omega
        revert p p'
        generalize u.behind = a at h1
        generalize u'.behind = b at h1'
        intro p p'
        cases p with
        | ptr k1 o1 p =>
          cases p' with
          | ptr k2 o2 p' =>
            obtain rfl := Nat.succ.inj (o1.symm.trans o2)
            exact ih r' p p'
          | @comp _ _ _ un => cases un <;> cases h1'
          | _ => cases h1'
        | @comp _ _ _ un => cases un <;> cases h1
        | _ => cases h1
      · rw [tm_kind (by rw [behind_idem]; exact fun e => h1 e.symm), tm_kind (by rw [behind_idem]; intro e; apply h1; have := p.kind; have := p'.kind; have e' : u'.behind.kind = 2 := e.symm; omega)]
    | @comp _ _ _ un _ _ _ _ _ _ hk' => cases un <;> (rw [hk] at hk'; simp at hk')
    | _ hk' => rw [hk] at hk'; simp at hk'
  | arr hk hs ho hx rx r ih =>
    intro t' r' j u u' q q'
    obtain ⟨k, p, p'⟩ := rt_behind2 q q'
    cases r' with
    | arr hk' hs' ho' hx' rx' r' =>
      obtain rfl := Nat.succ.inj (ho.symm.trans ho')
      obtain rfl := Int.ofNat.inj (hs.symm.trans hs')
      rw [← tm_behind_right _ u, ← tm_behind_right _ u']
      by_cases h1 : u.behind.kind = 3
      · have h1' : u'.behind.kind = 3 := by have := p.kind; have := p'.kind; omega
        revert p p'
        generalize u.behind = a at h1
        generalize u'.behind = b at h1'
        intro p p'
        cases p with
        | arr k1 s1 o1 x1 y1 p =>
          cases p' with
          | arr k2 s2 o2 x2 y2 p' =>
            obtain rfl := Nat.succ.inj (o1.symm.trans o2)
            obtain rfl := Int.ofNat.inj (s1.symm.trans s2)
            simp only [tm, Ty.behind, ih r' p p']
          | @comp _ _ _ un => cases un <;> cases h1'
          | _ => cases h1'
        | @comp _ _ _ un => cases un <;> cases h1
        | _ => cases h1
      · rw [tm_kind (by rw [behind_idem]; exact fun e => h1 e.symm), tm_kind (by rw [behind_idem]; intro e; apply h1; have := p.kind; have := p'.kind; have e' : u'.behind.kind = 3 := e.symm; omega)]
    | @comp _ _ _ un _ _ _ _ _ _ hk' => cases un <;> (rw [hk] at hk'; simp at hk')
    | _ hk' => rw [hk] at hk'; simp at hk'
  | @enm i n nm sg vn vv hk hn hs hl hq hr =>
    intro t' r' j u u' q q'
    obtain ⟨k, p, p'⟩ := rt_behind2 q q'
    cases r' with
    | @enm _ n' nm' sg' vn' vv' hk' hn' hs' hl' hq' hr' =>
      obtain rfl := hn.symm.trans hn'
      obtain rfl : n = n' := hq.symm.trans hq'
      have hv : ∀ x, x < n → vn x = vn' x := fun x hx => ((hr x hx).uniq2 (hr' x hx)).1
      rw [← tm_behind_right _ u, ← tm_behind_right _ u']
      by_cases h1 : u.behind.kind = 6
      · have h1' : u'.behind.kind = 6 := by have := p.kind; have := p'.kind; omega
        revert p p'
        generalize u.behind = a at h1
        generalize u'.behind = b at h1'
        intro p p'
        cases p with
        | @enm _ m am asg an av k1 n1 s1 l1 q1 r1 =>
          cases p' with
          | @enm _ m' bm bsg bn bv k2 n2 s2 l2 q2 r2 =>
            obtain rfl := n1.symm.trans n2
            obtain rfl : m = m' := q1.symm.trans q2
            have hw : ∀ x, x < m → an x = bn x := fun x hx => ((r1 x hx).uniq2 (r2 x hx)).1
            have : (allB n fun i => anyB m fun j => vn i == an j && true) = (allB n fun i => anyB m fun j => vn' i == bn j && true) := allB_congr fun x hx => anyB_congr fun y hy => by rw [hv x hx, hw y hy]
            simp only [tm, Ty.behind, this]
          | @comp _ _ _ un => cases un <;> cases h1'
          | _ => cases h1'
        | @comp _ _ _ un => cases un <;> cases h1
        | _ => cases h1
      · rw [tm_kind (by rw [behind_idem]; exact fun e => h1 e.symm), tm_kind (by rw [behind_idem]; intro e; apply h1; have := p.kind; have := p'.kind; have e' : u'.behind.kind = 6 := e.symm; omega)]
    | @comp _ _ _ un _ _ _ _ _ _ hk' => cases un <;> (rw [hk] at hk'; simp at hk')
    | _ hk' => rw [hk] at hk'; simp at hk'
  | @comp i sz n un nm pn py pa pb pc hk hn hs hq hr r ih =>
    intro t' r' j u u' q q'
    obtain ⟨k, p, p'⟩ := rt_behind2 q q'
    cases r' with
    | @comp _ sz' n' un' nm' pn' py' pa' pb' pc' hk' hn' hs' hq' hr' r' =>
      obtain rfl := hn.symm.trans hn'
      obtain rfl : n = n' := hq.symm.trans hq'
      obtain rfl : un = un' := by have := hk.symm.trans hk'; cases un <;> cases un' <;> first | rfl | simp at this
      have hv : ∀ x, x < n → pn x = pn' x ∧ pc x = pc' x := fun x hx => by
        obtain ⟨e1, e2⟩ := (hr x hx).uniq2 (hr' x hx)
        simp only [Value.int.injEq, true_and] at e2
        exact ⟨e1, by omega⟩
      rw [← tm_behind_right _ u, ← tm_behind_right _ u']
      by_cases h1 : u.behind.kind = (Ty.comp un nm sz n pn py pa pb).kind
      · have h1' : u'.behind.kind = (Ty.comp un nm sz n pn py pa pb).kind := by have := p.kind; have := p'.kind; omega
        revert p p'
        generalize u.behind = a at h1
        generalize u'.behind = b at h1'
        intro p p'
        cases p with
        | @comp _ asz m aun am an ay aa ab ac k1 n1 s1 q1 r1 p =>
          cases p' with
          | @comp _ bsz m' bun bm bn byy ba bb bc k2 n2 s2 q2 r2 p' =>
            obtain rfl := n1.symm.trans n2
            obtain rfl : m = m' := q1.symm.trans q2
            obtain rfl : aun = bun := by have := k1.symm.trans k2; cases aun <;> cases bun <;> first | rfl | simp at this
            have hw : ∀ x, x < m → an x = bn x ∧ ac x = bc x := fun x hx => by
              obtain ⟨e1, e2⟩ := (r1 x hx).uniq2 (r2 x hx)
              simp only [Value.int.injEq, true_and] at e2
              exact ⟨e1, by omega⟩
            have : (allB n fun i => anyB m fun j => pn i == an j && tm (py i) (ay j)) = (allB n fun i => anyB m fun j => pn' i == bn j && tm (py' i) (byy j)) := allB_congr fun x hx => anyB_congr fun y hy => by
              rw [(hv x hx).1, (hw y hy).1]
              have e1 := r' x hx
              rw [← (hv x hx).2] at e1
              have e2 := p' y hy
              rw [← (hw y hy).2] at e2
              rw [ih x hx e1 (p y hy) e2]
            simp only [tm, Ty.behind, this]
          | int => cases aun <;> cases un <;> first | cases h1' | cases h1
          | ptr => cases aun <;> cases un <;> first | cases h1' | cases h1
          | arr => cases aun <;> cases un <;> first | cases h1' | cases h1
          | named => cases aun <;> cases un <;> first | cases h1' | cases h1
          | cst => cases aun <;> cases un <;> first | cases h1' | cases h1
          | enm => cases aun <;> cases un <;> first | cases h1' | cases h1
        | int => cases un <;> cases h1
        | ptr => cases un <;> cases h1
        | arr => cases un <;> cases h1
        | named => cases un <;> cases h1
        | cst => cases un <;> cases h1
        | enm => cases un <;> cases h1
      · have hb : (Ty.comp un nm sz n pn py pa pb).behind.kind = (Ty.comp un nm sz n pn py pa pb).kind := rfl
        have hb' : (Ty.comp un nm sz' n pn' py' pa' pb').behind.kind = (Ty.comp un nm sz n pn py pa pb).kind := rfl
        have k1 := p.kind
        have k2 := p'.kind
        rw [tm_kind (by rw [behind_idem, hb]; exact fun e => h1 e.symm), tm_kind (by rw [behind_idem, hb']; intro e; apply h1; omega)]
    | int hk' => cases un <;> (rw [hk] at hk'; simp at hk')
    | ptr hk' => cases un <;> (rw [hk] at hk'; simp at hk')
    | arr hk' => cases un <;> (rw [hk] at hk'; simp at hk')
    | named hk' => cases un <;> (rw [hk] at hk'; simp at hk')
    | cst hk' => cases un <;> (rw [hk] at hk'; simp at hk')
    | enm hk' => cases un <;> (rw [hk] at hk'; simp at hk')
end Go.Proofs.YtfilbgmbmlmdbaaGreatDoor

namespace Go.Proofs.YtfilbgmbmlmdbaaGreatDoor
open Go.RowKit Go.MapKept

/-- Both sides of a comparison: what was built. -/
structure Two where
  n1 : Nat
  n2 : Nat
  f1 : Nat → RowD
  f2 : Nat → RowD
  og1 : Nat
  og2 : Nat
  pt1 : Nat → TypeId
  pt2 : Nat → TypeId
  ob1 : Nat → Nat
  ob2 : Nat → Nat
structure Two.In (T : Two) (w : World) : Prop where
  h1 : Outs w T.n1 T.f1 T.og1 T.pt1 T.ob1
  h2 : Outs w T.n2 T.f2 T.og2 T.pt2 T.ob2
  p1 : Peels T.n1 T.f1
  p2 : Peels T.n2 T.f2
theorem Two.In.ck {T : Two} {w w' : World} (h : T.In w) (hc : CellsKept w w') : T.In w' := ⟨h.h1.ck hc, h.h2.ck hc, h.p1, h.p2⟩
def Two.pair (T : Two) (i j : Nat) : Value := .agg #[objAt T.pt1 T.ob1 i, objAt T.pt2 T.ob2 j]
theorem Two.In.inj {T : Two} {w : World} (h : T.In w) {i j i' j' : Nat} (hi : i < T.n1) (hj : j < T.n2) (hi' : i' < T.n1) (hj' : j' < T.n2) (e : T.pair i j = T.pair i' j') : i = i' ∧ j = j' := by
  have one : ∀ {n og : Nat} {f : Nat → RowD} {pt : Nat → TypeId} {ob : Nat → Nat}, Outs w n f og pt ob → ∀ {x y}, x < n → y < n → ob (x + 1) = ob (y + 1) → x = y := fun h x y hx hy e => by
    rcases Nat.lt_trichotomy x y with q | q | q
    · have := h.inj x y q hy; omega
    · exact q
    · have := h.inj y x q hx; omega
  simp only [Two.pair, objAt, Value.agg.injEq, Array.mk.injEq, List.cons.injEq, Value.iface.injEq, Value.pointer.injEq, Option.some.injEq, Addr.mk.injEq, and_true] at e
  exact ⟨one h.h1 hi hi' e.1.2, one h.h2 hj hj' e.2.2⟩
/-- What a map of what was met says: only what stands in S. -/
structure MapIn (T : Two) (w : World) (S : Nat → Nat → Prop) (mb : Nat) (m : Value → Option Value) : Prop where
  mp : IsMapOf w mb m
  keys : ∀ x u, m x = some u → PairKey w x ∧ u = .agg #[]
  says : ∀ i j, i < T.n1 → j < T.n2 → ∀ u, m (T.pair i j) = some u → S i j
def Vis (T : Two) (w : World) (S : Nat → Nat → Prop) (mb : Nat) : Prop := ∃ m, MapIn T w S mb m
theorem MapIn.met {T : Two} {w : World} {S : Nat → Nat → Prop} {mb : Nat} {m : Value → Option Value} (h : MapIn T w S mb m) : Met w mb := ⟨⟨m, h.mp, h.keys⟩⟩
theorem MapIn.below {T : Two} {w w' : World} {S : Nat → Nat → Prop} {mb : Nat} {m : Value → Option Value} (h : MapIn T w S mb m) (hb : Below w.heap.size w w') : MapIn T w' S mb m :=
  ⟨h.mp.of_eq (hb.block mb h.mp.lt), fun x u hx => ⟨(h.keys x u hx).1.ck (CellsKept.below hb), (h.keys x u hx).2⟩, h.says⟩
theorem Vis.below {T : Two} {w w' : World} {S : Nat → Nat → Prop} {mb : Nat} (h : Vis T w S mb) (hb : Below w.heap.size w w') : Vis T w' S mb := by obtain ⟨m, h⟩ := h; exact ⟨m, h.below hb⟩
theorem Vis.mono {T : Two} {w : World} {S S' : Nat → Nat → Prop} {mb : Nat} (h : Vis T w S mb) (hs : ∀ i j, S i j → S' i j) : Vis T w S' mb := by
  obtain ⟨m, h⟩ := h; exact ⟨m, h.mp, h.keys, fun i j hi hj u hu => hs _ _ (h.says i j hi hj u hu)⟩
theorem MapIn.more {T : Two} {w w' : World} {S : Nat → Nat → Prop} {mb : Nat} {m : Value → Option Value} (h : MapIn T w S mb m) (hT : T.In w) {i j : Nat} (hi : i < T.n1) (hj : j < T.n2) (hc : CellsKept w w')
    (hm : ∀ m' : Value → Option Value, m' (T.pair i j) = some (.agg #[]) → (∀ y, y ≠ T.pair i j → m' y = m y) → IsMapOf w' mb m') : Vis T w' (fun x y => S x y ∨ (x = i ∧ y = j)) mb := by
  refine ⟨moreKey m (T.pair i j) (.agg #[]), hm _ (moreKey_at _ _ _) (moreKey_ne _ _ _), fun y u hy => ?_, fun x y hx hy u hu => ?_⟩
  · by_cases e : y = T.pair i j
    · rw [e, moreKey_at] at hy
      exact ⟨e ▸ (hT.h1.pairKey hT.h2 hi hj).ck hc, (Option.some.inj hy).symm⟩
    · rw [moreKey_ne _ _ _ _ e] at hy
      exact ⟨(h.keys y u hy).1.ck hc, (h.keys y u hy).2⟩
  · by_cases e : T.pair x y = T.pair i j
    · exact .inr (hT.inj hx hy hi hj e)
    · rw [moreKey_ne _ _ _ _ e] at hu
      exact .inl (h.says x y hx hy u hu)
/-- What a call leaves, of a map that it was given or of none. -/
structure ExtV (mv : Value) (w w' : World) : Prop where
  nil : mv = .map none → Below w.heap.size w w'
  had : ∀ mb, mv = .map (some mb) → ButMap mb w w'
/-- Behind the entry of one's own pair. -/
structure Aft (T : Two) (w0 : World) (mv : Value) (mb : Nat) (S : Nat → Nat → Prop) (w : World) : Prop where
  vis : Vis T w S mb
  but : ButMap mb w0 w
  whose : mv = .map (some mb) ∨ (mv = .map none ∧ w0.heap.size ≤ mb)
  kept : CellsKept w0 w
theorem Aft.below {T : Two} {w0 w w' : World} {mv : Value} {mb : Nat} {S : Nat → Nat → Prop} (h : Aft T w0 mv mb S w) (hb : Below w.heap.size w w') : Aft T w0 mv mb S w' :=
  ⟨h.vis.below hb, h.but.below hb, h.whose, h.kept.trans (CellsKept.below hb)⟩
theorem ButMap.trans {mb : Nat} {w w1 w2 : World} (h : ButMap mb w w1) (h' : ButMap mb w1 w2) : ButMap mb w w2 :=
  ⟨h'.os.trans h.os, h'.tape.trans h.tape, h'.output.trans h.output, Nat.le_trans h.size h'.size, fun k hk hne => (h'.block k (Nat.lt_of_lt_of_le hk h.size) hne).trans (h.block k hk hne)⟩
theorem Aft.call {T : Two} {w0 w w' : World} {mv : Value} {mb : Nat} {S S' : Nat → Nat → Prop} (h : Aft T w0 mv mb S w) (hb : ButMap mb w w') (hv : Vis T w' S' mb) : Aft T w0 mv mb S' w' := by
  obtain ⟨m, hm⟩ := h.vis
  exact ⟨hv, h.but.trans hb, h.whose, h.kept.trans (hb.cells hm.met)⟩
theorem Aft.extCall {T : Two} {w0 w w' : World} {mv : Value} {mb : Nat} {S : Nat → Nat → Prop} (h : Aft T w0 mv mb S w) (hb : ButMap mb w w') : ExtV mv w0 w' := by
  have hB := h.but.trans hb
  rcases h.whose with rfl | ⟨rfl, hl⟩
  · exact ⟨fun e => (by cases e), fun mb' e => (by cases e; exact hB)⟩
  · exact ⟨fun _ => ⟨hB.os, hB.tape, hB.output, hB.size, fun k hk => hB.block k hk (by omega)⟩, fun mb' e => (by cases e)⟩
theorem Aft.ext {T : Two} {w0 w : World} {mv : Value} {mb : Nat} {S : Nat → Nat → Prop} (h : Aft T w0 mv mb S w) : ExtV mv w0 w := h.extCall (ButMap.refl _ _)
/-- Two rows whose types were told to match. -/
def Two.Done (T : Two) (i j : Nat) : Prop := ∃ t u, RT T.f1 i t ∧ RT T.f2 j u ∧ tm t u = true
/-- What a comparison gives. -/
def MRes (T : Two) (mv : Value) (S : Nat → Nat → Prop) (b : Bool) (ev : Value) (w : World) (e : Ending) (w' : World) : Prop :=
  ((b = true ∧ e = .returned .nilIface ∧ ∀ mb, mv = .map (some mb) → Vis T w' (fun i j => S i j ∨ T.Done i j) mb) ∨ (b = false ∧ e = .returned ev)) ∧ ExtV mv w w'
theorem Aft.yes {T : Two} {w0 w : World} {mv : Value} {mb : Nat} {S S' : Nat → Nat → Prop} {ev : Value} (h : Aft T w0 mv mb S' w) (hs : ∀ i j, S' i j → S i j ∨ T.Done i j) : MRes T mv S true ev w0 (.returned .nilIface) w := by
  refine ⟨.inl ⟨rfl, rfl, fun mb' e => ?_⟩, h.ext⟩
  rcases h.whose with rfl | ⟨rfl, _⟩
  · cases e; exact h.vis.mono hs
  · cases e
theorem Aft.no {T : Two} {w0 w : World} {mv : Value} {mb : Nat} {S S' : Nat → Nat → Prop} {ev : Value} (h : Aft T w0 mv mb S' w) : MRes T mv S false ev w0 (.returned ev) w := ⟨.inr ⟨rfl, rfl⟩, h.ext⟩
theorem ExtV.same (mv : Value) (w : World) : ExtV mv w w := ⟨fun _ => Below.refl _ _, fun _ _ => ButMap.refl _ _⟩
theorem ExtV.below {mv : Value} {w w' : World} (h : Below w.heap.size w w') : ExtV mv w w' := ⟨fun _ => h, fun _ _ => (ButMap.refl _ _).below h⟩
/-- The pair was not met yet. -/
def Unmet (T : Two) (w : World) (mv : Value) (S : Nat → Nat → Prop) (x : Value) : Prop := mv = .map none ∨ ∃ mb m, mv = .map (some mb) ∧ MapIn T w S mb m ∧ m x = none
theorem wpList_look_un {T : Two} {w : World} {mv : Value} {S : Nat → Nat → Prop} {x : Value} (h : Unmet T w mv S x) {ops : Array Oper} {rest : List Oper} {o : Oper} {a : Act} {Q : Exit → Act → World → Prop} (hg : o.guard = none) (mo xo : Operand) (hop : o.op = Op.lookup 157 mo xo true)
    (hm : a.eval mo = mv) (hx : a.eval xo = x) (hk : PairKey w x) (hK : wpList Tryz.prog ops Q rest (a.put o.dst (.tuple #[.agg #[], .bool false])) w) : wpList Tryz.prog ops Q (o :: rest) a w := by
  have hz : (zeroValue 99).run Tryz.prog w = .ok (.agg #[]) w := by simp
  rcases h with rfl | ⟨mb, m, rfl, hmi, hn⟩
  · exact wpList_look_nil hg mo xo hop Tryz.underlying157 hz (pair_keys w) hm x hx hk hK
  · exact wpList_look hg mo xo hop Tryz.underlying157 hz (pair_keys w) hm hmi.mp (fun y u hy => (hmi.keys y u hy).1) x hx hk none hn hK
theorem Unmet.test {T : Two} {w : World} {mv : Value} {S : Nat → Nat → Prop} {x : Value} (h : Unmet T w mv S x) :
    ∃ B : Bool, (∀ W, (eqGuard .eql 157 (.tmp 64) (.const (.map none)) mv (.map none)).run Tryz.prog W = .ok () W) ∧ (∀ W, (binOp .eql 157 mv (.map none)).run Tryz.prog W = .ok (.bool B) W) ∧ (B = true → mv = .map none) ∧ (B = false → ∃ mb m, mv = .map (some mb) ∧ MapIn T w S mb m ∧ m x = none) := by
  rcases h with rfl | ⟨mb, m, rfl, hmi, hn⟩
  · exact ⟨true, fun W => (by simp [eqGuard]), pairNilNil, fun _ => rfl, fun h => by cases h⟩
  · exact ⟨false, fun W => (by simp [eqGuard]), pairNotNil mb, (fun h => by cases h), fun _ => ⟨mb, m, rfl, hmi, hn⟩⟩
/-- Behind the test whether there is a map at all. -/
def Ready (T : Two) (w : World) (mv : Value) (S : Nat → Nat → Prop) (x : Value) (s2 : Value) (wx : World) : Prop :=
  ∃ mb m, s2 = .map (some mb) ∧ MapIn T wx S mb m ∧ m x = none ∧ ButMap mb w wx ∧ (mv = .map (some mb) ∨ (mv = .map none ∧ w.heap.size ≤ mb)) ∧ CellsKept w wx
theorem Ready.had {T : Two} {w wx : World} {mb : Nat} {m : Value → Option Value} {S : Nat → Nat → Prop} {x : Value} (hm : MapIn T w S mb m) (hn : m x = none) (hb : Below w.heap.size w wx) : Ready T w (.map (some mb)) S x (.map (some mb)) wx :=
  ⟨mb, m, rfl, hm.below hb, hn, (ButMap.refl _ _).below hb, .inl rfl, CellsKept.below hb⟩
theorem Ready.made {T : Two} {w w1 : World} {S : Nat → Nat → Prop} {x : Value} {sz : Nat} (hz : sz = w1.heap.size) (hb : Below w.heap.size w w1) : Ready T w (.map none) S x (.map (some sz)) (w1.alloc (.map #[] 0)) := by
  subst hz
  exact ⟨w1.heap.size, fun _ => none, rfl, ⟨IsMapOf.made w1, fun _ _ h => (by cases h), fun _ _ _ _ _ h => (by cases h)⟩, rfl, (ButMap.refl _ _).below (hb.alloc hb.size _), .inr ⟨rfl, hb.size⟩, CellsKept.below (hb.alloc hb.size _)⟩
theorem Ready.entered {T : Two} {w wx w2 : World} {mv : Value} {S : Nat → Nat → Prop} {mb i j : Nat} {m : Value → Option Value} {x : Value} (hT : T.In w) (hi : i < T.n1) (hj : j < T.n2) (hp : T.pair i j = x) (hmi : MapIn T wx S mb m) (hbm : ButMap mb w wx)
    (hwh : mv = .map (some mb) ∨ (mv = .map none ∧ w.heap.size ≤ mb)) (hck : CellsKept w wx) (hg : wx.grownBy w2 (some mb)) (hm : ∀ m' : Value → Option Value, m' x = some (.agg #[]) → (∀ y, y ≠ x → m' y = m y) → IsMapOf w2 mb m') :
    Aft T w mv mb (fun x y => S x y ∨ (x = i ∧ y = j)) w2 := by
  have hc := ((ButMap.refl mb wx).store hg).cells hmi.met
  subst hp
  exact ⟨hmi.more (hT.ck hck) hi hj hc hm, hbm.store hg, hwh, hck.trans hc⟩
end Go.Proofs.YtfilbgmbmlmdbaaGreatDoor

namespace Go.Proofs.YtfilbgmbmlmdbaaGreatDoor
open Go.RowKit Go.MapKept

theorem lackCInt (v : Value) (W : World) : (Instr.typeAssert (.iface 151 v) 77 177 true).run Tryz.prog W = .ok (.tuple #[.nilIface, .bool false]) W := run_typeAssert_lacksB Tryz.underlying177 (by kernel_rfl) (by kernel_rfl) v _ W
theorem lackCPointer (v : Value) (W : World) : (Instr.typeAssert (.iface 164 v) 77 177 true).run Tryz.prog W = .ok (.tuple #[.nilIface, .bool false]) W := run_typeAssert_lacksB Tryz.underlying177 (by kernel_rfl) (by kernel_rfl) v _ W
theorem lackCArray (v : Value) (W : World) : (Instr.typeAssert (.iface 167 v) 77 177 true).run Tryz.prog W = .ok (.tuple #[.nilIface, .bool false]) W := run_typeAssert_lacksB Tryz.underlying177 (by kernel_rfl) (by kernel_rfl) v _ W
theorem hasCStruct (v : Value) (W : World) : (Instr.typeAssert (.iface 162 v) 77 177 true).run Tryz.prog W = .ok (.tuple #[.iface 162 v, .bool true]) W := run_typeAssert_hasB Tryz.underlying177 (by kernel_rfl) v _ W
section
variable {T : Two} {w : World} {x y : Value} {b c i j : Nat} {mv : Value} {S : Nat → Nat → Prop} {a : Addr}
set_option linter.unusedSimpArgs false in
set_option maxRecDepth 100000 in
set_option maxHeartbeats 8000000 in
theorem core_Int {nm1 nm2 : ByteArray} {s1 s2 : Int} {g1 g2 : Bool}
    (hT : T.In w) (hi : i < T.n1) (hj : j < T.n2) (hpair : T.pair i j = .agg #[.iface 151 (.pointer (some ⟨b, 0, none⟩)), .iface 151 (.pointer (some ⟨c, 0, none⟩))])
    (hU1 : Calls Tryz.prog 65 #[x] w fun e w' => e = .returned (.iface 151 (.pointer (some ⟨b, 0, none⟩))) ∧ w' = w)
    (hU2 : Calls Tryz.prog 65 #[y] w fun e w' => e = .returned (.iface 151 (.pointer (some ⟨c, 0, none⟩))) ∧ w' = w)
    (hZ1 : Calls Tryz.prog 69 #[.iface 151 (.pointer (some ⟨b, 0, none⟩))] w fun e w' => e = .returned (.int .i64 2) ∧ w' = w)
    (hZ2 : Calls Tryz.prog 69 #[.iface 151 (.pointer (some ⟨c, 0, none⟩))] w fun e w' => e = .returned (.int .i64 2) ∧ w' = w)
    (hev : w.cell? ⟨3, 0, none⟩ = some (.iface 228 (.pointer (some a))))
    (hun : Unmet T w mv S (.agg #[.iface 151 (.pointer (some ⟨b, 0, none⟩)), .iface 151 (.pointer (some ⟨c, 0, none⟩))]))
    (x0 : w.cell? ⟨b, 0, none⟩ = some (.string nm1)) (y0 : w.cell? ⟨c, 0, none⟩ = some (.string nm2)) (l1 : nm1.size ≤ 2) (l2 : nm2.size ≤ 2)
    (x1 : w.cell? ⟨b, 1, none⟩ = some (.int .u32 s1)) (y1 : w.cell? ⟨c, 1, none⟩ = some (.int .u32 s2)) (x2 : w.cell? ⟨b, 2, none⟩ = some (.int .u8 (if g1 then 1 else 0))) (y2 : w.cell? ⟨c, 2, none⟩ = some (.int .u8 (if g2 then 1 else 0)))
    (he : ess nm1 nm2 = true) (hd : (s1 == s2 && g1 == g2) = true → T.Done i j) :
    Calls Tryz.prog 47 #[x, y, mv] w (MRes T mv S (s1 == s2 && g1 == g2) (.iface 228 (.pointer (some a))) w) := by
  have le := World.block_lt_of_cell? w _ hev
  simp only at le
  have hkey : PairKey w (.agg #[.iface 151 (.pointer (some ⟨b, 0, none⟩)), .iface 151 (.pointer (some ⟨c, 0, none⟩))]) := hpair ▸ hT.h1.pairKey hT.h2 hi hj
  have HT := Lib.hid hT
  have HU1 := Lib.hid hU1
  have HU2 := Lib.hid hU2
  have HZ1 := Lib.hid hZ1
  have HZ2 := Lib.hid hZ2
  obtain ⟨B, hEG, hB, hB1, hB0⟩ := hun.test
  have HB1 := Lib.hid hB1
  have HB0 := Lib.hid hB0
  have HUN := Lib.hid hun
  have HP := Lib.hid hpair
  clear hT hU1 hU2 hZ1 hZ2 hun hpair hB1 hB0
  go_enter Tryz.func47, Tryz.ntmps47
  go_wp2_with fail
  refine HU1.out.mono ?_
  rintro e w9 ⟨rfl, rfl⟩
  go_wp2_with fail
  refine HU2.out.mono ?_
  rintro e w8 ⟨rfl, rfl⟩
  go_wp2_with fail
  refine (name_Int _ _ _ x0).mono ?_
  rintro e w7 ⟨rfl, rfl⟩
  go_wp2_with fail
  refine (name_Int _ _ _ y0).mono ?_
  rintro e w6 ⟨rfl, rfl⟩
  go_wp2_with fail
  refine (names_any _ _ _ (by first | assumption | decide) (by first | assumption | decide)).mono ?_
  rintro e w5 ⟨rfl, rfl⟩
  rw [he]
  have HD := Lib.hid hd
  clear hd
  go_wp2_with fail
  refine HZ1.out.mono ?_
  rintro e w4 ⟨rfl, rfl⟩
  go_wp2_with fail
  refine HZ2.out.mono ?_
  rintro e w3 ⟨rfl, rfl⟩
  go_upto_if 65 with (at_lookup; refine wpList_look_un HUN.out rfl _ _ rfl rfl rfl hkey ?_)
  have hmm := @run_makeMap Tryz.prog
  go_cut [2] (fun s2 wx => Hid (Ready T w3 mv S (T.pair i j) s2 wx))
  case first =>
    cases B with
    | true =>
      have hmv := HB1.out rfl
      go_wp2_with fail
      go_meet
      refine Lib.hid ?_
      rw [hmv]
      exact Ready.made (by simp) ((Below.refl _ _).alloc (Nat.le_refl _) _)
    | false =>
      obtain ⟨mb, m, hmv, hmi, hn⟩ := HB0.out rfl
      go_wp2_with fail
      go_meet
      refine Lib.hid ?_
      rw [hmv]
      exact Ready.had hmi (by rw [HP.out]; exact hn) ((Below.refl _ _).alloc (Nat.le_refl _) _)
  case rest =>
    obtain ⟨mb, m, rfl, hmi, hn, hbm, hwh, hck⟩ := hcut.out
    rw [HP.out] at hn
    have hk1 := hkey.ck hck
    have K := pair_keys wc
    have hkeys := fun x u h => (hmi.keys x u h).1
    go_upto_region 13 with (at_mapUpdate; refine wpList_store rfl _ _ _ rfl Tryz.underlying157 K rfl hmi.mp hkeys _ (.agg #[]) rfl rfl hk1 hn ?_; intro w2 hg hs hm2)
    have AF := Lib.hid (Ready.entered HT.out hi hj HP.out hmi hbm hwh hck hg hm2)
    clear hmi hn hbm hwh hck hk1 K hkeys hg hs hm2 hcut
    have kx1 := AF.out.kept.cell x1
    have ky1 := AF.out.kept.cell y1
    have kx2 := AF.out.kept.cell x2
    have ky2 := AF.out.kept.cell y2
    have q0 := taNoVoid 151 (by decide)
    have q1 := taNoFwd 151 (by decide)
    have q2 := taNoEnum 151 (by decide)
    have q3 := lackCInt
    have q4 := @ta_yes _ _ Tryz.underlying151
    have q5 := @taStrict _ _ Tryz.underlying151
    go_wp2_with fail
    refine (encoding_any _ b c s1 s2 g1 g2 kx1 ky1 kx2 ky2).mono ?_
    rintro e w1 ⟨rfl, hb1⟩
    have AF1 := Lib.hid (AF.out.below hb1)
    clear hb1 kx1 ky1 kx2 ky2 AF
    cases hr : (s1 == s2 && g1 == g2) with
    | true =>
      have hd := HD.out hr
      have Hr := Lib.hid hr
      clear hr
      go_wp2_with fail
      go_ret
      rw [Hr.out]
      exact AF1.out.yes fun x y h => h.imp id fun h => by rw [h.1, h.2]; exact hd
    | false =>
      have Hr := Lib.hid hr
      clear hr
      have hev1 := AF1.out.kept.cell hev
      have le1 := Nat.lt_of_lt_of_le le AF1.out.kept.size
      go_wp2_with fail
      go_ret
      rw [Hr.out]
      exact AF1.out.no
end
end Go.Proofs.YtfilbgmbmlmdbaaGreatDoor
