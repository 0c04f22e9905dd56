/- The number of what a type of a list is behind its names and qualifiers, of a kind. -/
import Derived.Test.YtfilbgmbmlmdbaaAsE
import Derived.Test.YtfilbgmbmlmdbaaAsD
import Derived.Test.YtfilbgmbmlmdbaaAsC
namespace Go.Proofs.Ytfilbgmbmlmdbaa
open Go.RowKit

/-- What is told of a row's type as one of a kind. -/
def AsSaid (kT : Int) (f : Nat → RowD) (t n : Nat) (e : Ending) : Prop :=
  match asRow kT f t with
  | some r => r < n ∧ e = .returned (.tuple #[.int .i64 ((r : Int) + 1), .bool true])
  | none => e = .returned (.tuple #[.int .i64 0, .bool false])
theorem asSaid_none {kT : Int} {f : Nat → RowD} {t n : Nat} (hr : asRow kT f t = none) : AsSaid kT f t n (.returned (.tuple #[.int .i64 0, .bool false])) := by
  unfold AsSaid; rw [hr]
theorem asSaid_some {kT : Int} {f : Nat → RowD} {t n r : Nat} (hr : asRow kT f t = some r) (hrn : r < n) : AsSaid kT f t n (.returned (.tuple #[.int .i64 ((r : Int) + 1), .bool true])) := by
  unfold AsSaid; rw [hr]; exact ⟨hrn, rfl⟩

set_option maxRecDepth 100000 in
set_option maxHeartbeats 4000000 in
theorem as_Int (w : World) (n og t : Nat) (f : Nat → RowD) (pt : Nat → TypeId) (ob : Nat → Nat) (h : Outs w n f og pt ob) (ht : t < n) (hn : n ≤ 1000000) (hpl : (f t).k = 8 ∨ (f t).k = 10 → ∃ j, j < n ∧ (f t).of = j + 1 ∧ (f j).k = 1) :
    Calls Try.prog 12 #[.slice (some ⟨og, 0, none⟩) n n, .iface (pt (t + 1)) (.pointer (some ⟨ob (t + 1), 0, none⟩))] w fun e w' => w' = w ∧ AsSaid 1 f t n e := by
  go_enter Try.func12, Try.ntmps12
  go_wp2_with fail
  refine (As_Int w n og t f pt ob h ht hpl).mono ?_
  rintro e w1 ⟨rfl, hs⟩
  cases hr : asRow 1 f t with
  | none =>
    rw [hr] at hs
    simp only at hs
    subst hs
    go_wp2_with fail
    go_ret2
    exact ⟨rfl, asSaid_none hr⟩
  | some r =>
    rw [hr] at hs
    obtain ⟨hrn, hpr, rfl⟩ := hs
    go_wp2_with fail
    refine (hpr ▸ numberOf_any _ n og r f pt ob h hrn hn).mono ?_
    rintro e w2 ⟨rfl, rfl⟩
    go_wp2_with fail
    go_ret2
    exact ⟨rfl, asSaid_some hr hrn⟩

set_option maxRecDepth 100000 in
set_option maxHeartbeats 4000000 in
theorem as_Pointer (w : World) (n og t : Nat) (f : Nat → RowD) (pt : Nat → TypeId) (ob : Nat → Nat) (h : Outs w n f og pt ob) (ht : t < n) (hn : n ≤ 1000000) (hpl : (f t).k = 8 ∨ (f t).k = 10 → ∃ j, j < n ∧ (f t).of = j + 1 ∧ (f j).k = 1) :
    Calls Try.prog 13 #[.slice (some ⟨og, 0, none⟩) n n, .iface (pt (t + 1)) (.pointer (some ⟨ob (t + 1), 0, none⟩))] w fun e w' => w' = w ∧ AsSaid 2 f t n e := by
  go_enter Try.func13, Try.ntmps13
  go_wp2_with fail
  refine (As_Pointer w n og t f pt ob h ht hpl).mono ?_
  rintro e w1 ⟨rfl, hs⟩
  cases hr : asRow 2 f t with
  | none =>
    rw [hr] at hs
    simp only at hs
    subst hs
    go_wp2_with fail
    go_ret2
    exact ⟨rfl, asSaid_none hr⟩
  | some r =>
    rw [hr] at hs
    obtain ⟨hrn, hpr, rfl⟩ := hs
    go_wp2_with fail
    refine (hpr ▸ numberOf_any _ n og r f pt ob h hrn hn).mono ?_
    rintro e w2 ⟨rfl, rfl⟩
    go_wp2_with fail
    go_ret2
    exact ⟨rfl, asSaid_some hr hrn⟩

set_option maxRecDepth 100000 in
set_option maxHeartbeats 4000000 in
theorem as_Array (w : World) (n og t : Nat) (f : Nat → RowD) (pt : Nat → TypeId) (ob : Nat → Nat) (h : Outs w n f og pt ob) (ht : t < n) (hn : n ≤ 1000000) (hpl : (f t).k = 8 ∨ (f t).k = 10 → ∃ j, j < n ∧ (f t).of = j + 1 ∧ (f j).k = 1) :
    Calls Try.prog 14 #[.slice (some ⟨og, 0, none⟩) n n, .iface (pt (t + 1)) (.pointer (some ⟨ob (t + 1), 0, none⟩))] w fun e w' => w' = w ∧ AsSaid 3 f t n e := by
  go_enter Try.func14, Try.ntmps14
  go_wp2_with fail
  refine (As_Array w n og t f pt ob h ht hpl).mono ?_
  rintro e w1 ⟨rfl, hs⟩
  cases hr : asRow 3 f t with
  | none =>
    rw [hr] at hs
    simp only at hs
    subst hs
    go_wp2_with fail
    go_ret2
    exact ⟨rfl, asSaid_none hr⟩
  | some r =>
    rw [hr] at hs
    obtain ⟨hrn, hpr, rfl⟩ := hs
    go_wp2_with fail
    refine (hpr ▸ numberOf_any _ n og r f pt ob h hrn hn).mono ?_
    rintro e w2 ⟨rfl, rfl⟩
    go_wp2_with fail
    go_ret2
    exact ⟨rfl, asSaid_some hr hrn⟩

set_option maxRecDepth 100000 in
set_option maxHeartbeats 4000000 in
theorem as_Struct (w : World) (n og t : Nat) (f : Nat → RowD) (pt : Nat → TypeId) (ob : Nat → Nat) (h : Outs w n f og pt ob) (ht : t < n) (hn : n ≤ 1000000) (hpl : (f t).k = 8 ∨ (f t).k = 10 → ∃ j, j < n ∧ (f t).of = j + 1 ∧ (f j).k = 1) :
    Calls Try.prog 15 #[.slice (some ⟨og, 0, none⟩) n n, .iface (pt (t + 1)) (.pointer (some ⟨ob (t + 1), 0, none⟩))] w fun e w' => w' = w ∧ AsSaid 4 f t n e := by
  go_enter Try.func15, Try.ntmps15
  go_wp2_with fail
  refine (As_Struct w n og t f pt ob h ht hpl).mono ?_
  rintro e w1 ⟨rfl, hs⟩
  cases hr : asRow 4 f t with
  | none =>
    rw [hr] at hs
    simp only at hs
    subst hs
    go_wp2_with fail
    go_ret2
    exact ⟨rfl, asSaid_none hr⟩
  | some r =>
    rw [hr] at hs
    obtain ⟨hrn, hpr, rfl⟩ := hs
    go_wp2_with fail
    refine (hpr ▸ numberOf_any _ n og r f pt ob h hrn hn).mono ?_
    rintro e w2 ⟨rfl, rfl⟩
    go_wp2_with fail
    go_ret2
    exact ⟨rfl, asSaid_some hr hrn⟩

set_option maxRecDepth 100000 in
set_option maxHeartbeats 4000000 in
theorem as_Union (w : World) (n og t : Nat) (f : Nat → RowD) (pt : Nat → TypeId) (ob : Nat → Nat) (h : Outs w n f og pt ob) (ht : t < n) (hn : n ≤ 1000000) (hpl : (f t).k = 8 ∨ (f t).k = 10 → ∃ j, j < n ∧ (f t).of = j + 1 ∧ (f j).k = 1) :
    Calls Try.prog 16 #[.slice (some ⟨og, 0, none⟩) n n, .iface (pt (t + 1)) (.pointer (some ⟨ob (t + 1), 0, none⟩))] w fun e w' => w' = w ∧ AsSaid 5 f t n e := by
  go_enter Try.func16, Try.ntmps16
  go_wp2_with fail
  refine (As_Union w n og t f pt ob h ht hpl).mono ?_
  rintro e w1 ⟨rfl, hs⟩
  cases hr : asRow 5 f t with
  | none =>
    rw [hr] at hs
    simp only at hs
    subst hs
    go_wp2_with fail
    go_ret2
    exact ⟨rfl, asSaid_none hr⟩
  | some r =>
    rw [hr] at hs
    obtain ⟨hrn, hpr, rfl⟩ := hs
    go_wp2_with fail
    refine (hpr ▸ numberOf_any _ n og r f pt ob h hrn hn).mono ?_
    rintro e w2 ⟨rfl, rfl⟩
    go_wp2_with fail
    go_ret2
    exact ⟨rfl, asSaid_some hr hrn⟩

set_option maxRecDepth 100000 in
set_option maxHeartbeats 4000000 in
theorem as_Enum (w : World) (n og t : Nat) (f : Nat → RowD) (pt : Nat → TypeId) (ob : Nat → Nat) (h : Outs w n f og pt ob) (ht : t < n) (hn : n ≤ 1000000) (hpl : (f t).k = 8 ∨ (f t).k = 10 → ∃ j, j < n ∧ (f t).of = j + 1 ∧ (f j).k = 1) :
    Calls Try.prog 17 #[.slice (some ⟨og, 0, none⟩) n n, .iface (pt (t + 1)) (.pointer (some ⟨ob (t + 1), 0, none⟩))] w fun e w' => w' = w ∧ AsSaid 6 f t n e := by
  go_enter Try.func17, Try.ntmps17
  go_wp2_with fail
  refine (As_Enum w n og t f pt ob h ht hpl).mono ?_
  rintro e w1 ⟨rfl, hs⟩
  cases hr : asRow 6 f t with
  | none =>
    rw [hr] at hs
    simp only at hs
    subst hs
    go_wp2_with fail
    go_ret2
    exact ⟨rfl, asSaid_none hr⟩
  | some r =>
    rw [hr] at hs
    obtain ⟨hrn, hpr, rfl⟩ := hs
    go_wp2_with fail
    refine (hpr ▸ numberOf_any _ n og r f pt ob h hrn hn).mono ?_
    rintro e w2 ⟨rfl, rfl⟩
    go_wp2_with fail
    go_ret2
    exact ⟨rfl, asSaid_some hr hrn⟩

set_option maxRecDepth 100000 in
set_option maxHeartbeats 4000000 in
theorem as_Typedef (w : World) (n og t : Nat) (f : Nat → RowD) (pt : Nat → TypeId) (ob : Nat → Nat) (h : Outs w n f og pt ob) (ht : t < n) (hn : n ≤ 1000000) (hpl : (f t).k = 8 ∨ (f t).k = 10 → ∃ j, j < n ∧ (f t).of = j + 1 ∧ (f j).k = 1) :
    Calls Try.prog 18 #[.slice (some ⟨og, 0, none⟩) n n, .iface (pt (t + 1)) (.pointer (some ⟨ob (t + 1), 0, none⟩))] w fun e w' => w' = w ∧ AsSaid 8 f t n e := by
  go_enter Try.func18, Try.ntmps18
  go_wp2_with fail
  refine (As_Typedef w n og t f pt ob h ht hpl).mono ?_
  rintro e w1 ⟨rfl, hs⟩
  cases hr : asRow 8 f t with
  | none =>
    rw [hr] at hs
    simp only at hs
    subst hs
    go_wp2_with fail
    go_ret2
    exact ⟨rfl, asSaid_none hr⟩
  | some r =>
    rw [hr] at hs
    obtain ⟨hrn, hpr, rfl⟩ := hs
    go_wp2_with fail
    refine (hpr ▸ numberOf_any _ n og r f pt ob h hrn hn).mono ?_
    rintro e w2 ⟨rfl, rfl⟩
    go_wp2_with fail
    go_ret2
    exact ⟨rfl, asSaid_some hr hrn⟩

set_option maxRecDepth 100000 in
set_option maxHeartbeats 4000000 in
theorem AsKind_any (w : World) (n cap g t : Nat) (kT : Int) (xs : List Value) (Dx : Nat → Prop) (f : Nat → RowD) (ho : w.ownsRow 0 28 8 (.slice (some ⟨g, 0, none⟩) n cap) n xs) (hn : n ≤ 1000000) (hf : ∀ i, i < n → FitsD w Dx xs n i (f i)) (ht : t < n)
    (hpl : (f t).k = 8 ∨ (f t).k = 10 → ∃ j, j < n ∧ (f t).of = j + 1 ∧ (f j).k = 1) (hk : kT = 1 ∨ kT = 2 ∨ kT = 3 ∨ kT = 4 ∨ kT = 5 ∨ kT = 6 ∨ kT = 8) :
    Calls Try.prog 6 #[.slice (some ⟨g, 0, none⟩) n cap, .int .i64 ((t : Int) + 1), .int .i64 kT] w fun e w' => Below w.heap.size w w' ∧ AsSaid kT f t n e := by
  rcases hk with rfl | rfl | rfl | rfl | rfl | rfl | rfl
  · go_enter Try.func6, Try.ntmps6
    go_wp2_with fail
    refine (one_any w n cap g t xs Dx f ho hn hf ht).mono ?_
    rintro e w1 ⟨og, pt, ob, rfl, hout, hb⟩
    go_wp2_with fail
    refine (as_Int w1 n og t f pt ob hout ht hn hpl).mono ?_
    rintro e w2 ⟨rfl, hs⟩
    unfold AsSaid at hs
    cases hr : asRow 1 f t with
    | none =>
      rw [hr] at hs
      simp only at hs
      subst hs
      go_wp2_with fail
      go_ret2
      exact ⟨hb, asSaid_none hr⟩
    | some r =>
      rw [hr] at hs
      obtain ⟨hrn, rfl⟩ := hs
      go_wp2_with fail
      go_ret2
      exact ⟨hb, asSaid_some hr hrn⟩
  · go_enter Try.func6, Try.ntmps6
    go_wp2_with fail
    refine (one_any w n cap g t xs Dx f ho hn hf ht).mono ?_
    rintro e w1 ⟨og, pt, ob, rfl, hout, hb⟩
    go_wp2_with fail
    refine (as_Pointer w1 n og t f pt ob hout ht hn hpl).mono ?_
    rintro e w2 ⟨rfl, hs⟩
    unfold AsSaid at hs
    cases hr : asRow 2 f t with
    | none =>
      rw [hr] at hs
      simp only at hs
      subst hs
      go_wp2_with fail
      go_ret2
      exact ⟨hb, asSaid_none hr⟩
    | some r =>
      rw [hr] at hs
      obtain ⟨hrn, rfl⟩ := hs
      go_wp2_with fail
      go_ret2
      exact ⟨hb, asSaid_some hr hrn⟩
  · go_enter Try.func6, Try.ntmps6
    go_wp2_with fail
    refine (one_any w n cap g t xs Dx f ho hn hf ht).mono ?_
    rintro e w1 ⟨og, pt, ob, rfl, hout, hb⟩
    go_wp2_with fail
    refine (as_Array w1 n og t f pt ob hout ht hn hpl).mono ?_
    rintro e w2 ⟨rfl, hs⟩
    unfold AsSaid at hs
    cases hr : asRow 3 f t with
    | none =>
      rw [hr] at hs
      simp only at hs
      subst hs
      go_wp2_with fail
      go_ret2
      exact ⟨hb, asSaid_none hr⟩
    | some r =>
      rw [hr] at hs
      obtain ⟨hrn, rfl⟩ := hs
      go_wp2_with fail
      go_ret2
      exact ⟨hb, asSaid_some hr hrn⟩
  · go_enter Try.func6, Try.ntmps6
    go_wp2_with fail
    refine (one_any w n cap g t xs Dx f ho hn hf ht).mono ?_
    rintro e w1 ⟨og, pt, ob, rfl, hout, hb⟩
    go_wp2_with fail
    refine (as_Struct w1 n og t f pt ob hout ht hn hpl).mono ?_
    rintro e w2 ⟨rfl, hs⟩
    unfold AsSaid at hs
    cases hr : asRow 4 f t with
    | none =>
      rw [hr] at hs
      simp only at hs
      subst hs
      go_wp2_with fail
      go_ret2
      exact ⟨hb, asSaid_none hr⟩
    | some r =>
      rw [hr] at hs
      obtain ⟨hrn, rfl⟩ := hs
      go_wp2_with fail
      go_ret2
      exact ⟨hb, asSaid_some hr hrn⟩
  · go_enter Try.func6, Try.ntmps6
    go_wp2_with fail
    refine (one_any w n cap g t xs Dx f ho hn hf ht).mono ?_
    rintro e w1 ⟨og, pt, ob, rfl, hout, hb⟩
    go_wp2_with fail
    refine (as_Union w1 n og t f pt ob hout ht hn hpl).mono ?_
    rintro e w2 ⟨rfl, hs⟩
    unfold AsSaid at hs
    cases hr : asRow 5 f t with
    | none =>
      rw [hr] at hs
      simp only at hs
      subst hs
      go_wp2_with fail
      go_ret2
      exact ⟨hb, asSaid_none hr⟩
    | some r =>
      rw [hr] at hs
      obtain ⟨hrn, rfl⟩ := hs
      go_wp2_with fail
      go_ret2
      exact ⟨hb, asSaid_some hr hrn⟩
  · go_enter Try.func6, Try.ntmps6
    go_wp2_with fail
    refine (one_any w n cap g t xs Dx f ho hn hf ht).mono ?_
    rintro e w1 ⟨og, pt, ob, rfl, hout, hb⟩
    go_wp2_with fail
    refine (as_Enum w1 n og t f pt ob hout ht hn hpl).mono ?_
    rintro e w2 ⟨rfl, hs⟩
    unfold AsSaid at hs
    cases hr : asRow 6 f t with
    | none =>
      rw [hr] at hs
      simp only at hs
      subst hs
      go_wp2_with fail
      go_ret2
      exact ⟨hb, asSaid_none hr⟩
    | some r =>
      rw [hr] at hs
      obtain ⟨hrn, rfl⟩ := hs
      go_wp2_with fail
      go_ret2
      exact ⟨hb, asSaid_some hr hrn⟩
  · go_enter Try.func6, Try.ntmps6
    go_wp2_with fail
    refine (one_any w n cap g t xs Dx f ho hn hf ht).mono ?_
    rintro e w1 ⟨og, pt, ob, rfl, hout, hb⟩
    go_wp2_with fail
    refine (as_Typedef w1 n og t f pt ob hout ht hn hpl).mono ?_
    rintro e w2 ⟨rfl, hs⟩
    unfold AsSaid at hs
    cases hr : asRow 8 f t with
    | none =>
      rw [hr] at hs
      simp only at hs
      subst hs
      go_wp2_with fail
      go_ret2
      exact ⟨hb, asSaid_none hr⟩
    | some r =>
      rw [hr] at hs
      obtain ⟨hrn, rfl⟩ := hs
      go_wp2_with fail
      go_ret2
      exact ⟨hb, asSaid_some hr hrn⟩
#print axioms AsKind_any
end Go.Proofs.Ytfilbgmbmlmdbaa
