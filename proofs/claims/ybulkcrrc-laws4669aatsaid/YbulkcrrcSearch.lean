import Derived.Test.YbulkcrrcSmall
namespace Go.Proofs.Ybulkcrrc
open Go.RowKit

/-- a table of symbols -/
structure Syms where
  nm : Nat → ByteArray
  va : Nat → Nat
  sz : Nat → Nat
/-- a table of placed ranges -/
structure Pls where
  st : Nat → Nat
  en : Nat → Nat
  sr : Nat → ByteArray

def SymRow (w : World) (g o n : Nat) (T : Syms) : Prop :=
  g < w.heap.size ∧ ∀ j, j < n → w.cell? ⟨g, o + j * 5, none⟩ = some (.string (T.nm j)) ∧ w.cell? ⟨g, o + j * 5 + 1, none⟩ = some (.int .i64 0) ∧ w.cell? ⟨g, o + j * 5 + 2, none⟩ = some (.int .i64 0) ∧
    w.cell? ⟨g, o + j * 5 + 3, none⟩ = some (.int .u64 (T.va j)) ∧ w.cell? ⟨g, o + j * 5 + 4, none⟩ = some (.int .u64 (T.sz j))

def PlRow (w : World) (g o n : Nat) (T : Pls) : Prop :=
  g < w.heap.size ∧ ∀ j, j < n → w.cell? ⟨g, o + j * 3, none⟩ = some (.int .u64 (T.st j)) ∧ w.cell? ⟨g, o + j * 3 + 1, none⟩ = some (.int .u64 (T.en j)) ∧ w.cell? ⟨g, o + j * 3 + 2, none⟩ = some (.string (T.sr j))

def SymIn (w : World) (a0 : Option Addr) (n : Nat) (T : Syms) : Prop := n = 0 ∨ ∃ g, a0 = some ⟨g, 0, none⟩ ∧ SymRow w g 0 n T
def PlIn (w : World) (a0 : Option Addr) (n : Nat) (T : Pls) : Prop := n = 0 ∨ ∃ g, a0 = some ⟨g, 0, none⟩ ∧ PlRow w g 0 n T

theorem SymRow.below {w w' : World} {g o n : Nat} {T : Syms} (r : SymRow w g o n T) {B : Nat} (hb : Below B w w') (h : g < B) : SymRow w' g o n T := by
  refine ⟨Nat.lt_of_lt_of_le r.1 hb.size, fun j hj => ?_⟩
  obtain ⟨h1, h2, h3, h4, h5⟩ := r.2 j hj
  exact ⟨(hb.cell (p := ⟨g, o + j * 5, none⟩) h).trans h1, (hb.cell (p := ⟨g, o + j * 5 + 1, none⟩) h).trans h2, (hb.cell (p := ⟨g, o + j * 5 + 2, none⟩) h).trans h3, (hb.cell (p := ⟨g, o + j * 5 + 3, none⟩) h).trans h4, (hb.cell (p := ⟨g, o + j * 5 + 4, none⟩) h).trans h5⟩
theorem PlRow.below {w w' : World} {g o n : Nat} {T : Pls} (r : PlRow w g o n T) {B : Nat} (hb : Below B w w') (h : g < B) : PlRow w' g o n T := by
  refine ⟨Nat.lt_of_lt_of_le r.1 hb.size, fun j hj => ?_⟩
  obtain ⟨h1, h2, h3⟩ := r.2 j hj
  exact ⟨(hb.cell (p := ⟨g, o + j * 3, none⟩) h).trans h1, (hb.cell (p := ⟨g, o + j * 3 + 1, none⟩) h).trans h2, (hb.cell (p := ⟨g, o + j * 3 + 2, none⟩) h).trans h3⟩
theorem SymIn.below {w w' : World} {a0 : Option Addr} {n : Nat} {T : Syms} (r : SymIn w a0 n T) (hb : Below w.heap.size w w') : SymIn w' a0 n T :=
  r.imp id fun ⟨g, h1, h2⟩ => ⟨g, h1, h2.below hb h2.1⟩
theorem PlIn.below {w w' : World} {a0 : Option Addr} {n : Nat} {T : Pls} (r : PlIn w a0 n T) (hb : Below w.heap.size w w') : PlIn w' a0 n T :=
  r.imp id fun ⟨g, h1, h2⟩ => ⟨g, h1, h2.below hb h2.1⟩

/-- the numbers grow -/
def Up (va : Nat → Nat) (n : Nat) : Prop := ∀ i j, i ≤ j → j < n → va i ≤ va j

/-- i splits the n numbers at a -/
def Split (va : Nat → Nat) (n a i : Nat) : Prop := i ≤ n ∧ (∀ j, j < i → va j ≤ a) ∧ (∀ j, i ≤ j → j < n → a < va j)

/-- what a search leaves -/
def Found (va : Nat → Nat) (n a : Nat) (w : World) (e : Ending) (w' : World) : Prop :=
  ∃ (i : Nat) (f : Bool), e = .returned (.tuple #[.int .i64 i, .bool f]) ∧ Split va n a i ∧ Below w.heap.size w w'

set_option maxHeartbeats 1000000 in
theorem searchSym_any (a0 : Option Addr) (n c a : Nat) (T : Syms) (w : World) (ht : Hid (SymIn w a0 n T)) (hn : n ≤ 600) (ha : a < 4294967296) (hu : Hid (Up T.va n)) :
    Calls Yba.prog 11 #[.slice a0 n c, .int .u64 a, .func (.func 12) #[] #[]] w fun e w' => Found T.va n a w e w' := by
  go_enter Yba.func11, Yba.ntmps11
  go_wp2
  go_loopw [9, 10] (fun i j wr => ∃ x y : Nat, x ≤ y ∧ y ≤ n ∧ i = .int .i64 x ∧ j = .int .i64 y ∧ Hid (∀ k, k < x → T.va k ≤ a) ∧ Hid (∀ k, y ≤ k → k < n → a < T.va k) ∧ Hid (Below w.heap.size w wr)) (fun i j _ => (intOf j).toNat - (intOf i).toNat)
  case atStart => exact ⟨0, n, Nat.zero_le _, Nat.le_refl _, rfl, rfl, fun k hk => by omega, fun k hk hk' => by omega, Below.refl _ _⟩
  case round =>
    obtain ⟨x, y, hxy, hy, rfl, rfl, hx1, hy1, hB⟩ := hrel
    by_cases hlt : x < y
    · obtain ⟨g, rfl, hr⟩ := ht.out.resolve_left (by omega)
      have hr' := hr.below hB.out hr.1
      obtain ⟨c1, c2, c3, c4, c5⟩ := hr'.2 ((x + y) / 2) (by omega)
      simp only [Nat.zero_add] at c1 c2 c3 c4 c5
      have hh : (x + y) / 2 < n := by omega
      have HU : Hid (∀ k, (T.va ((x + y) / 2) ≤ a → k < (x + y) / 2 + 1 → T.va k ≤ a) ∧ (a < T.va ((x + y) / 2) → (x + y) / 2 ≤ k → k < n → a < T.va k)) := fun k =>
        ⟨fun h1 h2 => Nat.le_trans (hu.out k _ (by omega) hh) h1, fun h1 h2 h3 => Nat.lt_of_lt_of_le h1 (hu.out _ k h2 h3)⟩
      clear hr hr' ht
      go_wp2_with (go_at_call 12; refine (cmpSym_any _ _ _ _ _ ha).mono ?_; rintro e w' ⟨z, rfl, hz, hb'⟩)
      · go_roundw
        case rel =>
          have hv : T.va ((x + y) / 2) ≤ a := hz.1 (by omega)
          exact ⟨(x + y) / 2 + 1, y, by omega, hy, by simp, rfl, fun k hk => (HU.out k).1 hv hk, hy1, hB.out.trans (hb'.mono hB.out.size)⟩
        case measure => simp [intOf]; omega
      · go_roundw
        case rel =>
          have hv : a < T.va ((x + y) / 2) := by omega
          exact ⟨x, (x + y) / 2, by omega, by omega, rfl, by simp, hx1, fun k h1 h2 => (HU.out k).2 hv h1 h2, hB.out.trans (hb'.mono hB.out.size)⟩
        case measure => simp [intOf]; omega
    · have e : x = y := by omega
      subst e
      by_cases hq : x < n
      · obtain ⟨g, rfl, hr⟩ := ht.out.resolve_left (by omega)
        have hr' := hr.below hB.out hr.1
        obtain ⟨c1, c2, c3, c4, c5⟩ := hr'.2 x hq
        simp only [Nat.zero_add] at c1 c2 c3 c4 c5
        clear hr hr' ht
        go_wp2_with (go_at_call 12; refine (cmpSym_any _ _ _ _ _ ha).mono ?_; rintro e w' ⟨z, rfl, hz, hb'⟩)
        refine bodyPost_ret (v := .tuple #[.int .i64 x, .bool (z == 0)]) ?_ rfl ?_
        · simp [results, Yba.results11, go_sem]
        · exact ⟨x, _, rfl, ⟨by omega, hx1.out, hy1.out⟩, hB.out.trans (hb'.mono hB.out.size)⟩
      · go_wp2
        refine bodyPost_ret (v := .tuple #[.int .i64 x, .bool false]) ?_ rfl ?_
        · simp [results, Yba.results11, go_sem]
        · exact ⟨x, false, rfl, ⟨by omega, hx1.out, hy1.out⟩, hB.out⟩
set_option maxHeartbeats 1000000 in
theorem searchPl_any (a0 : Option Addr) (n c a : Nat) (T : Pls) (w : World) (ht : Hid (PlIn w a0 n T)) (hn : n ≤ 600) (ha : a < 4294967296) (hu : Hid (Up T.st n)) :
    Calls Yba.prog 16 #[.slice a0 n c, .int .u64 a, .func (.func 17) #[] #[]] w fun e w' => Found T.st n a w e w' := by
  go_enter Yba.func16, Yba.ntmps16
  go_wp2
  go_loopw [9, 10] (fun i j wr => ∃ x y : Nat, x ≤ y ∧ y ≤ n ∧ i = .int .i64 x ∧ j = .int .i64 y ∧ Hid (∀ k, k < x → T.st k ≤ a) ∧ Hid (∀ k, y ≤ k → k < n → a < T.st k) ∧ Hid (Below w.heap.size w wr)) (fun i j _ => (intOf j).toNat - (intOf i).toNat)
  case atStart => exact ⟨0, n, Nat.zero_le _, Nat.le_refl _, rfl, rfl, fun k hk => by omega, fun k hk hk' => by omega, Below.refl _ _⟩
  case round =>
    obtain ⟨x, y, hxy, hy, rfl, rfl, hx1, hy1, hB⟩ := hrel
    by_cases hlt : x < y
    · obtain ⟨g, rfl, hr⟩ := ht.out.resolve_left (by omega)
      have hr' := hr.below hB.out hr.1
      obtain ⟨c1, c2, c3⟩ := hr'.2 ((x + y) / 2) (by omega)
      simp only [Nat.zero_add] at c1 c2 c3
      have hh : (x + y) / 2 < n := by omega
      have HU : Hid (∀ k, (T.st ((x + y) / 2) ≤ a → k < (x + y) / 2 + 1 → T.st k ≤ a) ∧ (a < T.st ((x + y) / 2) → (x + y) / 2 ≤ k → k < n → a < T.st k)) := fun k =>
        ⟨fun h1 h2 => Nat.le_trans (hu.out k _ (by omega) hh) h1, fun h1 h2 h3 => Nat.lt_of_lt_of_le h1 (hu.out _ k h2 h3)⟩
      clear hr hr' ht
      go_wp2_with (go_at_call 17; refine (cmpPl_any _ _ _ _ _ ha).mono ?_; rintro e w' ⟨z, rfl, hz, hb'⟩)
      · go_roundw
        case rel =>
          have hv : T.st ((x + y) / 2) ≤ a := hz.1 (by omega)
          exact ⟨(x + y) / 2 + 1, y, by omega, hy, by simp, rfl, fun k hk => (HU.out k).1 hv hk, hy1, hB.out.trans (hb'.mono hB.out.size)⟩
        case measure => simp [intOf]; omega
      · go_roundw
        case rel =>
          have hv : a < T.st ((x + y) / 2) := by omega
          exact ⟨x, (x + y) / 2, by omega, by omega, rfl, by simp, hx1, fun k h1 h2 => (HU.out k).2 hv h1 h2, hB.out.trans (hb'.mono hB.out.size)⟩
        case measure => simp [intOf]; omega
    · have e : x = y := by omega
      subst e
      by_cases hq : x < n
      · obtain ⟨g, rfl, hr⟩ := ht.out.resolve_left (by omega)
        have hr' := hr.below hB.out hr.1
        obtain ⟨c1, c2, c3⟩ := hr'.2 x hq
        simp only [Nat.zero_add] at c1 c2 c3
        clear hr hr' ht
        go_wp2_with (go_at_call 17; refine (cmpPl_any _ _ _ _ _ ha).mono ?_; rintro e w' ⟨z, rfl, hz, hb'⟩)
        refine bodyPost_ret (v := .tuple #[.int .i64 x, .bool (z == 0)]) ?_ rfl ?_
        · simp [results, Yba.results16, go_sem]
        · exact ⟨x, _, rfl, ⟨by omega, hx1.out, hy1.out⟩, hB.out.trans (hb'.mono hB.out.size)⟩
      · go_wp2
        refine bodyPost_ret (v := .tuple #[.int .i64 x, .bool false]) ?_ rfl ?_
        · simp [results, Yba.results16, go_sem]
        · exact ⟨x, false, rfl, ⟨by omega, hx1.out, hy1.out⟩, hB.out⟩

/-- what IndexFunc leaves: the first of the first m symbols that starts at t -/
def First (va : Nat → Nat) (m t : Nat) (w : World) (e : Ending) (w' : World) : Prop :=
  ∃ f : Nat, e = .returned (.int .i64 f) ∧ f < m ∧ va f = t ∧ (∀ j, j < f → va j ≠ t) ∧ Below w.heap.size w w'

set_option maxHeartbeats 1000000 in
theorem index_any (g m c t K : Nat) (T : Syms) (w : World) (hr : Hid (SymRow w g 0 m T)) (hm : m ≤ 600) (hK : K < w.heap.size) (hc : w.cell? ⟨K, 0, none⟩ = some (.int .u64 t)) (hex : Hid (∃ f, f < m ∧ T.va f = t)) :
    Calls Yba.prog 14 #[.slice (some ⟨g, 0, none⟩) m c, .func (.func 15) #[] #[.pointer (some ⟨K, 0, none⟩)]] w fun e w' => First T.va m t w e w' := by
  have HC : Hid (w.cell? ⟨K, 0, none⟩ = some (.int .u64 t)) := hc
  clear hc
  go_enter Yba.func14, Yba.ntmps14
  go_wp2
  go_loopw [8] (fun i wr => ∃ k : Nat, k ≤ m ∧ i = .int .i64 k ∧ Hid (∀ j, j < k → T.va j ≠ t) ∧ Hid (Below w.heap.size w wr)) (fun i _ => m - (intOf i).toNat)
  case atStart => exact ⟨0, Nat.zero_le _, rfl, fun j hj => by omega, Below.refl _ _⟩
  case round =>
    obtain ⟨k, hk, rfl, hno, hB⟩ := hrel
    by_cases hlt : k < m
    · have hr' := hr.out.below hB.out hr.out.1
      obtain ⟨c1, c2, c3, c4, c5⟩ := hr'.2 k hlt
      simp only [Nat.zero_add] at c1 c2 c3 c4 c5
      have hc' : wr.cell? ⟨K, 0, none⟩ = some (.int .u64 t) := (hB.out.cell (p := ⟨K, 0, none⟩) hK).trans HC.out
      have hK' : K < wr.heap.size := Nat.lt_of_lt_of_le hK hB.out.size
      clear hr'
      by_cases hv : T.va k = t
      · have hv' : Hid (decide (T.va k = t) = true) := decide_eq_true hv
        have HV : Hid (T.va k = t) := hv
        clear hv
        go_wp2_with (go_at_call 15; refine (isStart_any _ _ _ _ _ _ hK' hc').mono ?_; rintro e w' ⟨rfl, hb'⟩; rw [hv'.out])
        go_ret
        exact ⟨k, rfl, hlt, HV.out, hno.out, hB.out.trans (hb'.mono hB.out.size)⟩
      · have hv' : Hid (decide (T.va k = t) = false) := decide_eq_false hv
        have HV : Hid (¬ T.va k = t) := hv
        clear hv
        go_wp2_with (go_at_call 15; refine (isStart_any _ _ _ _ _ _ hK' hc').mono ?_; rintro e w' ⟨rfl, hb'⟩; rw [hv'.out])
        go_roundw
        case rel =>
          refine ⟨k + 1, by omega, by go_num, fun j hj => ?_, hB.out.trans (hb'.mono hB.out.size)⟩
          by_cases e : j = k
          · rw [e]; exact HV.out
          · exact hno.out j (by omega)
        case measure => simp [intOf]; omega
    · exfalso
      obtain ⟨f, h1, h2⟩ := hex.out
      exact hno.out f (by omega) h2
end Go.Proofs.Ybulkcrrc
