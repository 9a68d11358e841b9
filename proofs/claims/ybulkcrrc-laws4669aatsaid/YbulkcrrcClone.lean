import Derived.Test.YbulkcrrcAt
import Derived.Lib.SliceRun
import Derived.Laws.StructEq
namespace Go.Proofs.Ybulkcrrc
open Go.RowKit

def Syms.snoc (T : Syms) (n : Nat) (s : ByteArray) (v z : Nat) : Syms := ⟨fun j => if j = n then s else T.nm j, fun j => if j = n then v else T.va j, fun j => if j = n then z else T.sz j⟩
def Pls.snoc (T : Pls) (n : Nat) (v z : Nat) (s : ByteArray) : Pls := ⟨fun j => if j = n then v else T.st j, fun j => if j = n then z else T.en j, fun j => if j = n then s else T.sr j⟩

/-- the cells xs are the n symbols of T -/
structure SL (xs : List Value) (n : Nat) (T : Syms) : Prop where
  l : xs.length = n * 5
  c : ∀ j, j < n → xs[j * 5]? = some (.string (T.nm j)) ∧ xs[j * 5 + 1]? = some (.int .i64 0) ∧ xs[j * 5 + 2]? = some (.int .i64 0) ∧ xs[j * 5 + 3]? = some (.int .u64 (T.va j)) ∧ xs[j * 5 + 4]? = some (.int .u64 (T.sz j))
  o : ∀ u ∈ xs, u.oneCell' = true
structure PL (xs : List Value) (n : Nat) (T : Pls) : Prop where
  l : xs.length = n * 3
  c : ∀ j, j < n → xs[j * 3]? = some (.int .u64 (T.st j)) ∧ xs[j * 3 + 1]? = some (.int .u64 (T.en j)) ∧ xs[j * 3 + 2]? = some (.string (T.sr j))
  o : ∀ u ∈ xs, u.oneCell' = true

theorem at_snoc (xs ys : List Value) (i k : Nat) (h : i = xs.length + k) : (xs ++ ys)[i]? = ys[k]? := by
  rw [h, List.getElem?_append_right (by omega)]
  congr 1
  omega

theorem SL.snoc {xs : List Value} {n : Nat} {T : Syms} (h : SL xs n T) (s : ByteArray) (v z : Nat) : SL (xs ++ [.string s, .int .i64 0, .int .i64 0, .int .u64 v, .int .u64 z]) (n + 1) (T.snoc n s v z) where
  l := by rw [List.length_append, h.l]; simp; omega
  c := by
    intro j hj
    have hl := h.l
    by_cases e : j = n
    · subst e
      simp only [Syms.snoc, if_true]
      exact ⟨at_snoc _ _ _ 0 (by omega), at_snoc _ _ _ 1 (by omega), at_snoc _ _ _ 2 (by omega), at_snoc _ _ _ 3 (by omega), at_snoc _ _ _ 4 (by omega)⟩
    · simp only [Syms.snoc, if_neg e]
      obtain ⟨h1, h2, h3, h4, h5⟩ := h.c j (by omega)
      refine ⟨?_, ?_, ?_, ?_, ?_⟩
      all_goals rw [List.getElem?_append_left (by omega)]; assumption
  o := by
    intro u hu
    rcases List.mem_append.1 hu with hu | hu
    · exact h.o u hu
    · simp at hu
      rcases hu with rfl | rfl | rfl | rfl <;> rfl
theorem PL.snoc {xs : List Value} {n : Nat} {T : Pls} (h : PL xs n T) (v z : Nat) (s : ByteArray) : PL (xs ++ [.int .u64 v, .int .u64 z, .string s]) (n + 1) (T.snoc n v z s) where
  l := by rw [List.length_append, h.l]; simp; omega
  c := by
    intro j hj
    have hl := h.l
    by_cases e : j = n
    · subst e
      simp only [Pls.snoc, if_true]
      exact ⟨at_snoc _ _ _ 0 (by omega), at_snoc _ _ _ 1 (by omega), at_snoc _ _ _ 2 (by omega)⟩
    · simp only [Pls.snoc, if_neg e]
      obtain ⟨h1, h2, h3⟩ := h.c j (by omega)
      refine ⟨?_, ?_, ?_⟩
      all_goals rw [List.getElem?_append_left (by omega)]; assumption
  o := by
    intro u hu
    rcases List.mem_append.1 hu with hu | hu
    · exact h.o u hu
    · simp at hu
      rcases hu with rfl | rfl | rfl <;> rfl

/-- v is a slice of the call's own that holds T -/
def OwnS (w : World) (B : Nat) (v : Value) (n : Nat) (T : Syms) : Prop := ∃ xs, w.ownsRow B 37 5 v n xs ∧ SL xs n T
def OwnP (w : World) (B : Nat) (v : Value) (n : Nat) (T : Pls) : Prop := ∃ xs, w.ownsRow B 42 3 v n xs ∧ PL xs n T

theorem OwnS.form {w : World} {B n : Nat} {v : Value} {T : Syms} (h : OwnS w B v n T) : ∃ a c, v = .slice a n c ∧ n ≤ c ∧ c ≤ 9223372036854775807 ∧ SymIn w a n T := by
  obtain ⟨xs, ho, hs⟩ := h
  rcases ho.2 with ⟨rfl, rfl⟩ | ⟨g, cap, cur, rfl, hb, hg, h1, h2, h3, h4⟩
  · exact ⟨none, 0, rfl, by omega, by omega, Or.inl rfl⟩
  · refine ⟨_, cap, rfl, h1, by unfold maxLen at h2; omega, Or.inr ⟨g, rfl, (Array.getElem?_eq_some_iff.1 hg).1, fun j hj => ?_⟩⟩
    have key : ∀ i u, xs[i]? = some u → w.cell? ⟨g, i, none⟩ = some u := by
      intro i u hu
      have := ho.cells (g := g) rfl i u hu
      rw [WideShapes.add_plain, Nat.zero_add] at this
      exact this
    obtain ⟨q1, q2, q3, q4, q5⟩ := hs.c j hj
    simp only [Nat.zero_add]
    exact ⟨key _ _ q1, key _ _ q2, key _ _ q3, key _ _ q4, key _ _ q5⟩
theorem OwnP.form {w : World} {B n : Nat} {v : Value} {T : Pls} (h : OwnP w B v n T) : ∃ a c, v = .slice a n c ∧ n ≤ c ∧ c ≤ 9223372036854775807 ∧ PlIn w a n T := by
  obtain ⟨xs, ho, hs⟩ := h
  rcases ho.2 with ⟨rfl, rfl⟩ | ⟨g, cap, cur, rfl, hb, hg, h1, h2, h3, h4⟩
  · exact ⟨none, 0, rfl, by omega, by omega, Or.inl rfl⟩
  · refine ⟨_, cap, rfl, h1, by unfold maxLen at h2; omega, Or.inr ⟨g, rfl, (Array.getElem?_eq_some_iff.1 hg).1, fun j hj => ?_⟩⟩
    have key : ∀ i u, xs[i]? = some u → w.cell? ⟨g, i, none⟩ = some u := by
      intro i u hu
      have := ho.cells (g := g) rfl i u hu
      rw [WideShapes.add_plain, Nat.zero_add] at this
      exact this
    obtain ⟨q1, q2, q3⟩ := hs.c j hj
    simp only [Nat.zero_add]
    exact ⟨key _ _ q1, key _ _ q2, key _ _ q3⟩

theorem row_below {w w' : World} {B e size n : Nat} {v : Value} {xs : List Value} (h : w.ownsRow B e size v n xs) {B' : Nat} (hb : Below B' w w') (hB : w.heap.size ≤ B') : w'.ownsRow B e size v n xs :=
  ⟨h.1, h.2.imp id fun ⟨g, cap, cur, h1, h2, h3, h4⟩ => ⟨g, cap, cur, h1, h2, (hb.block g (Nat.lt_of_lt_of_le (Array.getElem?_eq_some_iff.1 h3).1 hB)).trans h3, h4⟩⟩

set_option maxHeartbeats 1000000 in
theorem cloneS_any (B n : Nat) (v : Value) (T : Syms) (w : World) (h : Hid (OwnS w B v n T)) (hn : n ≤ 600) :
    Calls Yba.prog 6 #[v] w fun e w' => ∃ a c, e = .returned (.slice a n c) ∧ SymIn w' a n T ∧ Below w.heap.size w w' := by
  obtain ⟨i0, hi, hz0, hz1, hz2⟩ := info_parts Yba.info37
  have q27 : ∀ (w : World) (a : Option Addr) (n c n' c' : Nat), (binOp .eql 27 (.slice a n c) (.slice none n' c')).run Yba.prog w = .ok (.bool a.isNone) w := fun w a n c n' c' => Lib.run_eql_slice_nil w _ _ a n c n' c' Yba.underlying27
  obtain ⟨xs, ho, hs⟩ := h.out
  rcases ho.2 with ⟨rfl, rfl⟩ | ⟨g, cap, cur, rfl, hb, hg, h1, h2, h3, h4⟩
  · go_enter Yba.func6, Yba.ntmps6
    go_wp2
    go_ret
    exact ⟨none, 0, rfl, Or.inl rfl, Below.refl _ _⟩
  · have HO : Hid (w.ownsRow B 37 5 (.slice (some ⟨g, 0, none⟩) n cap) n xs) := ho
    have HS : Hid (SL xs n T) := hs
    have HE : Hid ((w.alloc (.cells #[] 37)).ownsRow w.heap.size 37 5 (.slice (some ⟨w.heap.size, 0, none⟩) 0 0) 0 []) := ⟨rfl, Or.inr ⟨w.heap.size, 0, #[], rfl, Nat.le_refl _, heap_alloc_new w _, Nat.le_refl _, Nat.zero_le _, rfl, rfl⟩⟩
    have HC : Hid (∀ j u, xs[j]? = some u → (w.alloc (.cells #[] 37)).cell? ((⟨g, 0, none⟩ : Addr).add j) = some u) := fun j u hu => (ho.alloc _).cells (g := g) rfl j u hu
    clear ho hs hb hg h2 h3 h4 h
    go_enter Yba.func6, Yba.ntmps6
    go_wp2_with (first | (at_builtin; refine wpList_append_own _ rfl _ _ 27 rfl w.heap.size 37 i0 _ 5 48 Yba.underlying27 hi hz0 hz1 hz2 rfl (by decide) _ 0 [] rfl HE.out ⟨g, 0, none⟩ n cap xs rfl HS.out.l HC.out HS.out.o (by unfold maxLen; omega) (by omega) (by simp) ?_; intro v' w' hown hgrow _; simp only [Nat.zero_add, List.nil_append] at hown; have HW : Hid (OwnS w' w.heap.size v' n T) := ⟨xs, hown, HS.out⟩; have HB : Hid (Below w.heap.size w w') := ((Below.refl _ _).alloc (Nat.le_refl _) _).grown hgrow (by simp) (fun k hk => (World.ownsRow.lt HE.out k hk).1); clear hown hgrow))
    go_ret
    obtain ⟨a, c, rfl, _, _, hin⟩ := HW.out.form
    exact ⟨a, c, rfl, hin, HB.out⟩
set_option maxHeartbeats 1000000 in
theorem cloneP_any (B n : Nat) (v : Value) (T : Pls) (w : World) (h : Hid (OwnP w B v n T)) (hn : n ≤ 600) :
    Calls Yba.prog 7 #[v] w fun e w' => ∃ a c, e = .returned (.slice a n c) ∧ PlIn w' a n T ∧ Below w.heap.size w w' := by
  obtain ⟨i0, hi, hz0, hz1, hz2⟩ := info_parts Yba.info42
  have q28 : ∀ (w : World) (a : Option Addr) (n c n' c' : Nat), (binOp .eql 28 (.slice a n c) (.slice none n' c')).run Yba.prog w = .ok (.bool a.isNone) w := fun w a n c n' c' => Lib.run_eql_slice_nil w _ _ a n c n' c' Yba.underlying28
  obtain ⟨xs, ho, hs⟩ := h.out
  rcases ho.2 with ⟨rfl, rfl⟩ | ⟨g, cap, cur, rfl, hb, hg, h1, h2, h3, h4⟩
  · go_enter Yba.func7, Yba.ntmps7
    go_wp2
    go_ret
    exact ⟨none, 0, rfl, Or.inl rfl, Below.refl _ _⟩
  · have HO : Hid (w.ownsRow B 42 3 (.slice (some ⟨g, 0, none⟩) n cap) n xs) := ho
    have HS : Hid (PL xs n T) := hs
    have HE : Hid ((w.alloc (.cells #[] 42)).ownsRow w.heap.size 42 3 (.slice (some ⟨w.heap.size, 0, none⟩) 0 0) 0 []) := ⟨rfl, Or.inr ⟨w.heap.size, 0, #[], rfl, Nat.le_refl _, heap_alloc_new w _, Nat.le_refl _, Nat.zero_le _, rfl, rfl⟩⟩
    have HC : Hid (∀ j u, xs[j]? = some u → (w.alloc (.cells #[] 42)).cell? ((⟨g, 0, none⟩ : Addr).add j) = some u) := fun j u hu => (ho.alloc _).cells (g := g) rfl j u hu
    clear ho hs hb hg h2 h3 h4 h
    go_enter Yba.func7, Yba.ntmps7
    go_wp2_with (first | (at_builtin; refine wpList_append_own _ rfl _ _ 28 rfl w.heap.size 42 i0 _ 3 32 Yba.underlying28 hi hz0 hz1 hz2 rfl (by decide) _ 0 [] rfl HE.out ⟨g, 0, none⟩ n cap xs rfl HS.out.l HC.out HS.out.o (by unfold maxLen; omega) (by omega) (by simp) ?_; intro v' w' hown hgrow _; simp only [Nat.zero_add, List.nil_append] at hown; have HW : Hid (OwnP w' w.heap.size v' n T) := ⟨xs, hown, HS.out⟩; have HB : Hid (Below w.heap.size w w') := ((Below.refl _ _).alloc (Nat.le_refl _) _).grown hgrow (by simp) (fun k hk => (World.ownsRow.lt HE.out k hk).1); clear hown hgrow))
    go_ret
    obtain ⟨a, c, rfl, _, _, hin⟩ := HW.out.form
    exact ⟨a, c, rfl, hin, HB.out⟩

set_option maxRecDepth 100000 in
set_option maxHeartbeats 1000000 in
theorem equalS_any (a1 a2 : Option Addr) (n c1 c2 : Nat) (T : Syms) (w : World) (h1 : Hid (SymIn w a1 n T)) (h2 : Hid (SymIn w a2 n T)) (hn : n ≤ 600) :
    Calls Yba.prog 9 #[.slice a1 n c1, .slice a2 n c2] w fun e w' => e = .returned (.bool true) ∧ Below w.heap.size w w' := by
  go_enter Yba.func9, Yba.ntmps9
  go_wp2
  go_loopw [13] (fun i wr => ∃ k q : Nat, k ≤ n ∧ i = .int .i64 k ∧ w.drewN q = wr) (fun i _ => n - (intOf i).toNat)
  case atStart => exact ⟨0, 0, Nat.zero_le _, rfl, rfl⟩
  case round =>
    obtain ⟨k, q, hk1, rfl, rfl⟩ := hrel
    by_cases hlt : k < n
    · obtain ⟨g1, rfl, hr1⟩ := h1.out.resolve_left (by omega)
      obtain ⟨g2, rfl, hr2⟩ := h2.out.resolve_left (by omega)
      obtain ⟨b1, b2, b3, b4, b5⟩ := hr1.2 k hlt
      obtain ⟨d1, d2, d3, d4, d5⟩ := hr2.2 k hlt
      simp only [Nat.zero_add] at b1 b2 b3 b4 b5 d1 d2 d3 d4 d5
      have hlt' : (k : Int) < (n : Int) := by omega
      clear hr1 hr2
      go_wp2
      go_quiet (fail)
      go_wp2
      go_roundw
      case rel => exact ⟨k + 1, _, by omega, by go_num, rfl⟩
      case measure => simp [intOf]; omega
    · go_wp2
      go_ret
      exact ⟨rfl, below_drewN (Below.refl _ _) _⟩

set_option maxRecDepth 100000 in
set_option maxHeartbeats 1000000 in
theorem equalP_any (a1 a2 : Option Addr) (n c1 c2 : Nat) (T : Pls) (w : World) (h1 : Hid (PlIn w a1 n T)) (h2 : Hid (PlIn w a2 n T)) (hn : n ≤ 600) :
    Calls Yba.prog 10 #[.slice a1 n c1, .slice a2 n c2] w fun e w' => e = .returned (.bool true) ∧ Below w.heap.size w w' := by
  go_enter Yba.func10, Yba.ntmps10
  go_wp2
  go_loopw [13] (fun i wr => ∃ k q : Nat, k ≤ n ∧ i = .int .i64 k ∧ w.drewN q = wr) (fun i _ => n - (intOf i).toNat)
  case atStart => exact ⟨0, 0, Nat.zero_le _, rfl, rfl⟩
  case round =>
    obtain ⟨k, q, hk1, rfl, rfl⟩ := hrel
    by_cases hlt : k < n
    · obtain ⟨g1, rfl, hr1⟩ := h1.out.resolve_left (by omega)
      obtain ⟨g2, rfl, hr2⟩ := h2.out.resolve_left (by omega)
      obtain ⟨b1, b2, b3⟩ := hr1.2 k hlt
      obtain ⟨d1, d2, d3⟩ := hr2.2 k hlt
      simp only [Nat.zero_add] at b1 b2 b3 d1 d2 d3
      have hlt' : (k : Int) < (n : Int) := by omega
      clear hr1 hr2
      go_wp2
      go_quiet (fail)
      go_wp2
      go_roundw
      case rel => exact ⟨k + 1, _, by omega, by go_num, rfl⟩
      case measure => simp [intOf]; omega
    · go_wp2
      go_ret
      exact ⟨rfl, below_drewN (Below.refl _ _) _⟩
end Go.Proofs.Ybulkcrrc
