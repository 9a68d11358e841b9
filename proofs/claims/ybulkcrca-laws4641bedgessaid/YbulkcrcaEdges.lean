import Derived.Test.YbulkcrcaModel
namespace Go.Proofs.Ybulkcrca
open Go.RowKit

theorem within_true (T U s : Int) (w : World) (t1 : -20000000000000000000 ≤ U) (t2 : U ≤ 20000000000000000000) (s1 : 0 ≤ s) (s2 : s ≤ 9223372036854775807) (h : U - s ≤ T ∧ T ≤ U + s) :
    Calls Yba.prog 6 #[tm T, tm U, .int .i64 s] w fun e w' => e = .returned (.bool true) ∧ Ext w w' := by
  obtain ⟨g, hg, g1, g2, h3⟩ := wrap_neg s (by omega) s2
  refine (within_any T U s w t1 t2 (by omega) s2 g hg g1 g2).mono ?_
  rintro e w' ⟨rfl, x⟩
  refine ⟨?_, x⟩
  rw [decide_eq_true (by omega)]

theorem within_false (T U s : Int) (w : World) (t1 : -20000000000000000000 ≤ U) (t2 : U ≤ 20000000000000000000) (s1 : 0 ≤ s) (s2 : s ≤ 9223372036854775807) (h : ¬ (U - s ≤ T ∧ T ≤ U + s)) :
    Calls Yba.prog 6 #[tm T, tm U, .int .i64 s] w fun e w' => e = .returned (.bool false) ∧ Ext w w' := by
  obtain ⟨g, hg, g1, g2, h3⟩ := wrap_neg s (by omega) s2
  refine (within_any T U s w t1 t2 (by omega) s2 g hg g1 g2).mono ?_
  rintro e w' ⟨rfl, x⟩
  refine ⟨?_, x⟩
  rw [decide_eq_false (by omega)]

theorem wrap_in (n : Int) (h1 : -9223372036854775808 ≤ n) (h2 : n ≤ 9223372036854775807) : IntKind.i64.wrap n = n := by
  rw [IntKind.wrap_i64]
  omega

theorem keep5 {w a b : World} {nb : Nat} {U : Int} (h : Ext a b) (p : a.cell? ⟨nb, 0, none⟩ = some (.int .u64 (U % 1000000000)) ∧ a.cell? ⟨nb, 1, none⟩ = some (.int .i64 (U / 1000000000)) ∧ a.cell? ⟨nb, 2, none⟩ = some (.pointer none) ∧ nb < a.heap.size ∧ Ext w a) :
    b.cell? ⟨nb, 0, none⟩ = some (.int .u64 (U % 1000000000)) ∧ b.cell? ⟨nb, 1, none⟩ = some (.int .i64 (U / 1000000000)) ∧ b.cell? ⟨nb, 2, none⟩ = some (.pointer none) ∧ nb < b.heap.size ∧ Ext w b := by
  obtain ⟨p0, p1, p2, p6, p7⟩ := p
  exact ⟨(h.cell p6).trans p0, (h.cell p6).trans p1, (h.cell p6).trans p2, Nat.lt_of_lt_of_le p6 h.size, p7.trans h⟩

theorem ext_of5 {w a : World} {nb : Nat} {U : Int} (p : a.cell? ⟨nb, 0, none⟩ = some (.int .u64 (U % 1000000000)) ∧ a.cell? ⟨nb, 1, none⟩ = some (.int .i64 (U / 1000000000)) ∧ a.cell? ⟨nb, 2, none⟩ = some (.pointer none) ∧ nb < a.heap.size ∧ Ext w a) : Ext w a := p.2.2.2.2

set_option maxRecDepth 100000 in
set_option maxHeartbeats 8000000 in
theorem edges_core (B S b s : Int) (w : World) (hb : B / 4 = b) (hs : S / 8 = s) (b1 : -2305843009213693952 ≤ b) (b2 : b ≤ 2305843009213693951) (s1 : 0 ≤ s) (s2 : s ≤ 2305843009213693951) (_S0 : 0 ≤ S) (_S1 : S ≤ 18446744073709551615) :
    Calls Yba.prog 5 #[.int .i64 B, .int .u64 S] w fun e w' => e = .returned (.bool true) ∧ Ext w w' := by
  go_enter Yba.func5, Yba.ntmps5
  go_wp2_with fail
  refine (bat_any b _ (by omega) (by omega)).mono ?_
  rintro e w1 ⟨rfl, x1⟩
  have H0 : (w1.alloc (.cells #[.int .u64 (b % 1000000000), .int .i64 (b / 1000000000), .pointer none] 28)).drew.cell? ⟨w1.heap.size, 0, none⟩ = some (.int .u64 (b % 1000000000)) ∧ (w1.alloc (.cells #[.int .u64 (b % 1000000000), .int .i64 (b / 1000000000), .pointer none] 28)).drew.cell? ⟨w1.heap.size, 1, none⟩ = some (.int .i64 (b / 1000000000)) ∧ (w1.alloc (.cells #[.int .u64 (b % 1000000000), .int .i64 (b / 1000000000), .pointer none] 28)).drew.cell? ⟨w1.heap.size, 2, none⟩ = some (.pointer none) ∧ w1.heap.size < (w1.alloc (.cells #[.int .u64 (b % 1000000000), .int .i64 (b / 1000000000), .pointer none] 28)).drew.heap.size ∧ Ext w (w1.alloc (.cells #[.int .u64 (b % 1000000000), .int .i64 (b / 1000000000), .pointer none] 28)).drew := by
    refine ⟨by simp [go_sem], by simp [go_sem], by simp [go_sem], by simp, (x1.alloc _ _).drewN 1⟩
  clear x1
  go_wp2
  clear hb hs
  have q1 := wrap_in (b + s) (by omega) (by omega)
  have q2 := wrap_in (b - s) (by omega) (by omega)
  have q3 := wrap_in (b + s + 1) (by omega) (by omega)
  have q4 := wrap_in (b - s - 1) (by omega) (by omega)
  go_region_held3 (fun w' => w'.cell? ⟨w1.heap.size, 0, none⟩ = some (.int .u64 (b % 1000000000)) ∧ w'.cell? ⟨w1.heap.size, 1, none⟩ = some (.int .i64 (b / 1000000000)) ∧ w'.cell? ⟨w1.heap.size, 2, none⟩ = some (.pointer none) ∧ w1.heap.size < w'.heap.size ∧ Ext w w')
      (first | assumption | exact keep5 (by assumption) (by assumption))
      (first
        | (go_at_call 7; refine (bat_any _ _ ?_ ?_).mono ?_; omega; omega; rintro e w' ⟨rfl, hx⟩)
        | (go_at_call 6; refine (within_true _ _ _ _ ?_ ?_ ?_ ?_ ?_).mono ?_; omega; omega; omega; omega; omega; rintro e w' ⟨rfl, hx⟩)
        | (go_at_call 6; refine (within_false _ _ _ _ ?_ ?_ ?_ ?_ ?_).mono ?_; omega; omega; omega; omega; omega; rintro e w' ⟨rfl, hx⟩))
  all_goals go_wp2
  all_goals go_ret
  all_goals exact ⟨rfl, ext_of5 (by assumption)⟩

theorem edges_any (B S : Int) (w : World) (b1 : -9223372036854775808 ≤ B) (b2 : B ≤ 9223372036854775807) (s1 : 0 ≤ S) (s2 : S ≤ 18446744073709551615) :
    Calls Yba.prog 5 #[.int .i64 B, .int .u64 S] w fun e w' => e = .returned (.bool true) ∧ Ext w w' :=
  edges_core B S (B / 4) (S / 8) w rfl rfl (by omega) (by omega) (by omega) (by omega) s1 s2
end Go.Proofs.Ybulkcrca
