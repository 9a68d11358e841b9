import Derived.Test.YbulkcrcaWithin
namespace Go.Proofs.Ybulkcrca
open Go.RowKit

theorem wrap_neg (S : Int) (h1 : -9223372036854775808 ≤ S) (h2 : S ≤ 9223372036854775807) : ∃ g, IntKind.i64.wrap (-S) = g ∧ -9223372036854775808 ≤ g ∧ g ≤ 9223372036854775807 ∧ (g = -S ∨ (S = -9223372036854775808 ∧ g = S)) := by
  refine ⟨_, rfl, ?_⟩
  have e : IntKind.i64.wrap (-S) = wrap64 (-S) := by simp [wrap64, IntKind.wrap_i64]
  rw [e]
  unfold wrap64
  omega

set_option maxHeartbeats 1000000 in
theorem model_core (A B S g a b : Int) (w : World) (ha : A / 2 = a) (hb : B / 2 = b) (a1 : -4611686018427387904 ≤ a) (a2 : a ≤ 4611686018427387903) (b1 : -4611686018427387904 ≤ b) (b2 : b ≤ 4611686018427387903) (s1 : -9223372036854775808 ≤ S) (s2 : S ≤ 9223372036854775807)
    (hg : IntKind.i64.wrap (-S) = g) (g1 : -9223372036854775808 ≤ g) (g2 : g ≤ 9223372036854775807) :
    Calls Yba.prog 3 #[.int .i64 A, .int .i64 B, .int .i64 S] w fun e w' => e = .returned (.bool true) ∧ Ext w w' := by
  by_cases hd : g ≤ a - b
  · go_enter Yba.func3, Yba.ntmps3
    go_wp2_with fail
    refine (bat_any _ _ (by omega) (by omega)).mono ?_
    rintro e w1 ⟨rfl, x1⟩
    have X1 : Hid (Ext w w1) := x1
    clear x1
    go_wp2_with fail
    refine (bat_any _ _ (by omega) (by omega)).mono ?_
    rintro e w2 ⟨rfl, x2⟩
    have X2 : Hid (Ext w w2) := X1.out.trans x2
    clear x2 X1
    go_wp2_with fail
    refine (within_any _ _ _ _ (by omega) (by omega) s1 s2 g hg g1 g2).mono ?_
    rintro e w3 ⟨rfl, x3⟩
    have X3 : Hid (Ext w w3) := X2.out.trans x3
    clear x3 X2
    have e1 : decide (b + g ≤ a ∧ a ≤ b + S) = decide (a - b ≤ S) := decide_eq_decide.2 (by omega)
    rw [e1]
    clear e1
    go_wp2
    go_ret
    exact ⟨by simp, X3.out⟩
  · have hd' : decide (g ≤ a - b) = false := decide_eq_false hd
    go_enter Yba.func3, Yba.ntmps3
    go_wp2_with fail
    refine (bat_any _ _ (by omega) (by omega)).mono ?_
    rintro e w1 ⟨rfl, x1⟩
    have X1 : Hid (Ext w w1) := x1
    clear x1
    go_wp2_with fail
    refine (bat_any _ _ (by omega) (by omega)).mono ?_
    rintro e w2 ⟨rfl, x2⟩
    have X2 : Hid (Ext w w2) := X1.out.trans x2
    clear x2 X1
    go_wp2_with fail
    refine (within_any _ _ _ _ (by omega) (by omega) s1 s2 g hg g1 g2).mono ?_
    rintro e w3 ⟨rfl, x3⟩
    have X3 : Hid (Ext w w3) := X2.out.trans x3
    clear x3 X2
    have e1 : decide (b + g ≤ a ∧ a ≤ b + S) = false := decide_eq_false (by omega)
    rw [e1]
    clear e1
    go_wp2
    go_ret
    exact ⟨by simp, X3.out⟩

theorem model_any (A B S : Int) (w : World) (a1 : -9223372036854775808 ≤ A) (a2 : A ≤ 9223372036854775807) (b1 : -9223372036854775808 ≤ B) (b2 : B ≤ 9223372036854775807) (s1 : -9223372036854775808 ≤ S) (s2 : S ≤ 9223372036854775807) :
    Calls Yba.prog 3 #[.int .i64 A, .int .i64 B, .int .i64 S] w fun e w' => e = .returned (.bool true) ∧ Ext w w' := by
  obtain ⟨g, hg, g1, g2, _⟩ := wrap_neg S s1 s2
  exact model_core A B S g (A / 2) (B / 2) w rfl rfl (by omega) (by omega) (by omega) (by omega) s1 s2 hg g1 g2
end Go.Proofs.Ybulkcrca
