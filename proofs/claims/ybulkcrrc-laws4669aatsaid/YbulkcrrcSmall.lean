import Derived.Test.YbulkcrrcRows
import Derived.WalkKit
import Derived.ProofKit
import Derived.OpenShut
import Derived.Below
import Derived.LoopN
import Derived.WalkLawsBesides
import Derived.WalkSmall
import Derived.Laws.OwnMore
import Derived.Laws.Cover2
import Derived.Deep.QuietTactic
import Derived.BigQuiet
import Derived.Laws.BytesArg
namespace Go.Proofs.Ybulkcrrc
open Go.RowKit

theorem Yba.info37 : (Yba.prog.info? 37).map (fun i => (i.zero, i.size, i.bytes)) = some (some (.agg #[.string ⟨#[]⟩, .int .i64 0, .int .i64 0, .int .u64 0, .int .u64 0]), 5, 48) := by kernel_rfl
theorem Yba.info42 : (Yba.prog.info? 42).map (fun i => (i.zero, i.size, i.bytes)) = some (some (.agg #[.int .u64 0, .int .u64 0, .string ⟨#[]⟩]), 3, 32) := by kernel_rfl

theorem nan_any (x : Int) (w : World) : Calls Yba.prog 18 #[.int .u64 x] w fun e w' => e = .returned (.bool false) ∧ w' = w := by
  go_enter Yba.func18, Yba.ntmps18
  go_wp2
  go_ret
  exact ⟨rfl, rfl⟩

theorem compare_any (x y : Int) (w : World) : Calls Yba.prog 13 #[.int .u64 x, .int .u64 y] w fun e w' => e = .returned (.int .i64 (if x < y then -1 else if y < x then 1 else 0)) ∧ w' = w := by
  go_enter Yba.func13, Yba.ntmps13
  go_wp2_with (go_at_call 18; refine (nan_any _ _).mono ?_; rintro e w' ⟨rfl, rfl⟩)
  all_goals go_ret
  all_goals simp_all
  all_goals omega
/-- a symbol -/
def sy (nm : ByteArray) (v s : Nat) : Value := .agg #[.string nm, .int .i64 0, .int .i64 0, .int .u64 v, .int .u64 s]
/-- a placed range -/
def pl (s e : Nat) (src : ByteArray) : Value := .agg #[.int .u64 s, .int .u64 e, .string src]

theorem compare_sign (x y : Int) (w : World) : Calls Yba.prog 13 #[.int .u64 x, .int .u64 y] w fun e w' => (∃ z : Int, e = .returned (.int .i64 z) ∧ (z < 0 ↔ x < y)) ∧ w' = w := by
  refine (compare_any x y w).mono ?_
  rintro e w' ⟨rfl, rfl⟩
  refine ⟨⟨_, rfl, ?_⟩, rfl⟩
  split
  · omega
  · split <;> omega
theorem cmpSym_any (nm : ByteArray) (v s a : Nat) (w : World) (ha : a < 4294967296) : Calls Yba.prog 12 #[sy nm v s, .int .u64 a] w fun e w' => ∃ z : Int, e = .returned (.int .i64 z) ∧ (z < 0 ↔ v ≤ a) ∧ Below w.heap.size w w' := by
  unfold sy
  go_enter Yba.func12, Yba.ntmps12
  go_wp2_with (go_at_call 13; refine (compare_sign _ _ _).mono ?_; rintro e w' ⟨⟨z, rfl, hz⟩, rfl⟩)
  go_ret
  refine ⟨_, rfl, ?_, (Below.refl _ _).alloc (Nat.le_refl _) _⟩
  omega
theorem cmpPl_any (s e : Nat) (src : ByteArray) (a : Nat) (w : World) (ha : a < 4294967296) : Calls Yba.prog 17 #[pl s e src, .int .u64 a] w fun e w' => ∃ z : Int, e = .returned (.int .i64 z) ∧ (z < 0 ↔ s ≤ a) ∧ Below w.heap.size w w' := by
  unfold pl
  go_enter Yba.func17, Yba.ntmps17
  go_wp2_with (go_at_call 13; refine (compare_sign _ _ _).mono ?_; rintro e w' ⟨⟨z, rfl, hz⟩, rfl⟩)
  go_ret
  refine ⟨_, rfl, ?_, (Below.refl _ _).alloc (Nat.le_refl _) _⟩
  omega
theorem isStart_any (nm : ByteArray) (v s t K : Nat) (w : World) (hK : K < w.heap.size) (hc : w.cell? ⟨K, 0, none⟩ = some (.int .u64 t)) : Calls Yba.prog 15 #[sy nm v s, .pointer (some ⟨K, 0, none⟩)] w fun e w' => e = .returned (.bool (decide (v = t))) ∧ Below w.heap.size w w' := by
  unfold sy
  have hne : K ≠ w.heap.size := by omega
  go_enter Yba.func15, Yba.ntmps15
  go_wp2
  go_ret
  refine ⟨?_, (Below.refl _ _).alloc (Nat.le_refl _) _⟩
  have e : ((v : Int) == (t : Int)) = decide (v = t) := by
    by_cases h : v = t
    · simp [h]
    · rw [decide_eq_false h]; simp; omega
  rw [← e]
  rfl
theorem conv_two (w : World) (x y : Int) : (convert 51 9 (.slice (some ⟨w.heap.size, 0, none⟩) 2 2)).run Yba.prog (w.alloc (.cells #[.int .u8 x, .int .u8 y] 5)) = .ok (.string (strOfNums [x, y])) (w.alloc (.cells #[.int .u8 x, .int .u8 y] 5)) := by
  refine run_convert_bytes_arg _ 51 5 Yba.underlying51 Yba.underlying5 w.heap.size 0 2 2 [x, y] rfl ?_ 9 Yba.underlying9
  intro i hi
  rcases (by omega : i = 0 ∨ i = 1) with rfl | rfl
  · simp
  · simp
theorem name_any (i : Nat) (w : World) : Calls Yba.prog 4 #[.int .i64 i] w fun e w' => ∃ nm : ByteArray, e = .returned (.string nm) ∧ Below w.heap.size w w' := by
  have hcv := conv_two
  go_enter Yba.func4, Yba.ntmps4
  go_wp2
  go_ret
  exact ⟨_, rfl, (Below.refl _ _).alloc (Nat.le_refl _) _⟩
theorem src_any (k : Nat) (w : World) : Calls Yba.prog 5 #[.int .u8 k] w fun e w' => ∃ nm : ByteArray, e = .returned (.string nm) ∧ w' = w := by
  go_enter Yba.func5, Yba.ntmps5
  go_wp2
  all_goals go_ret
  all_goals exact ⟨_, rfl, rfl⟩
end Go.Proofs.Ybulkcrrc
