import Derived.Test.YbulkcrayFill
import Derived.Deep.QuietTactic
import Derived.BigQuiet
namespace Go.Proofs.Ybulkcray
open Go.RowKit
open Go.ChangeMaps (setBlock heap_setBlock_same heap_setBlock_other)

/-- the five hosts' pointers -/
abbrev hostsAt (B : Nat) : Array Value := #[.pointer (some ⟨B + 2, 0, none⟩), .pointer (some ⟨B + 3, 0, none⟩), .pointer (some ⟨B + 4, 0, none⟩), .pointer (some ⟨B + 5, 0, none⟩), .pointer (some ⟨B + 6, 0, none⟩)]
abbrev cntAt (c : Nat → Int) : Array Value := #[.int .i32 (c 0), .int .i32 (c 1), .int .i32 (c 2), .int .i32 (c 3), .int .i32 (c 4)]
abbrev hasAt (c : Nat → Int) : Array Value := #[.bool (!decide (c 0 = 0)), .bool (!decide (c 1 = 0)), .bool (!decide (c 2 = 0)), .bool (!decide (c 3 = 0)), .bool (!decide (c 4 = 0))]

theorem five {P : Nat → Prop} (h0 : P 0) (h1 : P 1) (h2 : P 2) (h3 : P 3) (h4 : P 4) : ∀ j, j < 5 → P j := by
  intro j hj
  rcases (by omega : j = 0 ∨ j = 1 ∨ j = 2 ∨ j = 3 ∨ j = 4) with rfl | rfl | rfl | rfl | rfl <;> assumption

theorem hostsAt_get (B : Nat) : ∀ j, j < 5 → (hostsAt B)[j]? = some (.pointer (some ⟨B + 2 + j, 0, none⟩)) := five rfl rfl rfl rfl rfl
theorem cntAt_get (c : Nat → Int) : ∀ j, j < 5 → (cntAt c)[j]? = some (.int .i32 (c j)) := five rfl rfl rfl rfl rfl
theorem hasAt_get (c : Nat → Int) : ∀ j, j < 5 → (hasAt c)[j]? = some (.bool (!decide (c j = 0))) := five rfl rfl rfl rfl rfl

theorem stage {w w1 w3 : World} {e : Ending} (hb1 : Below w.heap.size w w1) (hs1 : w1.heap.size = w.heap.size + 7) (F : Filled (w1.alloc (.cells (hostsAt w.heap.size) 24)) (w.heap.size + 2) e w3) :
    ∃ (c : Nat → Int) (m : Nat), e = .returned (.tuple #[.map (some (w.heap.size + 11)), .agg (cntAt c), .agg (hasAt c), .int .i64 m]) ∧
      Hid (∀ j, (Lit.int .i32 (c j)).wf = true) ∧ m ≤ 5 ∧ Hid (PM w3 (w.heap.size + 11) (w.heap.size + 2) (Fz c) m) ∧ Hid (Below w.heap.size w w3) ∧ w3.heap.size = w.heap.size + 14 ∧
      Hid (∀ j, j < 5 → w3.cell? ⟨w.heap.size + 7, j, none⟩ = some (.pointer (some ⟨w.heap.size + 2 + j, 0, none⟩))) := by
  obtain ⟨c, m, he, hwf, hm, hp, hbl, hsz⟩ := F
  have e1 : (w1.alloc (.cells (hostsAt w.heap.size) 24)).heap.size = w.heap.size + 8 := by simp [hs1]
  rw [e1] at he hp hbl hsz
  simp only [ne_eq, decide_not] at he
  refine ⟨c, m, he, hwf, hm, hp, ?_, hsz, ?_⟩
  · exact ((hb1.alloc (by omega) _).trans (hbl.mono (by omega)))
  · intro j hj
    rw [hbl.cell (p := ⟨w.heap.size + 7, j, none⟩) (by simp), World.cell?_alloc_at _ _ _ _ hs1.symm]
    exact hostsAt_get _ j hj

theorem below2 {w w3 : World} (h : Below w.heap.size w w3) (hs : w3.heap.size = w.heap.size + 14) (o o' : Obj) : Below w.heap.size w ((w3.alloc o).alloc o') :=
  (h.alloc (by omega) _).alloc (by simp; omega) _

set_option maxRecDepth 100000 in
set_option maxHeartbeats 1000000 in
theorem exact_nil (a0 : Option Addr) (len cap : Nat) (a1 a2 a3 : Int) (w : World) (r : Hid (RowIn w a0 len cap)) (h1 : 0 ≤ a1) (h3 : 0 ≤ a3) (k : Nat) (hk5 : k < 5) (hk : a1 % 5 = (k : Int)) (hm : a3 % 3 = 0) :
    Calls Yba.prog 3 #[.slice a0 len cap, .int .u8 a1, .int .i64 a2, .int .u8 a3] w fun e w' => e = .returned (.bool true) ∧ Below w.heap.size w w' := by
  go_enter Yba.func3, Yba.ntmps3
  go_wp2_with fail
  refine (hosts_any _).mono ?_
  rintro e w1 ⟨rfl, hb1, hs1, H1⟩
  have HH1 : Hid (HB w1 (w.heap.size + 2)) := H1
  have HB1 : Hid (Below w.heap.size w w1) := hb1
  clear H1 hb1
  go_wp2_with fail
  refine (fill_any _ _ _ _ _ (w.heap.size + 2) len cap a0 _ ?_ ?_ ?_).mono ?_
  · exact ⟨rfl, rfl, rfl, rfl, rfl⟩
  · exact HH1.out.alloc _
  · exact r.out.below ((HB1.out.alloc (by omega) _))
  intro e w3 F
  obtain ⟨c, m, rfl, HW, hm5, HP, HB3, hs3, HC⟩ := stage HB1.out hs1 F
  clear F HH1 HB1 hs1
  have ck := HC.out k hk5
  go_wp2_with fail
  refine (left_nil _ _).mono ?_
  rintro e w' ⟨rfl, rfl⟩
  go_wp2
  go_ret
  exact ⟨rfl, below2 HB3.out hs3 _ _⟩

theorem below3 {w w3 : World} (h : Below w.heap.size w w3) (hs : w3.heap.size = w.heap.size + 14) (o o' o'' : Obj) : Below w.heap.size w (((w3.alloc o).alloc o').alloc o'') :=
  (below2 h hs o o').alloc (by simp; omega) _

set_option maxRecDepth 100000 in
set_option maxHeartbeats 1000000 in
theorem exact_nojob (a0 : Option Addr) (len cap : Nat) (a1 a2 a3 : Int) (w : World) (r : Hid (RowIn w a0 len cap)) (h1 : 0 ≤ a1) (h3 : 0 ≤ a3) (k : Nat) (hk5 : k < 5) (hk : a1 % 5 = (k : Int)) (hm : a3 % 3 = 1) :
    Calls Yba.prog 3 #[.slice a0 len cap, .int .u8 a1, .int .i64 a2, .int .u8 a3] w fun e w' => e = .returned (.bool true) ∧ Below w.heap.size w w' := by
  go_enter Yba.func3, Yba.ntmps3
  go_wp2_with fail
  refine (hosts_any _).mono ?_
  rintro e w1 ⟨rfl, hb1, hs1, H1⟩
  have HH1 : Hid (HB w1 (w.heap.size + 2)) := H1
  have HB1 : Hid (Below w.heap.size w w1) := hb1
  clear H1 hb1
  go_wp2_with fail
  refine (fill_any _ _ _ _ _ (w.heap.size + 2) len cap a0 _ ?_ ?_ ?_).mono ?_
  · exact ⟨rfl, rfl, rfl, rfl, rfl⟩
  · exact HH1.out.alloc _
  · exact r.out.below ((HB1.out.alloc (by omega) _))
  intro e w3 F
  obtain ⟨c, m, rfl, HW, hm5, HP, HB3, hs3, HC⟩ := stage HB1.out hs1 F
  clear F HH1 HB1 hs1
  have ck := HC.out k hk5
  go_wp2_with fail
  refine (left_nojob _ _ _ ?_).mono ?_
  · rw [World.cell?_alloc_at _ _ _ _ (by simp [hs3])]
    rfl
  rintro e w' ⟨rfl, rfl⟩
  go_wp2
  go_ret
  exact ⟨rfl, below3 HB3.out hs3 _ _ _⟩
end Go.Proofs.Ybulkcray
