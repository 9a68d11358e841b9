import Derived.Test.YbulkcrayRows
import Derived.WalkKit
import Derived.ProofKit
import Derived.OpenShut
import Derived.Below
import Derived.LoopN
import Derived.WalkLawsBesides
import Derived.Test.YbulkcrayPtrMap
namespace Go.Proofs.Ybulkcray
open Go.RowKit

theorem hb7 (w : World) (o0 o1 : Obj) (c : Array Value) (t : TypeId) :
    HB (((((((w.alloc o0).alloc o1).alloc (.cells c t)).alloc (.cells c t)).alloc (.cells c t)).alloc (.cells c t)).alloc (.cells c t)) (w.heap.size + 2) := by
  intro i hi
  refine ⟨c, t, ?_⟩
  have h5 : i = 0 ∨ i = 1 ∨ i = 2 ∨ i = 3 ∨ i = 4 := by omega
  have e : ∀ (u : World) (o : Obj), (u.alloc o).heap = u.heap.push o := fun _ _ => rfl
  rcases h5 with rfl | rfl | rfl | rfl | rfl <;> simp [e, Array.getElem_push]

theorem below7 (w : World) (o0 o1 o2 o3 o4 o5 o6 : Obj) :
    Below w.heap.size w (((((((w.alloc o0).alloc o1).alloc o2).alloc o3).alloc o4).alloc o5).alloc o6) :=
  (((((((Below.refl _ _).alloc (Nat.le_refl _) _).alloc (by simp) _).alloc (by simp; omega) _).alloc (by simp; omega) _).alloc (by simp; omega) _).alloc (by simp; omega) _).alloc (by simp; omega) _

set_option maxHeartbeats 400000 in
theorem hosts_any (w : World) :
    Calls Yba.prog 7 #[] w fun e w' => e = .returned (.agg #[.pointer (some ⟨w.heap.size + 2, 0, none⟩), .pointer (some ⟨w.heap.size + 3, 0, none⟩), .pointer (some ⟨w.heap.size + 4, 0, none⟩), .pointer (some ⟨w.heap.size + 5, 0, none⟩), .pointer (some ⟨w.heap.size + 6, 0, none⟩)]) ∧
      Below w.heap.size w w' ∧ w'.heap.size = w.heap.size + 7 ∧ HB w' (w.heap.size + 2) := by
  go_enter Yba.func7, Yba.ntmps7
  go_wp2
  refine wp_loop_rounds 6 ?_
  iterate 6 (rw [rounds_succ]; go_wp2)
  refine bodyPost_ret (v := .agg #[.pointer (some ⟨w.heap.size + 2, 0, none⟩), .pointer (some ⟨w.heap.size + 3, 0, none⟩), .pointer (some ⟨w.heap.size + 4, 0, none⟩), .pointer (some ⟨w.heap.size + 5, 0, none⟩), .pointer (some ⟨w.heap.size + 6, 0, none⟩)]) ?_ rfl ⟨rfl, ?_, ?_, ?_⟩
  · simp [results, Yba.results7, go_sem]
  · exact below7 _ _ _ _ _ _ _ _
  · simp
  · exact hb7 _ _ _ _ _
end Go.Proofs.Ybulkcray
