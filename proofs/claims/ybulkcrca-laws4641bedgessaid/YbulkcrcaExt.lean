/-
  'Ext w w'': the world has at most new blocks of cells, none frozen; all that was there is as it was. No dump in sight.
-/
import Derived.RowKit3
import Derived.Below
import Derived.Laws.Rows
import Derived.Laws.NewBlocks
import Derived.WalkSmall
namespace Go.Proofs.Ybulkcrca
open Go.RowKit

structure Ext (w w' : World) : Prop where
  b : Below w.heap.size w w'
  n : ∀ i, w.heap.size ≤ i → i < w'.heap.size → ∃ c t, w'.heap[i]? = some (.cells c t (0, 0))

theorem Ext.refl (w : World) : Ext w w := ⟨Below.refl _ _, fun i h h' => by omega⟩

theorem Ext.size {w w' : World} (h : Ext w w') : w.heap.size ≤ w'.heap.size := h.b.size

theorem Ext.trans {a b c : World} (h : Ext a b) (k : Ext b c) : Ext a c := by
  refine ⟨h.b.trans (k.b.mono h.size), fun i hi hc => ?_⟩
  by_cases hb : i < b.heap.size
  · rw [k.b.block i hb]
    exact h.n i hi hb
  · exact k.n i (by omega) hc

theorem Ext.alloc {w w' : World} (h : Ext w w') (c : Array Value) (t : TypeId) : Ext w (w'.alloc (.cells c t)) := by
  refine ⟨h.b.alloc h.size _, fun i hi hc => ?_⟩
  by_cases hb : i < w'.heap.size
  · rw [Below.heap_alloc _ _ _ hb]
    exact h.n i hi hb
  · have e : i = w'.heap.size := by simp at hc; omega
    subst e
    exact ⟨c, t, heap_alloc_new w' _⟩

theorem Ext.drewN {w w' : World} (h : Ext w w') (q : Nat) : Ext w (w'.drewN q) := ⟨below_drewN h.b q, h.n⟩

theorem Ext.setCell {w w' : World} (h : Ext w w') {a : Addr} (ha : w.heap.size ≤ a.block) (hs : a.spot = none) (v : Value) : Ext w (w'.setCell a v) := by
  obtain ⟨g, o, sp⟩ := a
  simp only at ha hs
  subst hs
  refine ⟨h.b.setCell ha v, fun i hi hc => ?_⟩
  have hc' : i < w'.heap.size := by simpa using hc
  obtain ⟨c, t, hct⟩ := h.n i hi hc'
  by_cases e : i = g
  · subst e
    exact ⟨_, t, heap_setCell_same w' i o c t v hct⟩
  · exact ⟨c, t, by rw [heap_setCell_other w' _ i v e]; exact hct⟩

theorem Ext.cell {a b : World} (h : Ext a b) {p : Addr} (hp : p.block < a.heap.size) : b.cell? p = a.cell? p := h.b.cell hp
theorem Ext.frozen {a b : World} (h : Ext a b) {p : Addr} (hp : p.block < a.heap.size) : b.frozen? p = a.frozen? p := h.b.frozen hp

theorem Ext.grown {w w' : World} (h : Ext w w') : Grown w w' := by
  refine ⟨h.b.frame _, fun a => ?_, h.size⟩
  by_cases hb : a.block < w.heap.size
  · exact h.frozen hb
  · have e1 : w.heap[a.block]? = none := by simp; omega
    have f1 : w.frozen? a = false := by simp [World.frozen?, e1]
    rw [f1]
    by_cases hc : a.block < w'.heap.size
    · obtain ⟨c, t, hct⟩ := h.n a.block (by omega) hc
      simp [World.frozen?, hct]
    · have e2 : w'.heap[a.block]? = none := by simp; omega
      simp [World.frozen?, e2]
end Go.Proofs.Ybulkcrca
