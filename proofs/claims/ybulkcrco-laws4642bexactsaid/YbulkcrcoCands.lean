import Derived.Test.YbulkcrcoRows
import Derived.WalkKit
import Derived.ProofKit
import Derived.OpenShut
import Derived.Below
import Derived.LoopN
import Derived.WalkLawsBesides
import Derived.WalkSmall
import Derived.Laws.OwnMore
import Derived.Laws.Cover2
import Derived.Deep.QuietTactic
import Derived.BigQuiet
import Derived.Test.YbulkcrcoFloat
namespace Go.Proofs.Ybulkcrco
open Go.RowKit

theorem run_store_float (P : Program) (w : World) (a : Addr) (m : Mode) (k : FloatKind) (b : Nat) : (store a (.float k b) m).run P w = stored P w a (.float k b) m := run_store P w a _ m rfl
attribute [local go_sem] run_store_float

theorem Yba.info34 : (Yba.prog.info? 34).map (fun i => (i.zero, i.size, i.bytes)) = some (some (.agg #[.int .i64 0, .float .f64 0]), 2, 16) := by kernel_rfl

/-- a slice of distances as it came in: ds i are its elements' words -/
def DistIn (w : World) (a0 : Option Addr) (len : Nat) (ds : Nat → Nat) : Prop :=
  len = 0 ∨ ∃ b off, a0 = some ⟨b, off, none⟩ ∧ b < w.heap.size ∧ ∀ i, i < len → w.cell? ⟨b, off + i, none⟩ = some (.float .f64 (ds i))

theorem DistIn.below {w w' : World} {a0 : Option Addr} {len : Nat} {ds : Nat → Nat} (r : DistIn w a0 len ds) (hb : Below w.heap.size w w') : DistIn w' a0 len ds := by
  rcases r with r | ⟨b, off, h1, h4, h5⟩
  · exact Or.inl r
  · refine Or.inr ⟨b, off, h1, Nat.lt_of_lt_of_le h4 hb.size, fun i hi => ?_⟩
    exact (hb.cell (p := ⟨b, off + i, none⟩) h4).trans (h5 i hi)

/-- block B holds the candidates of ds -/
def CR (w : World) (B len : Nat) (ds : Nat → Nat) : Prop :=
  B < w.heap.size ∧ ∀ j, j < len → w.cell? ⟨B, j * 2, none⟩ = some (.int .i64 j) ∧ w.cell? ⟨B, j * 2 + 1, none⟩ = some (.float .f64 (ds j))

theorem CR.below {w w' : World} {B len : Nat} {ds : Nat → Nat} (r : CR w B len ds) (hb : Below w.heap.size w w') : CR w' B len ds :=
  ⟨Nat.lt_of_lt_of_le r.1 hb.size, fun j hj => ⟨(hb.cell (p := ⟨B, j * 2, none⟩) r.1).trans (r.2 j hj).1, (hb.cell (p := ⟨B, j * 2 + 1, none⟩) r.1).trans (r.2 j hj).2⟩⟩

/-- the row while it is filled: the first k candidates stand -/
def Fill (w : World) (B len k : Nat) (ds : Nat → Nat) : Prop :=
  ∃ cur : Array Value, w.heap[B]? = some (.cells cur 34 (0, 0)) ∧ cur.size = len * 2 ∧ ∀ j, j < k → cur[j * 2]? = some (.int .i64 j) ∧ cur[j * 2 + 1]? = some (.float .f64 (ds j))

theorem Fill.cells {w : World} {B len k : Nat} {ds : Nat → Nat} (h : Fill w B len k ds) (hk : k < len) : (∃ v1, w.cell? ⟨B, k * 2, none⟩ = some v1) ∧ (∃ v2, w.cell? ⟨B, k * 2 + 1, none⟩ = some v2) ∧ w.frozen? ⟨B, k * 2, none⟩ = false ∧ w.frozen? ⟨B, k * 2 + 1, none⟩ = false := by
  obtain ⟨cur, h1, h2, h3⟩ := h
  refine ⟨⟨cur[k * 2]'(by omega), ?_⟩, ⟨cur[k * 2 + 1]'(by omega), ?_⟩, frozen_of_row w B _ _ _ h1, frozen_of_row w B _ _ _ h1⟩
  · rw [cell_of_row w B _ _ _ _ h1]; exact Array.getElem?_eq_getElem (by omega)
  · rw [cell_of_row w B _ _ _ _ h1]; exact Array.getElem?_eq_getElem (by omega)

theorem Fill.step {w : World} {B len k : Nat} {ds : Nat → Nat} (h : Fill w B len k ds) (hk : k < len) : Fill ((w.setCell ⟨B, k * 2, none⟩ (.int .i64 k)).setCell ⟨B, k * 2 + 1, none⟩ (.float .f64 (ds k))) B len (k + 1) ds := by
  obtain ⟨cur, h1, h2, h3⟩ := h
  have e1 := heap_setCell_same w B (k * 2) cur 34 (.int .i64 k) h1
  have e2 := heap_setCell_same _ B (k * 2 + 1) _ 34 (.float .f64 (ds k)) e1
  refine ⟨_, e2, by simp [h2], fun j hj => ?_⟩
  by_cases e : j = k
  · subst e
    constructor
    · rw [Array.getElem?_setIfInBounds_ne (by omega), Array.getElem?_setIfInBounds_self_of_lt (by omega)]
    · rw [Array.getElem?_setIfInBounds_self_of_lt (by simp; omega)]
  · obtain ⟨g1, g2⟩ := h3 j (by omega)
    constructor
    · rw [Array.getElem?_setIfInBounds_ne (by omega), Array.getElem?_setIfInBounds_ne (by omega)]; exact g1
    · rw [Array.getElem?_setIfInBounds_ne (by omega), Array.getElem?_setIfInBounds_ne (by omega)]; exact g2

theorem Fill.done {w : World} {B len : Nat} {ds : Nat → Nat} (h : Fill w B len len ds) : CR w B len ds := by
  obtain ⟨cur, h1, h2, h3⟩ := h
  refine ⟨(Array.getElem?_eq_some_iff.1 h1).1, fun j hj => ?_⟩
  rw [cell_of_row w B _ _ _ _ h1, cell_of_row w B _ _ _ _ h1]
  exact h3 j hj

theorem Fill.start {w : World} {B base len : Nat} {xs : List Value} (ds : Nat → Nat) (h : w.ownsRow base 34 2 (.slice (some ⟨B, 0, none⟩) len len) len xs) : Fill w B len 0 ds := by
  rcases h.2 with ⟨h, _⟩ | ⟨g', cap, cur, e, _, hg, _, _, hs, _⟩
  · simp at h
  · simp only [Value.slice.injEq, Option.some.injEq, Addr.mk.injEq] at e
    obtain ⟨⟨rfl, _⟩, _, rfl⟩ := e
    exact ⟨cur, hg, hs, fun j hj => by omega⟩

set_option maxRecDepth 100000 in
set_option maxHeartbeats 1000000 in
theorem cands_any (a0 : Option Addr) (len cap : Nat) (ds : Nat → Nat) (w : World) (hd : Hid (DistIn w a0 len ds)) (hl : len ≤ 1024) :
    Calls Yba.prog 5 #[.slice a0 len cap] w fun e w' => e = .returned (.slice (some ⟨w.heap.size, 0, none⟩) len len) ∧ CR w' w.heap.size len ds ∧ Below w.heap.size w w' := by
  obtain ⟨i0, hi, hz0, hz1, hz2⟩ := info_parts Yba.info34
  go_enter Yba.func5, Yba.ntmps5
  go_wp2_with (first | (at_make; refine wpList_make_full _ rfl _ _ 26 rfl w.heap.size 34 i0 (.agg #[.int .i64 0, .float .f64 0]) 2 Yba.underlying26 hi hz0 hz1 .i64 .i64 _ _ len rfl rfl rfl rfl (by rw [hz2]; omega) (by unfold maxLen; omega) (Nat.le_refl _) ?_; intro w0 hown0 hgrow0) | go_in)
  have HF : Hid (Fill w0 w.heap.size len 0 ds) := Fill.start ds hown0
  have HB0 : Hid (Below w.heap.size w w0) := (Below.refl _ _).grown hgrow0 (Nat.le_refl _) (fun k hk => by cases hk)
  clear hown0 hgrow0 hi hz0 hz1 hz2
  go_wp2
  go_loopw [4] (fun i wr => ∃ k : Nat, k ≤ len ∧ i = .int .i64 k ∧ Hid (Fill wr w.heap.size len k ds) ∧ Hid (Below w.heap.size w wr)) (fun i _ => len - (intOf i).toNat)
  case atStart => exact ⟨0, Nat.zero_le _, rfl, HF, HB0⟩
  case round =>
    clear HF HB0
    obtain ⟨k, hk, rfl, hF, hB⟩ := hrel
    by_cases hlt : k < len
    · obtain ⟨b, off, rfl, hbw, hcell⟩ := hd.out.resolve_left (by omega)
      have hck : wr.cell? ⟨b, off + k, none⟩ = some (.float .f64 (ds k)) := (hB.out.cell (p := ⟨b, off + k, none⟩) hbw).trans (hcell k hlt)
      clear hcell
      obtain ⟨⟨v1, c1⟩, ⟨v2, c2⟩, f1, f2⟩ := hF.out.cells hlt
      have hne : ¬ w.heap.size = b := by omega
      go_wp2
      go_roundw
      case rel => exact ⟨k + 1, by omega, by go_num, hF.out.step hlt, (hB.out.setCell (Nat.le_refl _) _).setCell (Nat.le_refl _) _⟩
      case measure => simp [intOf]; omega
    · go_wp2
      go_ret
      have e : k = len := by omega
      subst e
      exact ⟨rfl, hF.out.done, hB.out⟩
end Go.Proofs.Ybulkcrco
