/-
  THE PROOF OF 'Rows.LawS4669AAtSaid' (the frame: after the guide's program proof-skeleton.mjs, turned to two slices of structs; the walk: by hand).
-/
import Derived.Test.YbulkcrrcRows
import Derived.Test.YbulkcrrcLaw
import Derived.WalkKit
import Derived.ProofKit
import Derived.OpenShut
import Derived.ShutString
import Derived.ChangeOld
import Derived.Below
import Derived.Deep.Slices
import Derived.Deep.SlicePairs
import Derived.Laws.Cover2
namespace Go.Proofs.Ybulkcrrc.lawS4669AAt
open Go.ChangeShapes Go.WideShapes Go.ChangeAt Go.RowKit
open Go.Deep (open_slice open_slice_pairs add_add)
set_option linter.unusedVariables false

theorem own : ownKnob Yba.prog.godebug = none := by kernel_rfl
theorem laidOut : laidOutB Yba.prog = true := by kernel_rfl

theorem nat_u8 {x : Int} (h : (Lit.int .u8 x).wf = true) : ∃ n : Nat, n ≤ 255 ∧ x = n := by
  have b := bounds_u8 h
  exact ⟨x.toNat, by omega, by omega⟩

/-- a slice of pairs of bytes that came in -/
theorem inS {H : Type} {enc : TypeId × Value → H} {w : World} {a : Option Addr} {len cap : Nat} {d : DataW H} {ps : List MemPlace} (h : DataW.Trod enc Yba.prog w 0 (fun _ => true) true 22 (.slice a len cap) d ps) : InS w a len := by
  obtain ⟨fuel, hf⟩ := h
  rcases open_slice_pairs Yba.underlying22 Yba.underlying32 (by kernel_rfl) rfl rfl (by kernel_rfl) (by kernel_rfl) hf with ⟨hcs, _⟩ | ⟨x, l, c, m, n, V0, V1, D0, D1, P0, P1, hcs, _, hl, hm, hmm, _, hV⟩
  · simp [Value.cells] at hcs
    obtain ⟨rfl, rfl, rfl⟩ := hcs
    exact Or.inl rfl
  · simp [Value.cells] at hcs
    obtain ⟨rfl, rfl, rfl⟩ := hcs
    simp only [if_true] at hmm
    subst hmm
    by_cases h0 : len = 0
    · exact Or.inl h0
    · obtain ⟨b, off, spot⟩ := x
      have hspot : spot = none := by simpa [Addr.add] using World.cell?_spot (hV 0 (by omega)).1
      subst hspot
      have hc : ∀ i, i < len → ∃ x y : Nat, x ≤ 255 ∧ y ≤ 255 ∧ w.cell? ⟨b, off + i * 2, none⟩ = some (.int .u8 x) ∧ w.cell? ⟨b, off + i * 2 + 1, none⟩ = some (.int .u8 y) := fun i hi => by
        obtain ⟨h1, h2, h3, h4⟩ := hV i (by omega)
        obtain ⟨x, hx, _, wx⟩ := DataW.trod_int Yba.underlying5 h3
        obtain ⟨y, hy, _, wy⟩ := DataW.trod_int Yba.underlying5 h4
        obtain ⟨x', hx1, rfl⟩ := nat_u8 wx
        obtain ⟨y', hy1, rfl⟩ := nat_u8 wy
        simp only [List.cons.injEq, and_true] at hx hy
        rw [add_plain, hx] at h1
        rw [add_plain, hy, ← Nat.add_assoc] at h2
        exact ⟨x', y', hx1, hy1, h1, h2⟩
      obtain ⟨_, _, _, _, q, _⟩ := hc 0 (by omega)
      exact Or.inr ⟨b, off, rfl, block_lt_of_cell (a := ⟨b, off + 0 * 2, none⟩) q, hc⟩

/-- a slice of triples of bytes that came in -/
theorem inP {H : Type} {enc : TypeId × Value → H} {w : World} {a : Option Addr} {len cap : Nat} {d : DataW H} {ps : List MemPlace} (h : DataW.Trod enc Yba.prog w 0 (fun _ => true) true 23 (.slice a len cap) d ps) : InP w a len := by
  have ce : Yba.prog.cellsOf 39 = 3 := by kernel_rfl
  have c5 : Yba.prog.cellsOf 5 = 1 := by kernel_rfl
  obtain ⟨fuel, hf⟩ := h
  rcases open_slice Yba.underlying23 hf with ⟨hcs, _⟩ | ⟨x, l, c, m, n, D, Pl, hcs, _, hl, hm, hmm, _, hV⟩
  · simp [Value.cells] at hcs
    obtain ⟨rfl, rfl, rfl⟩ := hcs
    exact Or.inl rfl
  · simp [Value.cells] at hcs
    obtain ⟨rfl, rfl, rfl⟩ := hcs
    simp only [if_true] at hmm
    subst hmm
    by_cases h0 : len = 0
    · exact Or.inl h0
    · have hd : ∀ i, i < len → ∃ x' y' z' : Nat, x' ≤ 255 ∧ y' ≤ 255 ∧ w.cell? (x.add (i * 3)) = some (.int .u8 x') ∧ w.cell? (x.add (i * 3 + 1)) = some (.int .u8 y') ∧ w.cell? (x.add (i * 3 + 2)) = some (.int .u8 z') := fun i hi => by
        obtain ⟨cs', h1, h2⟩ := hV i (by omega)
        rw [ce] at h1
        obtain ⟨_, hlen, hcell⟩ := World.cells?_some h1
        obtain ⟨xs, k, hk, hxy, _, hxl, hf'⟩ := DataW.trod_struct Yba.underlying39 h2
        match xs, hxl, cs', hlen with
        | [y0, y1, y2], _, [v0, v1, v2], _ =>
          have g0 := hf' 0 _ rfl
          have g1 := hf' 1 _ rfl
          have g2 := hf' 2 _ rfl
          simp [c5] at g0 g1 g2
          have e0 := hcell 0 (by omega)
          have e1 := hcell 1 (by omega)
          have e2 := hcell 2 (by omega)
          rw [add_add] at e0 e1 e2
          obtain ⟨a0, q0, _, w0⟩ := DataW.trod_int Yba.underlying5 g0
          obtain ⟨a1, q1, _, w1⟩ := DataW.trod_int Yba.underlying5 g1
          obtain ⟨a2, q2, _, w2⟩ := DataW.trod_int Yba.underlying5 g2
          obtain ⟨x', hx1, rfl⟩ := nat_u8 w0
          obtain ⟨y', hy1, rfl⟩ := nat_u8 w1
          obtain ⟨z', hz1, rfl⟩ := nat_u8 w2
          simp only [List.cons.injEq, and_true] at q0 q1 q2
          subst q0
          subst q1
          subst q2
          exact ⟨x', y', z', hx1, hy1, by simpa using e0, by simpa using e1, by simpa using e2⟩
      obtain ⟨b, off, spot⟩ := x
      have hspot : spot = none := by
        obtain ⟨_, _, _, _, _, q, _⟩ := hd 0 (by omega)
        simpa [Addr.add] using World.cell?_spot q
      subst hspot
      have hc : ∀ i, i < len → ∃ x y z : Nat, x ≤ 255 ∧ y ≤ 255 ∧ w.cell? ⟨b, off + i * 3, none⟩ = some (.int .u8 x) ∧ w.cell? ⟨b, off + i * 3 + 1, none⟩ = some (.int .u8 y) ∧ w.cell? ⟨b, off + i * 3 + 2, none⟩ = some (.int .u8 z) := fun i hi => by
        obtain ⟨x', y', z', h1, h2, h3, h4, h5⟩ := hd i hi
        rw [add_plain] at h3 h4 h5
        rw [← Nat.add_assoc] at h4 h5
        exact ⟨x', y', z', h1, h2, h3, h4, h5⟩
      obtain ⟨_, _, _, _, _, q, _⟩ := hc 0 (by omega)
      exact Or.inr ⟨b, off, rfl, block_lt_of_cell (a := ⟨b, off + 0 * 3, none⟩) q, hc⟩

/-! ### THE WALK -/
theorem walk (a0 : Option Addr) (len0 cap0 : Nat) (a1 : Option Addr) (len1 cap1 : Nat) (a2 : Int) (w : World) (d0 : InS w a0 len0) (d1 : InP w a1 len1) (w2 : (Lit.int .u32 a2).wf = true) :
    Calls Yba.prog 3 #[.slice a0 len0 cap0, .slice a1 len1 cap1, .int .u32 a2] w fun e w' => e = .returned (.bool true) ∧ Below w.heap.size w w' := by
  have b2 := bounds_u32 w2
  by_cases h : len0 ≤ 600 ∧ len1 ≤ 600
  · obtain ⟨a, rfl⟩ : ∃ a : Nat, a2 = a := ⟨a2.toNat, by omega⟩
    exact law_any a0 a1 len0 cap0 len1 cap1 a w d0 d1 h.1 h.2 (by omega)
  · exact law_long a0 a1 len0 cap0 len1 cap1 a2 w h

/-! ### THE ROW's STEP -/
set_option maxRecDepth 100000 in
theorem lifted (os : Os) (started : os.Started) (H : Type) (enc : TypeId × Value → H) :
    ReturnsInHanded {} Yba.checked os 3 .any (Rows.lawS4669AAtSpec.pre6 enc Yba.prog Yba.f3 Rows.lawS4669AAtRow.domain false) (Rows.lawS4669AAtSpec.post enc Yba.prog Yba.f3 false true false false) := by
  refine returnsInHanded_of_change (C := Yba.checked) own started (by kernel_rfl) Yba.func3
    (ChangeSpec.witness6 (enc := enc) (C := Yba.checked) false ⟨#[], #[.slice none 0 0, .slice none 0 0, .int .u32 0], []⟩ 8 (by kernel_rfl) (by kernel_rfl) (by kernel_rfl) (by kernel_rfl)) ?_
  intro W base args ds gs before hval0 hW hcnd _
  have hval : ∀ (j : Nat) t v, Yba.f3.params[j]? = some t → args[j]? = some v → Value.okWide Yba.prog W .any base t v := hval0
  have hW' := hW
  obtain ⟨p, q, hA0, hV, rfl, hfz, hnd⟩ := hW
  have hA : DataW.TrodAll enc Yba.prog W 0 (fun _ => true) true Yba.f3.params.toList args.toList ds p := hA0
  rw [Yba.params3] at hA hval
  obtain ⟨v0, vs0, d0, ds0, p0, q0, hargs, rfl, rfl, h0, r0⟩ := trodAll_cons hA
  obtain ⟨v1, vs1, d1, ds1, p1, q1, rfl, rfl, rfl, h1, r1⟩ := trodAll_cons r0
  obtain ⟨v2, vs2, d2, ds2, p2, q2, rfl, rfl, rfl, h2, r2⟩ := trodAll_cons r1
  obtain ⟨rfl, rfl, rfl⟩ := trodAll_nil r2
  obtain rfl : args = #[v0, v1, v2] := by cases args; simp_all
  obtain ⟨rfl, rfl⟩ := trodVars_none hV
  obtain ⟨a0, len0, cap0, rfl⟩ := okWide_slice Yba.underlying22 (hval 0 22 v0 rfl rfl)
  obtain ⟨a1, len1, cap1, rfl⟩ := okWide_slice Yba.underlying23 (hval 1 23 v1 rfl rfl)
  have lt0 : ∀ x ∈ p0, x.block < W.heap.size := by obtain ⟨m, hm⟩ := h0; exact DataW.trod_lt m _ _ _ hm
  have lt1 : ∀ x ∈ p1, x.block < W.heap.size := by obtain ⟨m, hm⟩ := h1; exact DataW.trod_lt m _ _ _ hm
  obtain ⟨a2, rfl, rfl, rfl, w2⟩ := open_int Yba.underlying24 (hval 2 24 v2 rfl rfl) h2
  clear hA0 hval0
  refine (walk a0 len0 cap0 a1 len1 cap1 a2 W (inS h0) (inP h1) w2).mono fun e W' ⟨he, bel⟩ => ?_
  subst he
  exact ⟨_, rfl, _, _, _, [], _, [], hW', trodAll_mk1 (shut_bool Yba.underlying4 _), (trodAll_cons_mk (Below.trod laidOut (by kernel_rfl) (of_decide_eq_true (by kernel_rfl)) h0 bel lt0) (trodAll_cons_mk (Below.trod laidOut (by kernel_rfl) (of_decide_eq_true (by kernel_rfl)) h1 bel lt1) (trodAll_cons_mk (shut_int Yba.underlying24 w2) trodAll_mk0))), rfl, bel.frame _, fun h => by cases h⟩

theorem over : Rows.lawS4669AAtRow.holds Yba.pinned (OpenSpec.ofChange Rows.lawS4669AAtSpec) :=
  OpenClaim.holds_of_wide 3 Yba.f3 rfl rfl rfl rfl rfl rfl rfl ⟨rfl, rfl, rfl, rfl, rfl⟩ rfl rfl rfl rfl rfl (by kernel_rfl) Yba.func3 (by kernel_rfl)
    (of_decide_eq_true (by kernel_rfl)) (by unfold Func.isWrapper; first | (rw [if_pos (by decide +kernel)]; kernel_rfl) | (rw [if_neg (by decide +kernel)]; exact ⟨rfl, rfl⟩))
    (fun os started H enc _ => lifted os started H enc)

/-- ████ THE STATEMENT ████ -/
theorem proved : Rows.LawS4669AAtSaid := over
#print axioms proved
end Go.Proofs.Ybulkcrrc.lawS4669AAt
