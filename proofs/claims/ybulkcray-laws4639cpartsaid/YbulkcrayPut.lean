import Derived.Test.YbulkcrayRows
import Derived.WalkKit
import Derived.ProofKit
import Derived.OpenShut
import Derived.Below
import Derived.LoopN
import Derived.WalkLawsBesides
import Derived.WalkSmall
import Derived.Lib.AppendStr
import Derived.Laws.OwnMore
import Derived.Deep.AppendLies
import Derived.Deep.QuietTactic
import Derived.BigQuiet
namespace Go.Proofs.Ybulkcray
open Go.RowKit Go.Lib

theorem Yba.info5 : (Yba.prog.info? 5).map (fun i => (i.zero, i.size, i.bytes)) = some (some (.int .u8 0), 1, 1) := by kernel_rfl

/-- the slice value v owns the bytes xs, in a block from B on -/
def Own (w : World) (B : Nat) (v : Value) (xs : List Value) : Prop := w.ownsRow B 5 1 v xs.length xs

theorem Own.below {w w' : World} {B B' : Nat} {v : Value} {xs : List Value} (h : Own w B v xs) (hb : Below B' w w') (hB : w.heap.size ≤ B') : Own w' B v xs := by
  obtain ⟨h1, h2⟩ := h
  refine ⟨h1, ?_⟩
  rcases h2 with h2 | ⟨g, cap, cur, e1, e2, e3, e4⟩
  · exact Or.inl h2
  · refine Or.inr ⟨g, cap, cur, e1, e2, ?_, e4⟩
    rw [hb.block g (Nat.lt_of_lt_of_le (Array.getElem?_eq_some_iff.1 e3).1 hB)]
    exact e3

theorem below_own {w w' : World} {B : Nat} {v : Value} {xs : List Value} (h : Own w B v xs) (hg : w.grownBy w' v.ownBlock) (hB : B ≤ w.heap.size) : Below B w w' :=
  (Below.refl B w).grown hg hB (fun k hk => (World.ownsRow.lt h k hk).1)

theorem strCells_snoc (s : ByteArray) (k : Nat) (h : k < s.size) : (strCells s).take (k + 1) = (strCells s).take k ++ [.int .u8 s[k].toNat] := by
  rw [List.take_succ_eq_append_getElem (by rw [strCells_length]; exact h)]
  simp [strCells]
  rfl

theorem put_step {w wr w1 : World} {B : Nat} {v v' : Value} {xs : List Value} {s : ByteArray} {k : Nat} {o : Obj} (hB : B ≤ wr.heap.size) (hlt : k < s.size) (ho : Own wr B v (xs ++ (strCells s).take k)) (hb : Below B w wr)
    (h1 : w1.ownsRow B 5 1 v' ((xs ++ (strCells s).take k).length + 1) (xs ++ (strCells s).take k ++ [.int .u8 s[k].toNat])) (hg : (wr.alloc o).grownBy w1 v.ownBlock) :
    Own w1 B v' (xs ++ (strCells s).take (k + 1)) ∧ Below B w w1 := by
  refine ⟨?_, ?_⟩
  · rw [strCells_snoc s k hlt]
    unfold Own
    simpa [List.append_assoc, Nat.add_assoc] using h1
  · exact (hb.alloc hB o).grown hg (by simp; omega) (fun j hj => (World.ownsRow.lt ho j hj).1)

set_option maxRecDepth 100000 in
set_option maxHeartbeats 400000 in
theorem put_any (B : Nat) (v : Value) (xs : List Value) (s : ByteArray) (w : World) (ho : Hid (Own w B v xs)) (hB : B ≤ w.heap.size) (hx : xs.length ≤ 10000) (hs : s.size ≤ 1024) :
    Calls Yba.prog 15 #[v, .string s] w fun e w' => ∃ v', e = .returned v' ∧ Own w' B v' (xs ++ strCells s) ∧ Below B w w' := by
  obtain ⟨i0, hi, hz0, hz1, hz2⟩ := info_parts Yba.info5
  go_enter Yba.func15, Yba.ntmps15
  go_wp2
  go_loopw [0, 5] (fun v i wr => ∃ k : Nat, k ≤ s.size ∧ i = .int .i64 k ∧ Hid (Own wr B v (xs ++ (strCells s).take k)) ∧ Hid (Below B w wr)) (fun _ i _ => s.size - (intOf i).toNat)
  case atStart => exact ⟨0, Nat.zero_le _, rfl, (by simpa using ho.out : Own _ _ _ _), Below.refl _ _⟩
  case round =>
    obtain ⟨k, hk, rfl, ho1, hb1⟩ := hrel
    by_cases hlt : k < s.size
    · have hsz := hb1.out.size
      have hl1 : (xs ++ (strCells s).take k).length ≤ 11024 := by
        have := List.length_take_le k (strCells s)
        simp only [List.length_append]
        omega
      go_wp2_with (first | (at_builtin; refine wpList_append_own _ rfl _ _ 43 rfl B 5 i0 (.int .u8 0) 1 1 Yba.underlying43 hi hz0 hz1 hz2 rfl (by decide) _ _ _ rfl (World.ownsRow.alloc ho1.out _) ⟨wr.heap.size, 0, none⟩ 1 1 [.int .u8 s[k].toNat] rfl rfl (cell_one_new _ _ _) (ints_oneCell .u8 [(s[k].toNat : Int)]) (by unfold maxLen; omega) (by omega) (by simp; omega) ?_; intro v' w1 hown' hgrow hnil) | go_in)
      have R := put_step (by omega) hlt ho1.out hb1.out hown' hgrow
      clear hown' hgrow hnil ho1 hb1
      go_wp2
      go_roundw
      case rel => exact ⟨k + 1, by omega, by go_num, R.1, R.2⟩
      case measure => simp [intOf]; omega
    · go_wp2
      go_ret
      refine ⟨_, rfl, ?_, hb1.out⟩
      have := ho1.out
      rw [List.take_of_length_le (by rw [strCells_length]; omega)] at this
      exact this
end Go.Proofs.Ybulkcray
