import Derived.Test.YbulkcrcoCands
namespace Go.Proofs.Ybulkcrco
open Go.RowKit

/-- r is a square distance that 'reach' may give: the farthest of the last kept (dk) and the last moved (dm), times four -/
def ReachOf (kl ml dk dm r : Nat) : Prop := ∃ f1 f2, (if kl = 0 then f1 = 0 else MaxOf 0 dk f1) ∧ (if ml = 0 then f2 = f1 else MaxOf f1 dm f2) ∧ MulOf f2 r

theorem ReachOf.sim {kl ml dk dm r r' : Nat} (h : ReachOf kl ml dk dm r) (h' : ReachOf kl ml dk dm r') : Sim r r' := by
  obtain ⟨f1, f2, a1, a2, a3⟩ := h
  obtain ⟨g1, g2, b1, b2, b3⟩ := h'
  have s1 : Sim f1 g1 := by
    split at a1
    · rename_i e
      rw [if_pos e] at b1
      exact Or.inl (a1.trans b1.symm)
    · rename_i e
      rw [if_neg e] at b1
      exact MaxOf.sim (Or.inl rfl) a1 b1
  have s2 : Sim f2 g2 := by
    split at a2
    · rename_i e
      rw [if_pos e] at b2
      rw [a2, b2]
      exact s1
    · rename_i e
      rw [if_neg e] at b2
      exact MaxOf.sim s1 a2 b2
  exact MulOf.sim s2 a3 b3

set_option maxRecDepth 100000 in
set_option maxHeartbeats 1000000 in
theorem reach_both (K kl kc R ml mc dk dm : Nat) (w : World) (hk : 0 < kl) (hm : 0 < ml) (hK : K < w.heap.size) (k1 : kl ≤ 1024) (hR : R < w.heap.size) (m1 : ml ≤ 1024) (ck : w.cell? ⟨K, (kl - 1) * 2 + 1, none⟩ = some (.float .f64 dk)) (cm : w.cell? ⟨R, (ml - 1) * 2 + 1, none⟩ = some (.float .f64 dm)) :
    Calls Yba.prog 9 #[.slice (some ⟨K, 0, none⟩) kl kc, .slice (some ⟨R, 0, none⟩) ml mc] w fun e w' => ∃ r, e = .returned (.float .f64 r) ∧ ReachOf kl ml dk dm r ∧ Below w.heap.size w w' := by
  obtain ⟨f1, q1, M1, r1⟩ := run_maxf (P := Yba.prog) (w.alloc (.cells #[.slice (some ⟨K, 0, none⟩) kl kc, .slice (some ⟨R, 0, none⟩) ml mc] 26)) #[24, 24] 0 dk
  obtain ⟨f2, q2, M2, r2⟩ := run_maxf (P := Yba.prog) ((w.alloc (.cells #[.slice (some ⟨K, 0, none⟩) kl kc, .slice (some ⟨R, 0, none⟩) ml mc] 26)).drewN q1) #[24, 24] f1 dm
  rw [World.drewN_drewN] at r2
  obtain ⟨r, q3, M3, r3⟩ := run_mulf (P := Yba.prog) ((w.alloc (.cells #[.slice (some ⟨K, 0, none⟩) kl kc, .slice (some ⟨R, 0, none⟩) ml mc] 26)).drewN (q1 + q2)) f2
  rw [World.drewN_drewN] at r3
  have HR : Hid (ReachOf kl ml dk dm r) := ⟨f1, f2, by rw [if_neg (by omega)]; exact M1, by rw [if_neg (by omega)]; exact M2, M3⟩
  clear M1 M2 M3
  go_enter Yba.func9, Yba.ntmps9
  go_wp2
  refine wp_loop_rounds 3 ?_
  iterate 3 (rw [rounds_succ]; go_wp2)
  go_ret
  exact ⟨r, rfl, HR.out, below_drewN ((Below.refl _ _).alloc (Nat.le_refl _) _) _⟩

set_option maxRecDepth 100000 in
set_option maxHeartbeats 1000000 in
theorem reach_kept (K kl kc R ml mc dk dm : Nat) (w : World) (hk : 0 < kl) (hm : ml = 0) (hK : K < w.heap.size) (k1 : kl ≤ 1024) (ck : w.cell? ⟨K, (kl - 1) * 2 + 1, none⟩ = some (.float .f64 dk))  :
    Calls Yba.prog 9 #[.slice (some ⟨K, 0, none⟩) kl kc, .slice (some ⟨R, 0, none⟩) ml mc] w fun e w' => ∃ r, e = .returned (.float .f64 r) ∧ ReachOf kl ml dk dm r ∧ Below w.heap.size w w' := by
  subst hm
  obtain ⟨f1, q1, M1, r1⟩ := run_maxf (P := Yba.prog) (w.alloc (.cells #[.slice (some ⟨K, 0, none⟩) kl kc, .slice (some ⟨R, 0, none⟩) 0 mc] 26)) #[24, 24] 0 dk
  obtain ⟨r, q3, M3, r3⟩ := run_mulf (P := Yba.prog) ((w.alloc (.cells #[.slice (some ⟨K, 0, none⟩) kl kc, .slice (some ⟨R, 0, none⟩) 0 mc] 26)).drewN q1) f1
  rw [World.drewN_drewN] at r3
  have HR : Hid (ReachOf kl 0 dk dm r) := ⟨f1, f1, by rw [if_neg (by omega)]; exact M1, by simp, M3⟩
  clear M1 M3
  go_enter Yba.func9, Yba.ntmps9
  go_wp2
  refine wp_loop_rounds 3 ?_
  iterate 3 (rw [rounds_succ]; go_wp2)
  go_ret
  exact ⟨r, rfl, HR.out, below_drewN ((Below.refl _ _).alloc (Nat.le_refl _) _) _⟩

set_option maxRecDepth 100000 in
set_option maxHeartbeats 1000000 in
theorem reach_moved (K kl kc R ml mc dk dm : Nat) (w : World) (hk : kl = 0) (hm : 0 < ml) (hR : R < w.heap.size) (m1 : ml ≤ 1024)  (cm : w.cell? ⟨R, (ml - 1) * 2 + 1, none⟩ = some (.float .f64 dm)) :
    Calls Yba.prog 9 #[.slice (some ⟨K, 0, none⟩) kl kc, .slice (some ⟨R, 0, none⟩) ml mc] w fun e w' => ∃ r, e = .returned (.float .f64 r) ∧ ReachOf kl ml dk dm r ∧ Below w.heap.size w w' := by
  subst hk
  obtain ⟨f2, q2, M2, r2⟩ := run_maxf (P := Yba.prog) (w.alloc (.cells #[.slice (some ⟨K, 0, none⟩) 0 kc, .slice (some ⟨R, 0, none⟩) ml mc] 26)) #[24, 24] 0 dm
  obtain ⟨r, q3, M3, r3⟩ := run_mulf (P := Yba.prog) ((w.alloc (.cells #[.slice (some ⟨K, 0, none⟩) 0 kc, .slice (some ⟨R, 0, none⟩) ml mc] 26)).drewN q2) f2
  rw [World.drewN_drewN] at r3
  have HR : Hid (ReachOf 0 ml dk dm r) := ⟨0, f2, by simp, by rw [if_neg (by omega)]; exact M2, M3⟩
  clear M2 M3
  go_enter Yba.func9, Yba.ntmps9
  go_wp2
  refine wp_loop_rounds 3 ?_
  iterate 3 (rw [rounds_succ]; go_wp2)
  go_ret
  exact ⟨r, rfl, HR.out, below_drewN ((Below.refl _ _).alloc (Nat.le_refl _) _) _⟩

set_option maxRecDepth 100000 in
set_option maxHeartbeats 1000000 in
theorem reach_none (K kl kc R ml mc dk dm : Nat) (w : World) (hk : kl = 0) (hm : ml = 0)   :
    Calls Yba.prog 9 #[.slice (some ⟨K, 0, none⟩) kl kc, .slice (some ⟨R, 0, none⟩) ml mc] w fun e w' => ∃ r, e = .returned (.float .f64 r) ∧ ReachOf kl ml dk dm r ∧ Below w.heap.size w w' := by
  subst hk
  subst hm
  obtain ⟨r, q3, M3, r3⟩ := run_mulf (P := Yba.prog) (w.alloc (.cells #[.slice (some ⟨K, 0, none⟩) 0 kc, .slice (some ⟨R, 0, none⟩) 0 mc] 26)) 0
  have HR : Hid (ReachOf 0 0 dk dm r) := ⟨0, 0, by simp, by simp, M3⟩
  clear M3
  go_enter Yba.func9, Yba.ntmps9
  go_wp2
  refine wp_loop_rounds 3 ?_
  iterate 3 (rw [rounds_succ]; go_wp2)
  go_ret
  exact ⟨r, rfl, HR.out, below_drewN ((Below.refl _ _).alloc (Nat.le_refl _) _) _⟩

theorem reach_any (K kl kc R ml mc dk dm : Nat) (w : World) (hK : K < w.heap.size) (hR : R < w.heap.size) (k1 : kl ≤ 1024) (m1 : ml ≤ 1024)
    (ck : 0 < kl → w.cell? ⟨K, (kl - 1) * 2 + 1, none⟩ = some (.float .f64 dk)) (cm : 0 < ml → w.cell? ⟨R, (ml - 1) * 2 + 1, none⟩ = some (.float .f64 dm)) :
    Calls Yba.prog 9 #[.slice (some ⟨K, 0, none⟩) kl kc, .slice (some ⟨R, 0, none⟩) ml mc] w fun e w' => ∃ r, e = .returned (.float .f64 r) ∧ ReachOf kl ml dk dm r ∧ Below w.heap.size w w' := by
  by_cases hk : 0 < kl
  · by_cases hm : 0 < ml
    · exact reach_both K kl kc R ml mc dk dm w hk hm hK k1 hR m1 (ck hk) (cm hm)
    · exact reach_kept K kl kc R ml mc dk dm w hk (by omega) hK k1 (ck hk)
  · by_cases hm : 0 < ml
    · exact reach_moved K kl kc R ml mc dk dm w (by omega) hm hR m1 (cm hm)
    · exact reach_none K kl kc R ml mc dk dm w (by omega) (by omega)
end Go.Proofs.Ybulkcrco
