import Derived.Test.YbulkcrayExactB
namespace Go.Proofs.Ybulkcray
open Go.RowKit
open Go.ChangeMaps (setBlock heap_setBlock_same heap_setBlock_other)

theorem there_back {x : Int} (h : (Lit.int .i32 x).wf = true) : wrap32 (wrap32 (x + 1) - 1) = x := by
  simp [Lit.wf, IntKind.min, IntKind.max, IntKind.signed, IntKind.bits] at h
  unfold wrap32
  omega

theorem upd_same (f : Nat → Option Int) (k : Nat) (x : Option Int) (h : f k = x) : upd f k x = f := by
  funext i
  unfold upd
  split
  · rename_i e; rw [e, h]
  · rfl

theorem trip_f (c : Nat → Int) (k : Nat) (h : (Lit.int .i32 (c k)).wf = true) : leftF (plF (Fz c) k) k = Fz c := by
  have e1 : (plF (Fz c) k k).getD 0 = wrap32 (c k + 1) := by unfold plF upd; simp [Fz_getD]
  unfold leftF
  rw [e1, there_back h]
  by_cases hz : c k = 0
  · rw [if_pos hz]
    unfold plF
    rw [upd_upd]
    exact upd_same _ _ _ (by simp [Fz, hz])
  · rw [if_neg hz]
    unfold plF
    rw [upd_upd]
    exact upd_same _ _ _ (by simp [Fz, hz])

theorem trip_n (c : Nat → Int) (k m : Nat) (h : (Lit.int .i32 (c k)).wf = true) : leftN (plF (Fz c) k) k (plN (Fz c) k m) = m := by
  have e1 : (plF (Fz c) k k).getD 0 = wrap32 (c k + 1) := by unfold plF upd; simp [Fz_getD]
  have e2 : (plF (Fz c) k k).isSome = true := by unfold plF upd; simp
  unfold leftN
  rw [e1, there_back h, e2]
  unfold plN
  rw [Fz_isSome]
  by_cases hz : c k = 0 <;> simp [hz]

set_option maxRecDepth 100000 in
set_option maxHeartbeats 1000000 in
theorem trip_any (a0 : Option Addr) (len cap : Nat) (a1 a2 : Int) (w : World) (r : Hid (RowIn w a0 len cap)) (h1 : 0 ≤ a1) (k : Nat) (hk5 : k < 5) (hk : a1 % 5 = (k : Int)) :
    Calls Yba.prog 4 #[.slice a0 len cap, .int .u8 a1, .int .i64 a2] w fun e w' => e = .returned (.bool true) ∧ Below w.heap.size w w' := by
  go_enter Yba.func4, Yba.ntmps4
  go_wp2_with fail
  refine (hosts_any _).mono ?_
  rintro e w1 ⟨rfl, hb1, hs1, H1⟩
  have HH1 : Hid (HB w1 (w.heap.size + 2)) := H1
  have HB1 : Hid (Below w.heap.size w w1) := hb1
  clear H1 hb1
  go_wp2_with fail
  refine (fill_any _ _ _ _ _ (w.heap.size + 2) len cap a0 _ ?_ ?_ ?_).mono ?_
  · exact ⟨rfl, rfl, rfl, rfl, rfl⟩
  · exact HH1.out.alloc _
  · exact r.out.below ((HB1.out.alloc (by omega) _))
  intro e w3 F
  obtain ⟨c, m, rfl, HW, hm5, HP, HB3, hs3, HC⟩ := stage HB1.out hs1 F
  clear F HH1 HB1 hs1
  have ck := HC.out k hk5
  go_wp2_with fail
  have S4 := st4 c a2 0 (decide (0 < a2)) hs3 HC.out
  have P4 : PM (W4 w3 w.heap.size c a2 0 (decide (0 < a2))) (w.heap.size + 11) (w.heap.size + 2) (Fz c) m := (((HP.out.alloc _).alloc _).alloc _).alloc _
  refine (placed_job _ _ (w.heap.size + 11) (w.heap.size + 2) m k _ (Fz c) _ S4.p1 S4.j1 P4 hk5 rfl).mono ?_
  rintro e w4 ⟨rfl, P5, t5⟩
  have HS0 : Hid (St w4 w.heap.size c a2 0) := S4.turned t5
  have HB5 : Hid (Below w.heap.size w w4) := below_turned (below4 HB3.out hs3 c a2 0 _) t5 (by omega)
  have HP5 : Hid (PM w4 (w.heap.size + 11) (w.heap.size + 2) (plF (Fz c) k) (plN (Fz c) k m)) := P5
  have hsk := HS0.out.hs k hk5
  clear S4 P4 P5 t5 HB3 HP HC ck hs3
  go_wp2_with fail
  refine (left_job _ _ (w.heap.size + 11) (w.heap.size + 2) _ k _ _ a2 _ HS0.out.p1 HS0.out.j1 HS0.out.j3 HP5.out hk5 rfl).mono ?_
  rintro e w6 ⟨rfl, P6, t6⟩
  rw [trip_f c k (HW.out k), trip_n c k m (HW.out k)] at P6
  have HP6 : Hid (PM w6 (w.heap.size + 11) (w.heap.size + 2) (Fz c) m) := P6
  have HS : Hid (St w6 w.heap.size c a2 0) := HS0.out.turned t6
  have HB6 : Hid (Below w.heap.size w w6) := below_turned HB5.out t6 (by omega)
  have hl := pm_len P6
  have j1 := HS.out.j1
  clear P6 t6 HS0 HB5 HP5 hsk
  go_wp2
  clear hl
  go_loopw [15] (fun i wr => ∃ j q : Nat, j ≤ 5 ∧ i = .int .i64 j ∧ wr = w6.drewN q) (fun i _ => 5 - (intOf i).toNat)
  case atStart => exact ⟨0, 0, by omega, rfl, rfl⟩
  case round =>
    obtain ⟨j, q, hj, rfl, rfl⟩ := hrel
    by_cases hlt : j < 5
    · have hsj := HS.out.hs j hlt
      have cnj := HS.out.cn j hlt
      have haj := HS.out.ha j hlt
      have hlk : ∀ n, (Instr.lookup 26 (.map (some (w.heap.size + 11))) (.pointer (some ⟨w.heap.size + 2 + j, 0, none⟩)) true).run Yba.prog (w6.drewN n) = .ok (.tuple #[.int .i32 (c j), .bool (!decide (c j = 0))]) (w6.drewN n) := fun n => by
        have := pm_look_ok (w := w6.drewN n) HP6.out hlt rfl
        rw [Fz_getD, Fz_isSome] at this
        exact this
      go_wp2
      go_quiet (fail)
      go_wp2
      all_goals
        go_roundw
        case rel => exact ⟨j + 1, _, by omega, by go_num, rfl⟩
        case measure => simp [intOf]; omega
    · go_wp2
      go_ret
      exact ⟨rfl, below_drewN HB6.out _⟩
end Go.Proofs.Ybulkcray
