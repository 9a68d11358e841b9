import Derived.Test.YbulkcrayExactA
namespace Go.Proofs.Ybulkcray
open Go.RowKit
open Go.ChangeMaps (setBlock heap_setBlock_same heap_setBlock_other)

/-- the world's cells once the job stands -/
structure St (W : World) (B : Nat) (c : Nat → Int) (a2 pl : Int) : Prop where
  p1 : W.cell? ⟨B + 14 + 1 + 1 + 1, 1, none⟩ = some (.pointer (some ⟨B + 14 + 1 + 1, 0, none⟩))
  j1 : W.cell? ⟨B + 14 + 1 + 1, 1, none⟩ = some (.map (some (B + 11)))
  j2 : W.cell? ⟨B + 14 + 1 + 1, 2, none⟩ = some (.int .i64 pl)
  j3 : W.cell? ⟨B + 14 + 1 + 1, 3, none⟩ = some (.int .i64 a2)
  hs : ∀ j, j < 5 → W.cell? ⟨B + 7, j, none⟩ = some (.pointer (some ⟨B + 2 + j, 0, none⟩))
  cn : ∀ j, j < 5 → W.cell? ⟨B + 14, j, none⟩ = some (.int .i32 (c j))
  ha : ∀ j, j < 5 → W.cell? ⟨B + 14 + 1, j, none⟩ = some (.bool (!decide (c j = 0)))

theorem St.turned {W W' : World} {B M : Nat} {c : Nat → Int} {a2 pl : Int} (s : St W B c a2 pl) (t : W.mapTurned W' M) : St W' B c a2 pl where
  p1 := turned_cell t s.p1
  j1 := turned_cell t s.j1
  j2 := turned_cell t s.j2
  j3 := turned_cell t s.j3
  hs := fun j hj => turned_cell t (s.hs j hj)
  cn := fun j hj => turned_cell t (s.cn j hj)
  ha := fun j hj => turned_cell t (s.ha j hj)

abbrev W4 (w3 : World) (B : Nat) (c : Nat → Int) (a2 pl : Int) (x : Bool) : World :=
  (((w3.alloc (.cells (cntAt c) 27)).alloc (.cells (hasAt c) 28)).alloc (.cells #[.string { data := #[106] }, .map (some (B + 11)), .int .i64 pl, .int .i64 a2] 38)).alloc
    (.cells #[.pointer none, .pointer (some ⟨B + 14 + 1 + 1, 0, none⟩), .bool x, .int .i64 0] 36)

theorem st4 {w3 : World} {B : Nat} (c : Nat → Int) (a2 pl : Int) (x : Bool) (hs3 : w3.heap.size = B + 14) (hc : ∀ j, j < 5 → w3.cell? ⟨B + 7, j, none⟩ = some (.pointer (some ⟨B + 2 + j, 0, none⟩))) : St (W4 w3 B c a2 pl x) B c a2 pl where
  p1 := by rw [World.cell?_alloc_at _ _ _ _ (by simp [hs3])]; rfl
  j1 := by rw [World.cell?_alloc_past _ _ _ (by simp [hs3]), World.cell?_alloc_at _ _ _ _ (by simp [hs3])]; rfl
  j2 := by rw [World.cell?_alloc_past _ _ _ (by simp [hs3]), World.cell?_alloc_at _ _ _ _ (by simp [hs3])]; rfl
  j3 := by rw [World.cell?_alloc_past _ _ _ (by simp [hs3]), World.cell?_alloc_at _ _ _ _ (by simp [hs3])]; rfl
  hs := fun j hj => by
    rw [World.cell?_alloc_past _ _ _ (by simp [hs3]), World.cell?_alloc_past _ _ _ (by simp [hs3]), World.cell?_alloc_past _ _ _ (by simp [hs3]), World.cell?_alloc_past _ _ _ (by simp [hs3])]
    exact hc j hj
  cn := fun j hj => by
    rw [World.cell?_alloc_past _ _ _ (by simp [hs3]), World.cell?_alloc_past _ _ _ (by simp [hs3]), World.cell?_alloc_past _ _ _ (by simp [hs3]), World.cell?_alloc_at _ _ _ _ (by simp [hs3])]
    exact cntAt_get c j hj
  ha := fun j hj => by
    rw [World.cell?_alloc_past _ _ _ (by simp [hs3]), World.cell?_alloc_past _ _ _ (by simp [hs3]), World.cell?_alloc_at _ _ _ _ (by simp [hs3])]
    exact hasAt_get c j hj

theorem PM.alloc {w : World} {M h n : Nat} {f : Nat → Option Int} (p : PM w M h f n) (o : Obj) : PM (w.alloc o) M h f n := by
  obtain ⟨H, es, clk, hb, E⟩ := p
  refine ⟨H.alloc o, es, clk, ?_, E⟩
  rw [Below.heap_alloc _ _ _ (Array.getElem?_eq_some_iff.1 hb).1]
  exact hb

theorem below4 {w w3 : World} (h : Below w.heap.size w w3) (hs : w3.heap.size = w.heap.size + 14) (c : Nat → Int) (a2 pl : Int) (x : Bool) : Below w.heap.size w (W4 w3 w.heap.size c a2 pl x) :=
  (below3 h hs _ _ _).alloc (by simp; omega) _

theorem below_turned {w W W' : World} {M : Nat} (h : Below w.heap.size w W) (t : W.mapTurned W' M) (hM : w.heap.size ≤ M) : Below w.heap.size w W' :=
  h.grown t.grown h.size (fun k hk => by cases hk; exact hM)

/-! ### what 'left' makes of the counts -/
theorem Fz_getD (c : Nat → Int) (j : Nat) : (Fz c j).getD 0 = c j := by
  unfold Fz
  split
  · simp [*]
  · rfl
theorem Fz_isSome (c : Nat → Int) (j : Nat) : (Fz c j).isSome = !decide (c j = 0) := by
  unfold Fz
  split <;> simp [*]
theorem wrap_neg_one : wrap32 (-1) = -1 := by unfold wrap32; decide
theorem leftF_other (c : Nat → Int) {j k : Nat} (h : j ≠ k) : leftF (Fz c) k j = Fz c j := by
  unfold leftF
  split <;> simp [upd, h]
theorem leftF_same (c : Nat → Int) (k : Nat) : (leftF (Fz c) k k).getD 0 = wrap32 (c k - 1) ∧ (leftF (Fz c) k k).isSome = !decide (wrap32 (c k - 1) = 0) := by
  unfold leftF
  rw [Fz_getD]
  split <;> simp [upd, *]
theorem leftN_zero {c : Nat → Int} {k : Nat} (m : Nat) (h : c k = 0) : leftN (Fz c) k m = m + 1 := by
  unfold leftN
  rw [Fz_getD, Fz_isSome, h]
  simp [wrap_neg_one]
theorem leftN_one {c : Nat → Int} {k : Nat} (m : Nat) (h : c k ≠ 0) (h1 : wrap32 (c k - 1) = 0) : leftN (Fz c) k m = m - 1 := by
  unfold leftN
  rw [Fz_getD, Fz_isSome]
  simp [h, h1]
theorem leftN_more {c : Nat → Int} {k : Nat} (m : Nat) (h : c k ≠ 0) (h1 : wrap32 (c k - 1) ≠ 0) : leftN (Fz c) k m = m := by
  unfold leftN
  rw [Fz_getD, Fz_isSome]
  simp [h, h1]
theorem PM.pos {w : World} {M h n : Nat} {f : Nat → Option Int} (p : PM w M h f n) {k : Nat} (hk : (f k).isSome = true) : 1 ≤ n := by
  obtain ⟨_, _, _, _, l, _, _, _, hlen, hf⟩ := p
  cases hv : f k with
  | none => rw [hv] at hk; cases hk
  | some v =>
    have := (hf k v).1 hv
    cases l with
    | nil => simp at this
    | cons x r => simp at hlen; omega

theorem neq_ptr_same (a : Addr) (w : World) : (binOp .neq 34 (.pointer (some a)) (.pointer (some a))).run Yba.prog w = .ok (.bool false) w := by
  have hi : ∃ j, Yba.prog.info? 38 = some j := by
    have h : (Yba.prog.info? 38).isSome = true := by kernel_rfl
    exact Option.isSome_iff_exists.1 h
  obtain ⟨j, hj⟩ := hi
  have h : ∀ d : Nat, (Op.equalIn (d + 1) 34 (.pointer (some a)) (.pointer (some a))).run Yba.prog w = .ok true w := fun d => by
    simp [Op.equalIn, run_underlying Yba.underlying34, sizeOf, typeInfo, hj, run_sameAddr_same]
  simp only [binOp]
  simp [Op.equal, Op.maxDepth, h 9999]

set_option maxRecDepth 100000 in
set_option maxHeartbeats 1000000 in
theorem exact_job (a0 : Option Addr) (len cap : Nat) (a1 a2 a3 : Int) (w : World) (r : Hid (RowIn w a0 len cap)) (h1 : 0 ≤ a1) (h3 : 0 ≤ a3) (k : Nat) (hk5 : k < 5) (hk : a1 % 5 = (k : Int)) (hm : a3 % 3 = 2) :
    Calls Yba.prog 3 #[.slice a0 len cap, .int .u8 a1, .int .i64 a2, .int .u8 a3] w fun e w' => e = .returned (.bool true) ∧ Below w.heap.size w w' := by
  go_enter Yba.func3, Yba.ntmps3
  go_wp2_with fail
  refine (hosts_any _).mono ?_
  rintro e w1 ⟨rfl, hb1, hs1, H1⟩
  have HH1 : Hid (HB w1 (w.heap.size + 2)) := H1
  have HB1 : Hid (Below w.heap.size w w1) := hb1
  clear H1 hb1
  go_wp2_with fail
  refine (fill_any _ _ _ _ _ (w.heap.size + 2) len cap a0 _ ?_ ?_ ?_).mono ?_
  · exact ⟨rfl, rfl, rfl, rfl, rfl⟩
  · exact HH1.out.alloc _
  · exact r.out.below ((HB1.out.alloc (by omega) _))
  intro e w3 F
  obtain ⟨c, m, rfl, HW, hm5, HP, HB3, hs3, HC⟩ := stage HB1.out hs1 F
  clear F HH1 HB1 hs1
  have ck := HC.out k hk5
  go_wp2_with fail
  have S4 := st4 c a2 3 (decide (0 < a2)) hs3 HC.out
  have P4 : PM (W4 w3 w.heap.size c a2 3 (decide (0 < a2))) (w.heap.size + 11) (w.heap.size + 2) (Fz c) m := (((HP.out.alloc _).alloc _).alloc _).alloc _
  refine (left_job _ _ (w.heap.size + 11) (w.heap.size + 2) m k _ (Fz c) a2 _ S4.p1 S4.j1 S4.j3 P4 hk5 rfl).mono ?_
  rintro e w4 ⟨rfl, P5, t5⟩
  have HS : Hid (St w4 w.heap.size c a2 3) := S4.turned t5
  have HB5 : Hid (Below w.heap.size w w4) := below_turned (below4 HB3.out hs3 c a2 3 _) t5 (by omega)
  have HP5 : Hid (PM w4 (w.heap.size + 11) (w.heap.size + 2) (leftF (Fz c) k) (leftN (Fz c) k m)) := P5
  have p1 := HS.out.p1
  have j1 := HS.out.j1
  have j2 := HS.out.j2
  have j3 := HS.out.j3
  have hsk := HS.out.hs k hk5
  have cnk := HS.out.cn k hk5
  have hak := HS.out.ha k hk5
  have HP0 : Hid (PM (W4 w3 w.heap.size c a2 3 (decide (0 < a2))) (w.heap.size + 11) (w.heap.size + 2) (Fz c) m) := P4
  clear S4 P4 P5 t5 HB3 HP HC ck hs3
  have hne := neq_ptr_same
  have hm1 : c k ≠ 0 → 1 ≤ m := fun h => HP0.out.pos (k := k) (by rw [Fz_isSome]; simpa using h)
  by_cases hz : c k = 0
  · have hl : ∀ ty, (Builtin.len_ #[26] ty #[.map (some (w.heap.size + 11))]).run Yba.prog w4 = .ok (.int .i64 (m + 1)) w4 := fun ty => by
      have := pm_len HP5.out ty
      rw [leftN_zero m hz] at this
      exact this
    have HL : Hid (∀ n, (Instr.lookup 26 (.map (some (w.heap.size + 11))) (.pointer (some ⟨w.heap.size + 2 + k, 0, none⟩)) true).run Yba.prog (w4.drewN n) = .ok (.tuple #[.int .i32 (-1), .bool true]) (w4.drewN n)) := fun n => by
      have := pm_look_ok (w := w4.drewN n) HP5.out hk5 rfl
      rw [(leftF_same c k).1, (leftF_same c k).2, hz] at this
      simpa [wrap_neg_one] using this
    go_wp2
    clear hl
    go_loopw [22] (fun i wr => ∃ j q : Nat, j ≤ 5 ∧ i = .int .i64 j ∧ wr = w4.drewN q) (fun i _ => 5 - (intOf i).toNat)
    case atStart => exact ⟨0, 0, by omega, rfl, rfl⟩
    case round =>
      obtain ⟨j, q, hj, rfl, rfl⟩ := hrel
      by_cases hlt : j < 5
      · have hsj := HS.out.hs j hlt
        by_cases hjk : j = k
        · subst hjk
          have hlk := HL.out
          go_wp2
          go_quiet (fail)
          go_wp2
          all_goals
            go_roundw
            case rel => exact ⟨j + 1, _, by omega, by go_num, rfl⟩
            case measure => simp [intOf]; omega
        · have cnj := HS.out.cn j hlt
          have haj := HS.out.ha j hlt
          have hjk' : ((j : Int) == (k : Int)) = false := by simp; omega
          have hlk : ∀ n, (Instr.lookup 26 (.map (some (w.heap.size + 11))) (.pointer (some ⟨w.heap.size + 2 + j, 0, none⟩)) true).run Yba.prog (w4.drewN n) = .ok (.tuple #[.int .i32 (c j), .bool (!decide (c j = 0))]) (w4.drewN n) := fun n => by
            have := pm_look_ok (w := w4.drewN n) HP5.out hlt rfl
            rw [leftF_other c hjk, Fz_getD, Fz_isSome] at this
            exact this
          go_wp2
          go_quiet (fail)
          go_wp2
          all_goals
            go_roundw
            case rel => exact ⟨j + 1, _, by omega, by go_num, rfl⟩
            case measure => simp [intOf]; omega
      · go_wp2
        go_ret
        exact ⟨rfl, below_drewN HB5.out _⟩
  · have hz' : decide (c k = 0) = false := by simpa using hz
    have hm2 : 1 ≤ m := hm1 hz
    clear hm1 HP0
    by_cases hn : wrap32 (c k - 1) = 0
    · have hn0 : (wrap32 (c k - 1) == 0) = true := by simpa using hn
      have hn1 : (wrap32 (c k - 1) != 0) = false := by simp [hn]
      have hl : ∀ ty, (Builtin.len_ #[26] ty #[.map (some (w.heap.size + 11))]).run Yba.prog w4 = .ok (.int .i64 (m - 1)) w4 := fun ty => by
        have := pm_len HP5.out ty
        rw [leftN_one m hz hn] at this
        have e9 : ((m - 1 : Nat) : Int) = (m : Int) - 1 := by omega
        rw [e9] at this
        exact this
      have HL : Hid (∀ n, (Instr.lookup 26 (.map (some (w.heap.size + 11))) (.pointer (some ⟨w.heap.size + 2 + k, 0, none⟩)) true).run Yba.prog (w4.drewN n) = .ok (.tuple #[.int .i32 (wrap32 (c k - 1)), .bool false]) (w4.drewN n)) := fun n => by
        have := pm_look_ok (w := w4.drewN n) HP5.out hk5 rfl
        rw [(leftF_same c k).1, (leftF_same c k).2] at this
        simpa [hn] using this
      clear hn
      go_wp2
      clear hl
      go_loopw [22] (fun i wr => ∃ j q : Nat, j ≤ 5 ∧ i = .int .i64 j ∧ wr = w4.drewN q) (fun i _ => 5 - (intOf i).toNat)
      case atStart => exact ⟨0, 0, by omega, rfl, rfl⟩
      case round =>
        obtain ⟨j, q, hj, rfl, rfl⟩ := hrel
        by_cases hlt : j < 5
        · have hsj := HS.out.hs j hlt
          by_cases hjk : j = k
          · subst hjk
            have hlk := HL.out
            go_wp2
            go_quiet (fail)
            go_wp2
            all_goals
              go_roundw
              case rel => exact ⟨j + 1, _, by omega, by go_num, rfl⟩
              case measure => simp [intOf]; omega
          · have cnj := HS.out.cn j hlt
            have haj := HS.out.ha j hlt
            have hjk' : ((j : Int) == (k : Int)) = false := by simp; omega
            have hlk : ∀ n, (Instr.lookup 26 (.map (some (w.heap.size + 11))) (.pointer (some ⟨w.heap.size + 2 + j, 0, none⟩)) true).run Yba.prog (w4.drewN n) = .ok (.tuple #[.int .i32 (c j), .bool (!decide (c j = 0))]) (w4.drewN n) := fun n => by
              have := pm_look_ok (w := w4.drewN n) HP5.out hlt rfl
              rw [leftF_other c hjk, Fz_getD, Fz_isSome] at this
              exact this
            go_wp2
            go_quiet (fail)
            go_wp2
            all_goals
              go_roundw
              case rel => exact ⟨j + 1, _, by omega, by go_num, rfl⟩
              case measure => simp [intOf]; omega
        · go_wp2
          go_ret
          exact ⟨rfl, below_drewN HB5.out _⟩
    · have hn0 : (wrap32 (c k - 1) == 0) = false := by simpa using hn
      have hn1 : (wrap32 (c k - 1) != 0) = true := by simpa using hn
      have hl : ∀ ty, (Builtin.len_ #[26] ty #[.map (some (w.heap.size + 11))]).run Yba.prog w4 = .ok (.int .i64 (m)) w4 := fun ty => by
        have := pm_len HP5.out ty
        rw [leftN_more m hz hn] at this
        exact this
      have HL : Hid (∀ n, (Instr.lookup 26 (.map (some (w.heap.size + 11))) (.pointer (some ⟨w.heap.size + 2 + k, 0, none⟩)) true).run Yba.prog (w4.drewN n) = .ok (.tuple #[.int .i32 (wrap32 (c k - 1)), .bool true]) (w4.drewN n)) := fun n => by
        have := pm_look_ok (w := w4.drewN n) HP5.out hk5 rfl
        rw [(leftF_same c k).1, (leftF_same c k).2] at this
        simpa [hn] using this
      clear hn
      go_wp2
      clear hl
      go_loopw [22] (fun i wr => ∃ j q : Nat, j ≤ 5 ∧ i = .int .i64 j ∧ wr = w4.drewN q) (fun i _ => 5 - (intOf i).toNat)
      case atStart => exact ⟨0, 0, by omega, rfl, rfl⟩
      case round =>
        obtain ⟨j, q, hj, rfl, rfl⟩ := hrel
        by_cases hlt : j < 5
        · have hsj := HS.out.hs j hlt
          by_cases hjk : j = k
          · subst hjk
            have hlk := HL.out
            go_wp2
            go_quiet (fail)
            go_wp2
            all_goals
              go_roundw
              case rel => exact ⟨j + 1, _, by omega, by go_num, rfl⟩
              case measure => simp [intOf]; omega
          · have cnj := HS.out.cn j hlt
            have haj := HS.out.ha j hlt
            have hjk' : ((j : Int) == (k : Int)) = false := by simp; omega
            have hlk : ∀ n, (Instr.lookup 26 (.map (some (w.heap.size + 11))) (.pointer (some ⟨w.heap.size + 2 + j, 0, none⟩)) true).run Yba.prog (w4.drewN n) = .ok (.tuple #[.int .i32 (c j), .bool (!decide (c j = 0))]) (w4.drewN n) := fun n => by
              have := pm_look_ok (w := w4.drewN n) HP5.out hlt rfl
              rw [leftF_other c hjk, Fz_getD, Fz_isSome] at this
              exact this
            go_wp2
            go_quiet (fail)
            go_wp2
            all_goals
              go_roundw
              case rel => exact ⟨j + 1, _, by omega, by go_num, rfl⟩
              case measure => simp [intOf]; omega
        · go_wp2
          go_ret
          exact ⟨rfl, below_drewN HB5.out _⟩
end Go.Proofs.Ybulkcray
