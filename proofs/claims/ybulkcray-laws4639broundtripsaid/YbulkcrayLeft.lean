import Derived.Test.YbulkcrayHosts
namespace Go.Proofs.Ybulkcray
open Go.RowKit
open Go.ChangeMaps (setBlock heap_setBlock_same heap_setBlock_other)

theorem Yba.own : ownKnob Yba.prog.godebug = none := by kernel_rfl
theorem host_size : (Yba.prog.info? 74).map (fun i => decide (i.size = 0)) = some false := by kernel_rfl
theorem host_info : ∃ j, Yba.prog.info? 74 = some j ∧ j.size ≠ 0 := by
  have h := host_size
  cases hi : Yba.prog.info? 74 with
  | none => rw [hi] at h; cases h
  | some j => rw [hi] at h; exact ⟨j, rfl, by simpa using h⟩
theorem zero21 (w : World) : (zeroValue 21).run Yba.prog w = .ok (.int .i32 0) w := by kernel_rfl

theorem pm_look {w : World} {M h n : Nat} {f : Nat → Option Int} (p : PM w M h f n) {a kb : Nat} (ha : a < 5) (hkb : kb = h + a) :
    (Instr.lookup 26 (.map (some M)) (.pointer (some ⟨kb, 0, none⟩)) false).run Yba.prog w = .ok (.int .i32 ((f a).getD 0)) w := by
  obtain ⟨j, hj, hs⟩ := host_info
  subst hkb
  simpa using p.look Yba.underlying26 Yba.underlying23 hj hs (zero21 w) ha false
theorem pm_look_ok {w : World} {M h n : Nat} {f : Nat → Option Int} (p : PM w M h f n) {a kb : Nat} (ha : a < 5) (hkb : kb = h + a) :
    (Instr.lookup 26 (.map (some M)) (.pointer (some ⟨kb, 0, none⟩)) true).run Yba.prog w = .ok (.tuple #[.int .i32 ((f a).getD 0), .bool (f a).isSome]) w := by
  obtain ⟨j, hj, hs⟩ := host_info
  subst hkb
  simpa using p.look Yba.underlying26 Yba.underlying23 hj hs (zero21 w) ha true
theorem PM.block {w : World} {M h n : Nat} {f : Nat → Option Int} (p : PM w M h f n) : ∃ es clock, w.heap[M]? = some (.map es clock) := by
  obtain ⟨_, es, clock, hb, _⟩ := p
  exact ⟨es, clock, hb⟩
theorem pm_put {w : World} {M h n : Nat} {f : Nat → Option Int} (p : PM w M h f n) {a kb : Nat} (ha : a < 5) (hkb : kb = h + a) (v : Int) :
    ∃ w1, (Instr.mapUpdate 26 (.map (some M)) (.pointer (some ⟨kb, 0, none⟩)) (.int .i32 v)).run Yba.prog w = .ok () w1 ∧ PM w1 M h (upd f a (some v)) (if (f a).isSome then n else n + 1) ∧ w.mapTurned w1 M := by
  obtain ⟨j, hj, hs⟩ := host_info
  subst hkb
  obtain ⟨es, clock, hb⟩ := p.block
  obtain ⟨es', clock', h1, h2⟩ := p.put Yba.underlying26 Yba.underlying23 hj hs ha v
  exact ⟨_, h1, h2, es, clock, es', clock', hb, rfl⟩
theorem pm_del {w : World} {M h n : Nat} {f : Nat → Option Int} (p : PM w M h f n) {a kb : Nat} (ha : a < 5) (hkb : kb = h + a) :
    ∃ w1, (∀ ty, (Builtin.delete_ #[26, 23] ty #[.map (some M), .pointer (some ⟨kb, 0, none⟩)]).run Yba.prog w = .ok (.tuple #[]) w1) ∧ PM w1 M h (upd f a none) (if (f a).isSome then n - 1 else n) ∧ w.mapTurned w1 M := by
  obtain ⟨j, hj, hs⟩ := host_info
  subst hkb
  obtain ⟨es, clock, hb⟩ := p.block
  obtain ⟨es', clock', h1, h2⟩ := p.del Yba.underlying26 Yba.underlying23 hj hs ha 0
  refine ⟨_, fun ty => ?_, h2, es, clock, es', clock', hb, rfl⟩
  rw [← h1]
  rfl
theorem pm_len {w : World} {M h n : Nat} {f : Nat → Option Int} (p : PM w M h f n) (ty : TypeId) : (Builtin.len_ #[26] ty #[.map (some M)]).run Yba.prog w = .ok (.int .i64 n) w :=
  p.len Yba.underlying26 ty

theorem turned_cell {w w1 : World} {M b o : Nat} {v : Value} (t : w.mapTurned w1 M) (h : w.cell? ⟨b, o, none⟩ = some v) : w1.cell? ⟨b, o, none⟩ = some v := by
  have hb : b ≠ M := by
    rintro rfl
    obtain ⟨es, clock, es', clock', hb, _⟩ := t
    simp [World.cell?, hb] at h
  rw [← h]
  exact World.cell?_of_block (w := w) (t.grown.block b (by
    by_cases hlt : b < w.heap.size
    · exact hlt
    · have : w.heap[b]? = none := by simp; omega
      simp [World.cell?, this] at h) (by simp [hb]))

/-- what 'left' makes of the map's counts -/
def leftF (f : Nat → Option Int) (k : Nat) : Nat → Option Int := if wrap32 ((f k).getD 0 - 1) = 0 then upd f k none else upd f k (some (wrap32 ((f k).getD 0 - 1)))
def leftN (f : Nat → Option Int) (k n : Nat) : Nat := if wrap32 ((f k).getD 0 - 1) = 0 then (if (f k).isSome then n - 1 else n) else (if (f k).isSome then n else n + 1)

theorem left_nil (kb : Nat) (w : World) : Calls Yba.prog 9 #[.pointer none, .pointer (some ⟨kb, 0, none⟩)] w fun e w' => e = .returned (.bool false) ∧ w' = w := by
  go_enter Yba.func9, Yba.ntmps9
  go_wp2
  go_ret
  exact ⟨rfl, rfl⟩

theorem left_nojob (pb kb : Nat) (w : World) (c1 : w.cell? ⟨pb, 1, none⟩ = some (.pointer none)) : Calls Yba.prog 9 #[.pointer (some ⟨pb, 0, none⟩), .pointer (some ⟨kb, 0, none⟩)] w fun e w' => e = .returned (.bool false) ∧ w' = w := by
  go_enter Yba.func9, Yba.ntmps9
  go_wp2
  go_ret
  exact ⟨rfl, rfl⟩

theorem upd_upd (f : Nat → Option Int) (k : Nat) (x y : Option Int) : upd (upd f k x) k y = upd f k y := by
  funext i
  unfold upd
  split <;> rfl

theorem left_core_zero (pb jb M kb : Nat) (c ap : Int) (w w1 w2 : World) (c1 : w.cell? ⟨pb, 1, none⟩ = some (.pointer (some ⟨jb, 0, none⟩))) (c2 : w.cell? ⟨jb, 1, none⟩ = some (.map (some M)))
    (l1 : (Instr.lookup 26 (.map (some M)) (.pointer (some ⟨kb, 0, none⟩)) false).run Yba.prog w = .ok (.int .i32 c) w)
    (r1 : (Instr.mapUpdate 26 (.map (some M)) (.pointer (some ⟨kb, 0, none⟩)) (.int .i32 (wrap32 (c - 1)))).run Yba.prog w = .ok () w1)
    (d1 : w1.cell? ⟨pb, 1, none⟩ = some (.pointer (some ⟨jb, 0, none⟩))) (d2 : w1.cell? ⟨jb, 1, none⟩ = some (.map (some M)))
    (l2 : (Instr.lookup 26 (.map (some M)) (.pointer (some ⟨kb, 0, none⟩)) false).run Yba.prog w1 = .ok (.int .i32 (wrap32 (c - 1))) w1)
    (hz : (wrap32 (c - 1) == 0) = true)
    (r2 : ∀ ty, (Builtin.delete_ #[26, 23] ty #[.map (some M), .pointer (some ⟨kb, 0, none⟩)]).run Yba.prog w1 = .ok (.tuple #[]) w2)
    (g1 : w2.cell? ⟨pb, 1, none⟩ = some (.pointer (some ⟨jb, 0, none⟩))) (g3 : w2.cell? ⟨jb, 3, none⟩ = some (.int .i64 ap)) :
    Calls Yba.prog 9 #[.pointer (some ⟨pb, 0, none⟩), .pointer (some ⟨kb, 0, none⟩)] w fun e w' => e = .returned (.bool (decide (0 < ap))) ∧ w2 = w' := by
  go_enter Yba.func9, Yba.ntmps9
  go_wp2
  go_ret
  exact ⟨rfl, rfl⟩

theorem left_core_not (pb jb M kb : Nat) (c ap : Int) (w w1 : World) (c1 : w.cell? ⟨pb, 1, none⟩ = some (.pointer (some ⟨jb, 0, none⟩))) (c2 : w.cell? ⟨jb, 1, none⟩ = some (.map (some M)))
    (l1 : (Instr.lookup 26 (.map (some M)) (.pointer (some ⟨kb, 0, none⟩)) false).run Yba.prog w = .ok (.int .i32 c) w)
    (r1 : (Instr.mapUpdate 26 (.map (some M)) (.pointer (some ⟨kb, 0, none⟩)) (.int .i32 (wrap32 (c - 1)))).run Yba.prog w = .ok () w1)
    (d1 : w1.cell? ⟨pb, 1, none⟩ = some (.pointer (some ⟨jb, 0, none⟩))) (d2 : w1.cell? ⟨jb, 1, none⟩ = some (.map (some M)))
    (l2 : (Instr.lookup 26 (.map (some M)) (.pointer (some ⟨kb, 0, none⟩)) false).run Yba.prog w1 = .ok (.int .i32 (wrap32 (c - 1))) w1)
    (hz : (wrap32 (c - 1) == 0) = false)
    (d3 : w1.cell? ⟨jb, 3, none⟩ = some (.int .i64 ap)) :
    Calls Yba.prog 9 #[.pointer (some ⟨pb, 0, none⟩), .pointer (some ⟨kb, 0, none⟩)] w fun e w' => e = .returned (.bool (decide (0 < ap))) ∧ w1 = w' := by
  go_enter Yba.func9, Yba.ntmps9
  go_wp2
  go_ret
  exact ⟨rfl, rfl⟩

theorem left_job (pb jb M h n k kb : Nat) (f : Nat → Option Int) (ap : Int) (w : World) (c1 : w.cell? ⟨pb, 1, none⟩ = some (.pointer (some ⟨jb, 0, none⟩))) (c2 : w.cell? ⟨jb, 1, none⟩ = some (.map (some M))) (c3 : w.cell? ⟨jb, 3, none⟩ = some (.int .i64 ap))
    (p : PM w M h f n) (hk : k < 5) (hkb : kb = h + k) :
    Calls Yba.prog 9 #[.pointer (some ⟨pb, 0, none⟩), .pointer (some ⟨kb, 0, none⟩)] w fun e w' => e = .returned (.bool (decide (0 < ap))) ∧ PM w' M h (leftF f k) (leftN f k n) ∧ w.mapTurned w' M := by
  have l1 := pm_look p hk hkb
  obtain ⟨w1, hr1, p1, t1⟩ := pm_put p hk hkb (wrap32 ((f k).getD 0 - 1))
  have l2 := pm_look p1 hk hkb
  have e1 : (upd f k (some (wrap32 ((f k).getD 0 - 1))) k).getD 0 = wrap32 ((f k).getD 0 - 1) := by simp [upd]
  rw [e1] at l2
  have d1 := turned_cell t1 c1
  have d2 := turned_cell t1 c2
  have d3 := turned_cell t1 c3
  by_cases hz : wrap32 ((f k).getD 0 - 1) = 0
  · obtain ⟨w2, hr2, p2, t2⟩ := pm_del p1 hk hkb
    have g1 := turned_cell t2 d1
    have g3 := turned_cell t2 d3
    refine (left_core_zero pb jb M kb _ ap w w1 w2 c1 c2 l1 hr1 d1 d2 l2 (by simpa using hz) hr2 g1 g3).mono ?_
    rintro e w' ⟨he, rfl⟩
    refine ⟨he, ?_, t1.trans t2⟩
    unfold leftF leftN
    rw [if_pos hz, if_pos hz]
    rw [upd_upd] at p2
    simp only [upd, if_true, Option.isSome_some] at p2
    cases hf : (f k).isSome <;> simpa [hf] using p2
  · refine (left_core_not pb jb M kb _ ap w w1 c1 c2 l1 hr1 d1 d2 l2 (by simpa using hz) d3).mono ?_
    rintro e w' ⟨he, rfl⟩
    refine ⟨he, ?_, t1⟩
    unfold leftF leftN
    rw [if_neg hz, if_neg hz]
    exact p1

/-! ### placed -/
def plF (f : Nat → Option Int) (k : Nat) : Nat → Option Int := upd f k (some (wrap32 ((f k).getD 0 + 1)))
def plN (f : Nat → Option Int) (k n : Nat) : Nat := if (f k).isSome then n else n + 1

theorem placed_core (pb jb M kb : Nat) (c : Int) (w w1 : World) (c1 : w.cell? ⟨pb, 1, none⟩ = some (.pointer (some ⟨jb, 0, none⟩))) (c2 : w.cell? ⟨jb, 1, none⟩ = some (.map (some M)))
    (l1 : (Instr.lookup 26 (.map (some M)) (.pointer (some ⟨kb, 0, none⟩)) false).run Yba.prog w = .ok (.int .i32 c) w)
    (r1 : (Instr.mapUpdate 26 (.map (some M)) (.pointer (some ⟨kb, 0, none⟩)) (.int .i32 (wrap32 (c + 1)))).run Yba.prog w = .ok () w1) :
    Calls Yba.prog 10 #[.pointer (some ⟨pb, 0, none⟩), .pointer (some ⟨kb, 0, none⟩)] w fun e w' => e = .returned (.tuple #[]) ∧ w1 = w' := by
  go_enter Yba.func10, Yba.ntmps10
  go_wp2
  go_end0
  exact ⟨rfl, rfl⟩

theorem placed_job (pb jb M h n k kb : Nat) (f : Nat → Option Int) (w : World) (c1 : w.cell? ⟨pb, 1, none⟩ = some (.pointer (some ⟨jb, 0, none⟩))) (c2 : w.cell? ⟨jb, 1, none⟩ = some (.map (some M)))
    (p : PM w M h f n) (hk : k < 5) (hkb : kb = h + k) :
    Calls Yba.prog 10 #[.pointer (some ⟨pb, 0, none⟩), .pointer (some ⟨kb, 0, none⟩)] w fun e w' => e = .returned (.tuple #[]) ∧ PM w' M h (plF f k) (plN f k n) ∧ w.mapTurned w' M := by
  have l1 := pm_look p hk hkb
  obtain ⟨w1, hr1, p1, t1⟩ := pm_put p hk hkb (wrap32 ((f k).getD 0 + 1))
  refine (placed_core pb jb M kb _ w w1 c1 c2 l1 hr1).mono ?_
  rintro e w' ⟨he, rfl⟩
  exact ⟨he, p1, t1⟩
end Go.Proofs.Ybulkcray
