import Derived.Test.YbulkcrayLeft
import Derived.Deep.Draws
import Derived.WalkSmall
namespace Go.Proofs.Ybulkcray
open Go.RowKit
open Go.ChangeMaps (setBlock heap_setBlock_same heap_setBlock_other)

theorem world_ext {w w' : World} (h1 : w.heap = w'.heap) (h2 : w' = { w with heap := w'.heap }) : w = w' := by
  rw [h2, ← h1]

theorem setBlock_alloc_lt (w : World) (o o' : Obj) (b : Nat) (h : b < w.heap.size) : setBlock (w.alloc o) b o' = (setBlock w b o').alloc o := by
  refine world_ext ?_ rfl
  show (w.heap.push o).setIfInBounds b o' = (w.heap.setIfInBounds b o').push o
  apply Array.ext_getElem?
  intro i
  simp only [Array.getElem?_setIfInBounds, Array.getElem?_push, Array.size_push, Array.size_setIfInBounds]
  by_cases e : b = i
  · subst e
    rw [if_pos rfl, if_pos (by omega), if_neg (by omega), if_pos rfl, if_pos h]
  · rw [if_neg e]
    by_cases e2 : i = w.heap.size
    · simp [e2]
    · simp [e2, e]

theorem setBlock_alloc_at (w : World) (o o' : Obj) : setBlock (w.alloc o) w.heap.size o' = w.alloc o' := by
  refine world_ext ?_ rfl
  show (w.heap.push o).setIfInBounds w.heap.size o' = w.heap.push o'
  apply Array.ext_getElem?
  intro i
  simp only [Array.getElem?_setIfInBounds, Array.getElem?_push, Array.size_push]
  by_cases e : w.heap.size = i
  · subst e
    simp
  · rw [if_neg e, if_neg (by omega), if_neg (by omega)]

theorem setBlock_X (w : World) (O0 O1 O2 O4 O5 o o' : Obj) (m : Nat) :
    setBlock (((((((w.alloc O0).alloc O1).alloc O2).alloc o).alloc O4).alloc O5).drewN m) (w.heap.size + 3) o' = (((((((w.alloc O0).alloc O1).alloc O2).alloc o').alloc O4).alloc O5).drewN m) := by
  have h1 : (((w.alloc O0).alloc O1).alloc O2).heap.size = w.heap.size + 3 := by simp
  have e0 : ∀ (u : World) (b : Nat) (x : Obj), setBlock (u.drewN m) b x = (setBlock u b x).drewN m := fun _ _ _ => rfl
  rw [e0, setBlock_alloc_lt _ _ _ _ (by simp), setBlock_alloc_lt _ _ _ _ (by simp), ← h1, setBlock_alloc_at]

theorem PM_mk {w : World} {M h n : Nat} {f : Nat → Option Int} {es : Array MapEntry} {clk : Nat} (H : HB w h) (hb : w.heap[M]? = some (.map es clk)) (e : Ents es h f n) : PM w M h f n := ⟨H, es, clk, hb, e⟩

theorem Ents_empty (h : Nat) : Ents #[] h (fun _ => none) 0 := ⟨[], by simp⟩

theorem heap_X (w : World) (O0 O1 O2 O4 O5 o : Obj) : ((((((w.alloc O0).alloc O1).alloc O2).alloc o).alloc O4).alloc O5).heap[w.heap.size + 3]? = some o := by
  have e : ∀ (u : World) (o : Obj), (u.alloc o).heap = u.heap.push o := fun _ _ => rfl
  simp [e, Array.getElem_push]

theorem HB.alloc {w : World} {h : Nat} (H : HB w h) (o : Obj) : HB (w.alloc o) h := by
  intro i hi
  obtain ⟨c, t, hc⟩ := H i hi
  refine ⟨c, t, ?_⟩
  have hlt : h + i < w.heap.size := by
    by_cases hlt : h + i < w.heap.size
    · exact hlt
    · have : w.heap[h + i]? = none := by simp; omega
      rw [this] at hc
      cases hc
  rw [Below.heap_alloc _ _ _ hlt]
  exact hc

theorem HB.X {w : World} {h : Nat} (H : HB w h) (O0 O1 O2 O4 O5 o : Obj) : HB ((((((w.alloc O0).alloc O1).alloc O2).alloc o).alloc O4).alloc O5) h :=
  (((((H.alloc O0).alloc O1).alloc O2).alloc o).alloc O4).alloc O5

/-- a store into the map of the world that 'fill' works in -/
theorem fill_put (w : World) (O0 O1 O2 O4 O5 : Obj) (es : Array MapEntry) (clk : Nat) {h n : Nat} {f : Nat → Option Int} {a kb : Nat} (ha : a < 5) (hkb : kb = h + a) (v : Int) (H : HB w h) (E : Ents es h f n) :
    ∃ es' clk', (∀ m, (Instr.mapUpdate 26 (.map (some (w.heap.size + 3))) (.pointer (some ⟨kb, 0, none⟩)) (.int .i32 v)).run Yba.prog (((((((w.alloc O0).alloc O1).alloc O2).alloc (.map es clk)).alloc O4).alloc O5).drewN m)
        = .ok () (((((((w.alloc O0).alloc O1).alloc O2).alloc (.map es' clk')).alloc O4).alloc O5).drewN m)) ∧
      Ents es' h (upd f a (some v)) (if (f a).isSome then n else n + 1) := by
  obtain ⟨j, hj, hs⟩ := host_info
  subst hkb
  obtain ⟨es', clk', h1, h2⟩ := E.put Yba.underlying26 Yba.underlying23 hj hs ha v clk
  refine ⟨es', clk', fun m => ?_, h1⟩
  have h3 := h2 (((((((w.alloc O0).alloc O1).alloc O2).alloc (.map es clk)).alloc O4).alloc O5).drewN m) (w.heap.size + 3) (H.X O0 O1 O2 O4 O5 (.map es clk)) (heap_X w O0 O1 O2 O4 O5 (.map es clk))
  rw [setBlock_X] at h3
  exact h3

theorem setCell_drewN (w : World) (n : Nat) (a : Addr) (v : Value) : (w.drewN n).setCell a v = (w.setCell a v).drewN n := rfl
attribute [local go_sem] setCell_drewN

theorem below_X (w : World) (o0 o1 o2 o3 o4 o5 : Obj) (q : Nat) : Below w.heap.size w (((((((w.alloc o0).alloc o1).alloc o2).alloc o3).alloc o4).alloc o5).drewN q) :=
  below_drewN (((((((Below.refl _ _).alloc (Nat.le_refl _) _).alloc (by simp) _).alloc (by simp; omega) _).alloc (by simp; omega) _).alloc (by simp; omega) _).alloc (by simp; omega) _) q

def Fz (c : Nat → Int) (i : Nat) : Option Int := if c i = 0 then none else some (c i)

theorem Fz_upd (c : Nat → Int) (k : Nat) (z : Int) (hz : z ≠ 0) : upd (Fz c) k (some z) = Fz (fun j => if j = k then z else c j) := by
  funext i
  unfold upd Fz
  by_cases e : i = k
  · simp [e, hz]
  · simp [e]

theorem step_zero {c : Nat → Int} {k : Nat} {z : Int} (h : Hid (∀ j, k ≤ j → c j = 0)) : Hid (∀ j, k + 1 ≤ j → (if j = k then z else c j) = 0) := by
  intro j hj
  rw [if_neg (by omega)]
  exact h.out j (by omega)
theorem step_flag {c : Nat → Int} {d : Nat → Bool} {k : Nat} {z : Int} (h : Hid (∀ j, d j = decide (c j ≠ 0))) (hz : Hid (z ≠ 0)) : Hid (∀ j, (if j = k then true else d j) = decide ((if j = k then z else c j) ≠ 0)) := by
  intro j
  by_cases e : j = k
  · simpa [e] using hz.out
  · simp only [e, if_false]
    exact h.out j
theorem step_wf {c : Nat → Int} {k : Nat} {z : Int} (h : Hid (∀ j, (Lit.int .i32 (c j)).wf = true)) (hz : Hid ((Lit.int .i32 z).wf = true)) : Hid (∀ j, (Lit.int .i32 (if j = k then z else c j)).wf = true) := by
  intro j
  by_cases e : j = k
  · simpa [e] using hz.out
  · simp only [e, if_false]
    exact h.out j

set_option maxHeartbeats 1000000 in
theorem fill_some (p0 p1 p2 p3 p4 h b off len cap : Nat) (hp : Hid (p0 = h + 0 ∧ p1 = h + 1 ∧ p2 = h + 2 ∧ p3 = h + 3 ∧ p4 = h + 4)) (w : World) (HH : Hid (HB w h)) (_hlen : len ≤ cap) (_hcap : cap ≤ 9223372036854775807)
    (HC : Hid (∀ i, i < len → ∃ z, w.cell? ⟨b, off + i, none⟩ = some (.int .i32 z) ∧ (Lit.int .i32 z).wf = true)) (hb : b < w.heap.size) :
    Calls Yba.prog 8 #[.agg #[.pointer (some ⟨p0, 0, none⟩), .pointer (some ⟨p1, 0, none⟩), .pointer (some ⟨p2, 0, none⟩), .pointer (some ⟨p3, 0, none⟩), .pointer (some ⟨p4, 0, none⟩)], .slice (some ⟨b, off, none⟩) len cap] w fun e w' =>
      ∃ (c : Nat → Int) (m : Nat), e = .returned (.tuple #[.map (some (w.heap.size + 3)), .agg #[.int .i32 (c 0), .int .i32 (c 1), .int .i32 (c 2), .int .i32 (c 3), .int .i32 (c 4)],
        .agg #[.bool (decide (c 0 ≠ 0)), .bool (decide (c 1 ≠ 0)), .bool (decide (c 2 ≠ 0)), .bool (decide (c 3 ≠ 0)), .bool (decide (c 4 ≠ 0))], .int .i64 m]) ∧ (∀ j, (Lit.int .i32 (c j)).wf = true) ∧ m ≤ 5 ∧
        PM w' (w.heap.size + 3) h (Fz c) m ∧ Below w.heap.size w w' ∧ w'.heap.size = w.heap.size + 6 := by
  have hmm := @run_makeMap Yba.prog
  go_enter Yba.func8, Yba.ntmps8
  go_wp2
  go_loopw [11, 12] (fun n i wr => ∃ (k q clk m : Nat) (es : Array MapEntry) (c : Nat → Int) (d : Nat → Bool), k ≤ 5 ∧ i = .int .i64 k ∧ n = .int .i64 m ∧ m ≤ k ∧ Hid (∀ j, k ≤ j → c j = 0) ∧ Hid (∀ j, d j = decide (c j ≠ 0)) ∧
      Hid (∀ j, (Lit.int .i32 (c j)).wf = true) ∧ Hid (Ents es h (Fz c) m) ∧
      wr = ((((((w.alloc (.cells #[.pointer (some ⟨p0, 0, none⟩), .pointer (some ⟨p1, 0, none⟩), .pointer (some ⟨p2, 0, none⟩), .pointer (some ⟨p3, 0, none⟩), .pointer (some ⟨p4, 0, none⟩)] 24)).alloc
        (.cells #[.int .i32 0, .int .i32 0, .int .i32 0, .int .i32 0, .int .i32 0] 27)).alloc (.cells #[.bool false, .bool false, .bool false, .bool false, .bool false] 28)).alloc (.map es clk)).alloc
        (.cells #[.int .i32 (c 0), .int .i32 (c 1), .int .i32 (c 2), .int .i32 (c 3), .int .i32 (c 4)] 27)).alloc (.cells #[.bool (d 0), .bool (d 1), .bool (d 2), .bool (d 3), .bool (d 4)] 28)).drewN q) (fun _ i _ => 5 - (intOf i).toNat)
  case atStart => exact ⟨0, 0, 0, 0, #[], fun _ => 0, fun _ => false, by omega, rfl, rfl, by omega, fun _ _ => rfl, fun _ => by simp, fun _ => (by decide : (Lit.int .i32 0).wf = true), Ents_empty h, rfl⟩
  case round =>
    obtain ⟨k, q, clk, m, es, c, d, hk, rfl, rfl, hmk, hc0, hd, hwf, hE, rfl⟩ := hrel
    by_cases hlt : k < len ∧ k < 5
    · obtain ⟨hl1, hl2⟩ := hlt
      obtain ⟨z, hz, wz⟩ := HC.out k hl1
      have HW : Hid ((Lit.int .i32 z).wf = true) := wz
      clear wz
      have hb1 : b < w.heap.size + 1 := by omega
      have hb2 : b < w.heap.size + 1 + 1 := by omega
      have hb3 : b < w.heap.size + 1 + 1 + 1 := by omega
      have hb4 : b < w.heap.size + 1 + 1 + 1 + 1 := by omega
      have hb5 : b < w.heap.size + 1 + 1 + 1 + 1 + 1 := by omega
      rcases (by omega : k = 0 ∨ k = 1 ∨ k = 2 ∨ k = 3 ∨ k = 4) with rfl | rfl | rfl | rfl | rfl
      · rw [Nat.add_zero] at hz
        by_cases hz0 : z = 0
        · have hz1 : (z != 0) = false := by simp [hz0]
          clear hz0
          go_wp2
          go_roundw
          case rel => exact ⟨1, q, clk, m, es, c, d, by omega, by go_num, rfl, by omega, fun j hj => hc0.out j (by omega), hd, hwf, hE, rfl⟩
          case measure => simp [intOf]
        · have hz1 : (z != 0) = true := by simpa using hz0
          obtain ⟨es', clk', hput, hE'⟩ := fill_put w (.cells #[.pointer (some ⟨p0, 0, none⟩), .pointer (some ⟨p1, 0, none⟩), .pointer (some ⟨p2, 0, none⟩), .pointer (some ⟨p3, 0, none⟩), .pointer (some ⟨p4, 0, none⟩)] 24) (.cells #[.int .i32 0, .int .i32 0, .int .i32 0, .int .i32 0, .int .i32 0] 27) (.cells #[.bool false, .bool false, .bool false, .bool false, .bool false] 28) (.cells #[.int .i32 (c 0), .int .i32 (c 1), .int .i32 (c 2), .int .i32 (c 3), .int .i32 (c 4)] 27) (.cells #[.bool (d 0), .bool (d 1), .bool (d 2), .bool (d 3), .bool (d 4)] 28) es clk (by omega : 0 < 5) hp.out.1 z HH.out hE.out
          have HE' : Hid (Ents es' h (Fz (fun j => if j = 0 then z else c j)) (m + 1)) := by
            have e1 : Fz c 0 = none := by unfold Fz; rw [if_pos (hc0.out 0 (by omega))]
            rw [e1, Fz_upd _ _ _ hz0] at hE'
            exact hE'
          have HZ : Hid (z ≠ 0) := hz0
          clear hE' hz0
          go_wp2
          go_region
          all_goals go_wp2
          all_goals go_roundw
          case rel => exact ⟨1, q + 1, clk', m + 1, es', fun j => if j = 0 then z else c j, fun j => if j = 0 then true else d j, by omega, by go_num, by go_num, by omega, step_zero hc0, step_flag hd HZ, step_wf hwf HW, HE', rfl⟩
          case measure => simp [intOf]
      · skip
        by_cases hz0 : z = 0
        · have hz1 : (z != 0) = false := by simp [hz0]
          clear hz0
          go_wp2
          go_roundw
          case rel => exact ⟨2, q, clk, m, es, c, d, by omega, by go_num, rfl, by omega, fun j hj => hc0.out j (by omega), hd, hwf, hE, rfl⟩
          case measure => simp [intOf]
        · have hz1 : (z != 0) = true := by simpa using hz0
          obtain ⟨es', clk', hput, hE'⟩ := fill_put w (.cells #[.pointer (some ⟨p0, 0, none⟩), .pointer (some ⟨p1, 0, none⟩), .pointer (some ⟨p2, 0, none⟩), .pointer (some ⟨p3, 0, none⟩), .pointer (some ⟨p4, 0, none⟩)] 24) (.cells #[.int .i32 0, .int .i32 0, .int .i32 0, .int .i32 0, .int .i32 0] 27) (.cells #[.bool false, .bool false, .bool false, .bool false, .bool false] 28) (.cells #[.int .i32 (c 0), .int .i32 (c 1), .int .i32 (c 2), .int .i32 (c 3), .int .i32 (c 4)] 27) (.cells #[.bool (d 0), .bool (d 1), .bool (d 2), .bool (d 3), .bool (d 4)] 28) es clk (by omega : 1 < 5) hp.out.2.1 z HH.out hE.out
          have HE' : Hid (Ents es' h (Fz (fun j => if j = 1 then z else c j)) (m + 1)) := by
            have e1 : Fz c 1 = none := by unfold Fz; rw [if_pos (hc0.out 1 (by omega))]
            rw [e1, Fz_upd _ _ _ hz0] at hE'
            exact hE'
          have HZ : Hid (z ≠ 0) := hz0
          clear hE' hz0
          go_wp2
          go_region
          all_goals go_wp2
          all_goals go_roundw
          case rel => exact ⟨2, q + 1, clk', m + 1, es', fun j => if j = 1 then z else c j, fun j => if j = 1 then true else d j, by omega, by go_num, by go_num, by omega, step_zero hc0, step_flag hd HZ, step_wf hwf HW, HE', rfl⟩
          case measure => simp [intOf]
      · skip
        by_cases hz0 : z = 0
        · have hz1 : (z != 0) = false := by simp [hz0]
          clear hz0
          go_wp2
          go_roundw
          case rel => exact ⟨3, q, clk, m, es, c, d, by omega, by go_num, rfl, by omega, fun j hj => hc0.out j (by omega), hd, hwf, hE, rfl⟩
          case measure => simp [intOf]
        · have hz1 : (z != 0) = true := by simpa using hz0
          obtain ⟨es', clk', hput, hE'⟩ := fill_put w (.cells #[.pointer (some ⟨p0, 0, none⟩), .pointer (some ⟨p1, 0, none⟩), .pointer (some ⟨p2, 0, none⟩), .pointer (some ⟨p3, 0, none⟩), .pointer (some ⟨p4, 0, none⟩)] 24) (.cells #[.int .i32 0, .int .i32 0, .int .i32 0, .int .i32 0, .int .i32 0] 27) (.cells #[.bool false, .bool false, .bool false, .bool false, .bool false] 28) (.cells #[.int .i32 (c 0), .int .i32 (c 1), .int .i32 (c 2), .int .i32 (c 3), .int .i32 (c 4)] 27) (.cells #[.bool (d 0), .bool (d 1), .bool (d 2), .bool (d 3), .bool (d 4)] 28) es clk (by omega : 2 < 5) hp.out.2.2.1 z HH.out hE.out
          have HE' : Hid (Ents es' h (Fz (fun j => if j = 2 then z else c j)) (m + 1)) := by
            have e1 : Fz c 2 = none := by unfold Fz; rw [if_pos (hc0.out 2 (by omega))]
            rw [e1, Fz_upd _ _ _ hz0] at hE'
            exact hE'
          have HZ : Hid (z ≠ 0) := hz0
          clear hE' hz0
          go_wp2
          go_region
          all_goals go_wp2
          all_goals go_roundw
          case rel => exact ⟨3, q + 1, clk', m + 1, es', fun j => if j = 2 then z else c j, fun j => if j = 2 then true else d j, by omega, by go_num, by go_num, by omega, step_zero hc0, step_flag hd HZ, step_wf hwf HW, HE', rfl⟩
          case measure => simp [intOf]
      · skip
        by_cases hz0 : z = 0
        · have hz1 : (z != 0) = false := by simp [hz0]
          clear hz0
          go_wp2
          go_roundw
          case rel => exact ⟨4, q, clk, m, es, c, d, by omega, by go_num, rfl, by omega, fun j hj => hc0.out j (by omega), hd, hwf, hE, rfl⟩
          case measure => simp [intOf]
        · have hz1 : (z != 0) = true := by simpa using hz0
          obtain ⟨es', clk', hput, hE'⟩ := fill_put w (.cells #[.pointer (some ⟨p0, 0, none⟩), .pointer (some ⟨p1, 0, none⟩), .pointer (some ⟨p2, 0, none⟩), .pointer (some ⟨p3, 0, none⟩), .pointer (some ⟨p4, 0, none⟩)] 24) (.cells #[.int .i32 0, .int .i32 0, .int .i32 0, .int .i32 0, .int .i32 0] 27) (.cells #[.bool false, .bool false, .bool false, .bool false, .bool false] 28) (.cells #[.int .i32 (c 0), .int .i32 (c 1), .int .i32 (c 2), .int .i32 (c 3), .int .i32 (c 4)] 27) (.cells #[.bool (d 0), .bool (d 1), .bool (d 2), .bool (d 3), .bool (d 4)] 28) es clk (by omega : 3 < 5) hp.out.2.2.2.1 z HH.out hE.out
          have HE' : Hid (Ents es' h (Fz (fun j => if j = 3 then z else c j)) (m + 1)) := by
            have e1 : Fz c 3 = none := by unfold Fz; rw [if_pos (hc0.out 3 (by omega))]
            rw [e1, Fz_upd _ _ _ hz0] at hE'
            exact hE'
          have HZ : Hid (z ≠ 0) := hz0
          clear hE' hz0
          go_wp2
          go_region
          all_goals go_wp2
          all_goals go_roundw
          case rel => exact ⟨4, q + 1, clk', m + 1, es', fun j => if j = 3 then z else c j, fun j => if j = 3 then true else d j, by omega, by go_num, by go_num, by omega, step_zero hc0, step_flag hd HZ, step_wf hwf HW, HE', rfl⟩
          case measure => simp [intOf]
      · skip
        by_cases hz0 : z = 0
        · have hz1 : (z != 0) = false := by simp [hz0]
          clear hz0
          go_wp2
          go_roundw
          case rel => exact ⟨5, q, clk, m, es, c, d, by omega, by go_num, rfl, by omega, fun j hj => hc0.out j (by omega), hd, hwf, hE, rfl⟩
          case measure => simp [intOf]
        · have hz1 : (z != 0) = true := by simpa using hz0
          obtain ⟨es', clk', hput, hE'⟩ := fill_put w (.cells #[.pointer (some ⟨p0, 0, none⟩), .pointer (some ⟨p1, 0, none⟩), .pointer (some ⟨p2, 0, none⟩), .pointer (some ⟨p3, 0, none⟩), .pointer (some ⟨p4, 0, none⟩)] 24) (.cells #[.int .i32 0, .int .i32 0, .int .i32 0, .int .i32 0, .int .i32 0] 27) (.cells #[.bool false, .bool false, .bool false, .bool false, .bool false] 28) (.cells #[.int .i32 (c 0), .int .i32 (c 1), .int .i32 (c 2), .int .i32 (c 3), .int .i32 (c 4)] 27) (.cells #[.bool (d 0), .bool (d 1), .bool (d 2), .bool (d 3), .bool (d 4)] 28) es clk (by omega : 4 < 5) hp.out.2.2.2.2 z HH.out hE.out
          have HE' : Hid (Ents es' h (Fz (fun j => if j = 4 then z else c j)) (m + 1)) := by
            have e1 : Fz c 4 = none := by unfold Fz; rw [if_pos (hc0.out 4 (by omega))]
            rw [e1, Fz_upd _ _ _ hz0] at hE'
            exact hE'
          have HZ : Hid (z ≠ 0) := hz0
          clear hE' hz0
          go_wp2
          go_region
          all_goals go_wp2
          all_goals go_roundw
          case rel => exact ⟨5, q + 1, clk', m + 1, es', fun j => if j = 4 then z else c j, fun j => if j = 4 then true else d j, by omega, by go_num, by go_num, by omega, step_zero hc0, step_flag hd HZ, step_wf hwf HW, HE', rfl⟩
          case measure => simp [intOf]
    · by_cases h5 : k < 5
      all_goals
        have hn : ¬ (k < 5) ∨ ¬ ((k : Int) < (len : Int)) := by omega
        go_wp2
        go_region
        all_goals go_wp2
        refine bodyPost_ret (v := .tuple #[.map (some (w.heap.size + 3)), .agg #[.int .i32 (c 0), .int .i32 (c 1), .int .i32 (c 2), .int .i32 (c 3), .int .i32 (c 4)], .agg #[.bool (d 0), .bool (d 1), .bool (d 2), .bool (d 3), .bool (d 4)], .int .i64 m]) ?_ rfl ?_
        · simp [results, Yba.results8, go_sem]
        · refine ⟨c, m, ?_, hwf.out, by omega, PM_mk (clk := clk) ?_ ?_ hE.out, ?_, ?_⟩
          · have hd' := hd.out
            rw [hd' 0, hd' 1, hd' 2, hd' 3, hd' 4]
          · exact HH.out.X _ _ _ _ _ _
          · exact heap_X _ _ _ _ _ _ _
          · exact below_X _ _ _ _ _ _ _ _
          · simp

/-- what 'fill' leaves -/
def Filled (w : World) (h : Nat) (e : Ending) (w' : World) : Prop :=
  ∃ (c : Nat → Int) (m : Nat), e = .returned (.tuple #[.map (some (w.heap.size + 3)), .agg #[.int .i32 (c 0), .int .i32 (c 1), .int .i32 (c 2), .int .i32 (c 3), .int .i32 (c 4)],
        .agg #[.bool (decide (c 0 ≠ 0)), .bool (decide (c 1 ≠ 0)), .bool (decide (c 2 ≠ 0)), .bool (decide (c 3 ≠ 0)), .bool (decide (c 4 ≠ 0))], .int .i64 m]) ∧ (∀ j, (Lit.int .i32 (c j)).wf = true) ∧ m ≤ 5 ∧
        PM w' (w.heap.size + 3) h (Fz c) m ∧ Below w.heap.size w w' ∧ w'.heap.size = w.heap.size + 6

theorem fill_none (p0 p1 p2 p3 p4 h cap : Nat) (a0 : Option Addr) (w : World) (HH : Hid (HB w h)) :
    Calls Yba.prog 8 #[.agg #[.pointer (some ⟨p0, 0, none⟩), .pointer (some ⟨p1, 0, none⟩), .pointer (some ⟨p2, 0, none⟩), .pointer (some ⟨p3, 0, none⟩), .pointer (some ⟨p4, 0, none⟩)], .slice a0 0 cap] w fun e w' => Filled w h e w' := by
  have hmm := @run_makeMap Yba.prog
  go_enter Yba.func8, Yba.ntmps8
  go_wp2
  refine wp_loop_rounds 1 ?_
  rw [rounds_succ]
  go_wp2
  go_region
  all_goals go_wp2
  refine bodyPost_ret (v := .tuple #[.map (some (w.heap.size + 3)), .agg #[.int .i32 0, .int .i32 0, .int .i32 0, .int .i32 0, .int .i32 0], .agg #[.bool false, .bool false, .bool false, .bool false, .bool false], .int .i64 0]) ?_ rfl ?_
  · simp [results, Yba.results8, go_sem]
  · refine ⟨fun _ => 0, 0, ?_, fun _ => (by decide : (Lit.int .i32 0).wf = true), by omega, PM_mk (clk := 0) ?_ ?_ (Ents_empty h), ?_, ?_⟩
    · simp
    · exact HH.out.X _ _ _ _ _ _
    · exact heap_X _ _ _ _ _ _ _
    · exact below_X _ _ _ _ _ _ _ 1
    · simp

/-- the slice of counts as it came in -/
def RowIn (w : World) (a0 : Option Addr) (len cap : Nat) : Prop :=
  len = 0 ∨ ∃ b off, a0 = some ⟨b, off, none⟩ ∧ len ≤ cap ∧ cap ≤ 9223372036854775807 ∧ b < w.heap.size ∧ ∀ i, i < len → ∃ z, w.cell? ⟨b, off + i, none⟩ = some (.int .i32 z) ∧ (Lit.int .i32 z).wf = true

theorem RowIn.below {w w' : World} {a0 : Option Addr} {len cap : Nat} (r : RowIn w a0 len cap) (hb : Below w.heap.size w w') : RowIn w' a0 len cap := by
  rcases r with r | ⟨b, off, h1, h2, h3, h4, h5⟩
  · exact Or.inl r
  · refine Or.inr ⟨b, off, h1, h2, h3, Nat.lt_of_lt_of_le h4 hb.size, fun i hi => ?_⟩
    obtain ⟨z, hz, hw⟩ := h5 i hi
    exact ⟨z, (hb.cell (p := ⟨b, off + i, none⟩) h4).trans hz, hw⟩

theorem fill_any (p0 p1 p2 p3 p4 h len cap : Nat) (a0 : Option Addr) (w : World) (hp : Hid (p0 = h + 0 ∧ p1 = h + 1 ∧ p2 = h + 2 ∧ p3 = h + 3 ∧ p4 = h + 4)) (HH : Hid (HB w h)) (r : Hid (RowIn w a0 len cap)) :
    Calls Yba.prog 8 #[.agg #[.pointer (some ⟨p0, 0, none⟩), .pointer (some ⟨p1, 0, none⟩), .pointer (some ⟨p2, 0, none⟩), .pointer (some ⟨p3, 0, none⟩), .pointer (some ⟨p4, 0, none⟩)], .slice a0 len cap] w fun e w' => Filled w h e w' := by
  rcases r.out with rfl | ⟨b, off, rfl, h2, h3, h4, h5⟩
  · exact fill_none p0 p1 p2 p3 p4 h cap a0 w HH
  · exact fill_some p0 p1 p2 p3 p4 h b off len cap hp w HH h2 h3 h5 h4
end Go.Proofs.Ybulkcray
