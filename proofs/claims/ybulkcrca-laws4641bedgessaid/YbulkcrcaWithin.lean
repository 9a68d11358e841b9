import Derived.Test.YbulkcrcaTime
import Derived.Deep.QuietTactic
import Derived.BigQuiet
import Derived.Deep.RegionHeld3
import Derived.Deep.DeepMust
import Derived.Deep.RegionWith
namespace Go.Proofs.Ybulkcrca
open Go.RowKit

theorem Wall.both {n m : Int} (h : Wall n) (k : Wall m) : bits .and .u64 (bits .and .u64 n m) 9223372036854775808 = 0 := by
  have h1 := h.lo
  have h2 := h.hi
  have k1 := k.lo
  have k2 := k.hi
  rw [Go.u64_and n m h1 (by omega) k1 (by omega)]
  have hle : n.toNat &&& m.toNat ≤ n.toNat := Nat.and_le_left
  have e := Go.u64_and_nat (n.toNat &&& m.toNat) 9223372036854775808 (by omega) (by omega)
  rw [nat_high _ (by omega)] at e
  exact e

/-- the instant T nanoseconds from the zero time, as a value -/
abbrev tm (T : Int) : Value := .agg #[.int .u64 (T % 1000000000), .int .i64 (T / 1000000000), .pointer none]

theorem tdiv_facts (d : Int) : ∃ q r : Int, d.tdiv 1000000000 = q ∧ d.tmod 1000000000 = r ∧ d = q * 1000000000 + r ∧ -1000000000 < r ∧ r < 1000000000 := by
  refine ⟨_, _, rfl, rfl, ?_, ?_, ?_⟩
  · have := Int.mul_tdiv_add_tmod d 1000000000
    omega
  · by_cases h : 0 ≤ d
    · rw [Int.tmod_eq_emod_of_nonneg h]; omega
    · obtain ⟨e, rfl⟩ : ∃ e, d = -e := ⟨-d, by omega⟩
      rw [Int.neg_tmod, Int.tmod_eq_emod_of_nonneg (by omega)]; omega
  · by_cases h : 0 ≤ d
    · rw [Int.tmod_eq_emod_of_nonneg h]; omega
    · obtain ⟨e, rfl⟩ : ∃ e, d = -e := ⟨-d, by omega⟩
      rw [Int.neg_tmod, Int.tmod_eq_emod_of_nonneg (by omega)]; omega

theorem add_any (T d : Int) (w : World) (h1 : -30000000000000000000 ≤ T) (h2 : T ≤ 30000000000000000000) (d1 : -9223372036854775808 ≤ d) (d2 : d ≤ 9223372036854775807) :
    Calls Yba.prog 9 #[tm T, .int .i64 d] w fun e w' => e = .returned (tm (T + d)) ∧ Ext w w' := by
  obtain ⟨q, r, hq, hr, e, r1, r2⟩ := tdiv_facts d
  by_cases hge : 1000000000 ≤ T % 1000000000 + r
  · refine (add_hi (T % 1000000000) (T / 1000000000) d q r w (wall_mk (by omega) (by omega)) hq hr (by omega) (by omega) r1 r2 (by omega) (by omega) hge (wall_mk (by omega) (by omega))).mono ?_
    rintro e' w' ⟨rfl, hg⟩
    refine ⟨?_, hg⟩
    have e1 : T % 1000000000 + r - 1000000000 = (T + d) % 1000000000 := by omega
    have e2 : T / 1000000000 + (q + 1) = (T + d) / 1000000000 := by omega
    rw [e1, e2]
  · by_cases hlt : T % 1000000000 + r < 0
    · refine (add_lo (T % 1000000000) (T / 1000000000) d q r w (wall_mk (by omega) (by omega)) hq hr (by omega) (by omega) r1 r2 (by omega) (by omega) hge hlt (wall_mk (by omega) (by omega))).mono ?_
      rintro e' w' ⟨rfl, hg⟩
      refine ⟨?_, hg⟩
      have e1 : T % 1000000000 + r + 1000000000 = (T + d) % 1000000000 := by omega
      have e2 : T / 1000000000 + (q - 1) = (T + d) / 1000000000 := by omega
      rw [e1, e2]
    · refine (add_mid (T % 1000000000) (T / 1000000000) d q r w (wall_mk (by omega) (by omega)) hq hr (by omega) (by omega) r1 r2 (by omega) (by omega) hge hlt (wall_mk (by omega) (by omega))).mono ?_
      rintro e' w' ⟨rfl, hg⟩
      refine ⟨?_, hg⟩
      have e1 : T % 1000000000 + r = (T + d) % 1000000000 := by omega
      have e2 : T / 1000000000 + q = (T + d) / 1000000000 := by omega
      rw [e1, e2]

set_option maxHeartbeats 1000000 in
theorem before_core (n s m u : Int) (w : World) (h : Wall n) (k : Wall m) :
    Calls Yba.prog 8 #[.agg #[.int .u64 n, .int .i64 s, .pointer none], .agg #[.int .u64 m, .int .i64 u, .pointer none]] w fun e w' => e = .returned (.bool (decide (s < u ∨ s = u ∧ n < m))) ∧ Ext w w' := by
  have hb := h.both k
  by_cases c1 : s < u
  · rw [decide_eq_true (Or.inl c1)]
    go_enter Yba.func8, Yba.ntmps8
    go_wp2_with (first | (go_at_call 12; first | (refine (sec_any _ n s _ h ?_ ?_).mono ?_; (simp [go_sem]); (simp [go_sem]); rintro e w' ⟨rfl, rfl⟩) | (refine (sec_any _ m u _ k ?_ ?_).mono ?_; (simp [go_sem]); (simp [go_sem]); rintro e w' ⟨rfl, rfl⟩)) | (go_at_call 13; first | (refine (nsec_any _ n _ h ?_).mono ?_; (simp [go_sem]); rintro e w' ⟨rfl, rfl⟩) | (refine (nsec_any _ m _ k ?_).mono ?_; (simp [go_sem]); rintro e w' ⟨rfl, rfl⟩)))
    go_ret
    exact ⟨rfl, ext2 _ _ _ _ _⟩
  · by_cases c2 : s = u
    · subst c2
      have e : decide (s < s ∨ s = s ∧ n < m) = decide (n < m) := by simp
      rw [e]
      clear c1 e
      go_enter Yba.func8, Yba.ntmps8
      go_wp2_with (first | (go_at_call 12; first | (refine (sec_any _ n s _ h ?_ ?_).mono ?_; (simp [go_sem]); (simp [go_sem]); rintro e w' ⟨rfl, rfl⟩) | (refine (sec_any _ m s _ k ?_ ?_).mono ?_; (simp [go_sem]); (simp [go_sem]); rintro e w' ⟨rfl, rfl⟩)) | (go_at_call 13; first | (refine (nsec_any _ n _ h ?_).mono ?_; (simp [go_sem]); rintro e w' ⟨rfl, rfl⟩) | (refine (nsec_any _ m _ k ?_).mono ?_; (simp [go_sem]); rintro e w' ⟨rfl, rfl⟩)))
      go_ret
      exact ⟨rfl, ext2 _ _ _ _ _⟩
    · rw [decide_eq_false (by omega)]
      have c4 : (s == u) = false := by simpa using c2
      have c5 : decide (s < u) = false := decide_eq_false c1
      clear c2 c1
      go_enter Yba.func8, Yba.ntmps8
      go_wp2_with (first | (go_at_call 12; first | (refine (sec_any _ n s _ h ?_ ?_).mono ?_; (simp [go_sem]); (simp [go_sem]); rintro e w' ⟨rfl, rfl⟩) | (refine (sec_any _ m u _ k ?_ ?_).mono ?_; (simp [go_sem]); (simp [go_sem]); rintro e w' ⟨rfl, rfl⟩)) | (go_at_call 13; first | (refine (nsec_any _ n _ h ?_).mono ?_; (simp [go_sem]); rintro e w' ⟨rfl, rfl⟩) | (refine (nsec_any _ m _ k ?_).mono ?_; (simp [go_sem]); rintro e w' ⟨rfl, rfl⟩)))
      go_ret
      exact ⟨rfl, ext2 _ _ _ _ _⟩

set_option maxHeartbeats 1000000 in
theorem after_core (n s m u : Int) (w : World) (h : Wall n) (k : Wall m) :
    Calls Yba.prog 10 #[.agg #[.int .u64 n, .int .i64 s, .pointer none], .agg #[.int .u64 m, .int .i64 u, .pointer none]] w fun e w' => e = .returned (.bool (decide (u < s ∨ s = u ∧ m < n))) ∧ Ext w w' := by
  have hb := h.both k
  by_cases c1 : u < s
  · rw [decide_eq_true (Or.inl c1)]
    go_enter Yba.func10, Yba.ntmps10
    go_wp2_with (first | (go_at_call 12; first | (refine (sec_any _ n s _ h ?_ ?_).mono ?_; (simp [go_sem]); (simp [go_sem]); rintro e w' ⟨rfl, rfl⟩) | (refine (sec_any _ m u _ k ?_ ?_).mono ?_; (simp [go_sem]); (simp [go_sem]); rintro e w' ⟨rfl, rfl⟩)) | (go_at_call 13; first | (refine (nsec_any _ n _ h ?_).mono ?_; (simp [go_sem]); rintro e w' ⟨rfl, rfl⟩) | (refine (nsec_any _ m _ k ?_).mono ?_; (simp [go_sem]); rintro e w' ⟨rfl, rfl⟩)))
    go_ret
    exact ⟨rfl, ext2 _ _ _ _ _⟩
  · by_cases c2 : s = u
    · subst c2
      have e : decide (s < s ∨ s = s ∧ m < n) = decide (m < n) := by simp
      rw [e]
      clear c1 e
      go_enter Yba.func10, Yba.ntmps10
      go_wp2_with (first | (go_at_call 12; first | (refine (sec_any _ n s _ h ?_ ?_).mono ?_; (simp [go_sem]); (simp [go_sem]); rintro e w' ⟨rfl, rfl⟩) | (refine (sec_any _ m s _ k ?_ ?_).mono ?_; (simp [go_sem]); (simp [go_sem]); rintro e w' ⟨rfl, rfl⟩)) | (go_at_call 13; first | (refine (nsec_any _ n _ h ?_).mono ?_; (simp [go_sem]); rintro e w' ⟨rfl, rfl⟩) | (refine (nsec_any _ m _ k ?_).mono ?_; (simp [go_sem]); rintro e w' ⟨rfl, rfl⟩)))
      go_ret
      exact ⟨rfl, ext2 _ _ _ _ _⟩
    · rw [decide_eq_false (by omega)]
      have c4 : (s == u) = false := by simpa using c2
      have c5 : decide (u < s) = false := decide_eq_false c1
      clear c2 c1
      go_enter Yba.func10, Yba.ntmps10
      go_wp2_with (first | (go_at_call 12; first | (refine (sec_any _ n s _ h ?_ ?_).mono ?_; (simp [go_sem]); (simp [go_sem]); rintro e w' ⟨rfl, rfl⟩) | (refine (sec_any _ m u _ k ?_ ?_).mono ?_; (simp [go_sem]); (simp [go_sem]); rintro e w' ⟨rfl, rfl⟩)) | (go_at_call 13; first | (refine (nsec_any _ n _ h ?_).mono ?_; (simp [go_sem]); rintro e w' ⟨rfl, rfl⟩) | (refine (nsec_any _ m _ k ?_).mono ?_; (simp [go_sem]); rintro e w' ⟨rfl, rfl⟩)))
      go_ret
      exact ⟨rfl, ext2 _ _ _ _ _⟩

theorem before_any (T U : Int) (w : World) : Calls Yba.prog 8 #[tm T, tm U] w fun e w' => e = .returned (.bool (decide (T < U))) ∧ Ext w w' := by
  refine (before_core (T % 1000000000) (T / 1000000000) (U % 1000000000) (U / 1000000000) w (wall_mk (by omega) (by omega)) (wall_mk (by omega) (by omega))).mono ?_
  rintro e w' ⟨rfl, h⟩
  refine ⟨?_, h⟩
  have e : decide (T / 1000000000 < U / 1000000000 ∨ T / 1000000000 = U / 1000000000 ∧ T % 1000000000 < U % 1000000000) = decide (T < U) := decide_eq_decide.2 (by omega)
  rw [e]

theorem after_any (T U : Int) (w : World) : Calls Yba.prog 10 #[tm T, tm U] w fun e w' => e = .returned (.bool (decide (U < T))) ∧ Ext w w' := by
  refine (after_core (T % 1000000000) (T / 1000000000) (U % 1000000000) (U / 1000000000) w (wall_mk (by omega) (by omega)) (wall_mk (by omega) (by omega))).mono ?_
  rintro e w' ⟨rfl, h⟩
  refine ⟨?_, h⟩
  have e : decide (U / 1000000000 < T / 1000000000 ∨ T / 1000000000 = U / 1000000000 ∧ U % 1000000000 < T % 1000000000) = decide (U < T) := decide_eq_decide.2 (by omega)
  rw [e]

theorem bat_any (n : Int) (w : World) (d1 : -9223372036854775808 ≤ n) (d2 : n ≤ 9223372036854775807) :
    Calls Yba.prog 7 #[.int .i64 n] w fun e w' => e = .returned (tm n) ∧ Ext w w' := by
  go_enter Yba.func7, Yba.ntmps7
  go_wp2_with fail
  refine (add_any 0 n _ (by omega) (by omega) d1 d2).mono ?_
  rintro e w1 ⟨rfl, h1⟩
  rw [Int.zero_add]
  have hsz : w.heap.size < (w.alloc (.cells #[.int .u64 0, .int .i64 0, .pointer none] 28)).heap.size := by simp
  have hsz1 := Nat.lt_of_lt_of_le hsz h1.size
  have hrow : w1.heap[w.heap.size]? = some (.cells #[.int .u64 0, .int .i64 0, .pointer none] 28 (0, 0)) := (h1.b.block _ hsz).trans (heap_alloc_new w _)
  have c0 : w1.cell? ⟨w.heap.size, 0, none⟩ = some (.int .u64 0) := by rw [cell_of_row w1 _ 0 _ _ _ hrow]; rfl
  have c1 : w1.cell? ⟨w.heap.size, 1, none⟩ = some (.int .i64 0) := by rw [cell_of_row w1 _ 1 _ _ _ hrow]; rfl
  have c2 : w1.cell? ⟨w.heap.size, 2, none⟩ = some (.pointer none) := by rw [cell_of_row w1 _ 2 _ _ _ hrow]; rfl
  have f0 := frozen_of_row w1 w.heap.size 0 _ _ hrow
  have f1 := frozen_of_row w1 w.heap.size 1 _ _ hrow
  have f2 := frozen_of_row w1 w.heap.size 2 _ _ hrow
  have HE : Hid (Ext w w1) := ((Ext.refl w).alloc _ _).trans h1
  have HR : Hid _ := hrow
  clear h1 hrow hsz
  go_wp2
  refine bodyPost_ret (v := tm n) ?_ rfl ⟨rfl, ?_⟩
  · simp [results, Yba.results7, go_sem, c0, c1, c2]
  · exact ((HE.out.setCell (Nat.le_refl _) rfl _).setCell (Nat.le_refl _) rfl _).setCell (Nat.le_refl _) rfl _

theorem keep8 {w a b : World} {T U : Int} (h : Ext a b) (p : a.cell? ⟨w.heap.size, 0, none⟩ = some (.int .u64 (T % 1000000000)) ∧ a.cell? ⟨w.heap.size, 1, none⟩ = some (.int .i64 (T / 1000000000)) ∧ a.cell? ⟨w.heap.size, 2, none⟩ = some (.pointer none) ∧ a.cell? ⟨w.heap.size + 1, 0, none⟩ = some (.int .u64 (U % 1000000000)) ∧ a.cell? ⟨w.heap.size + 1, 1, none⟩ = some (.int .i64 (U / 1000000000)) ∧ a.cell? ⟨w.heap.size + 1, 2, none⟩ = some (.pointer none) ∧ w.heap.size + 1 < a.heap.size ∧ Ext w a) : b.cell? ⟨w.heap.size, 0, none⟩ = some (.int .u64 (T % 1000000000)) ∧ b.cell? ⟨w.heap.size, 1, none⟩ = some (.int .i64 (T / 1000000000)) ∧ b.cell? ⟨w.heap.size, 2, none⟩ = some (.pointer none) ∧ b.cell? ⟨w.heap.size + 1, 0, none⟩ = some (.int .u64 (U % 1000000000)) ∧ b.cell? ⟨w.heap.size + 1, 1, none⟩ = some (.int .i64 (U / 1000000000)) ∧ b.cell? ⟨w.heap.size + 1, 2, none⟩ = some (.pointer none) ∧ w.heap.size + 1 < b.heap.size ∧ Ext w b := by
  obtain ⟨p0, p1, p2, p3, p4, p5, p6, p7⟩ := p
  have hl : w.heap.size < a.heap.size := by omega
  exact ⟨(h.cell hl).trans p0, (h.cell hl).trans p1, (h.cell hl).trans p2, (h.cell p6).trans p3, (h.cell p6).trans p4, (h.cell p6).trans p5, Nat.lt_of_lt_of_le p6 h.size, p7.trans h⟩

theorem ext_of8 {w a : World} {T U : Int} (p : a.cell? ⟨w.heap.size, 0, none⟩ = some (.int .u64 (T % 1000000000)) ∧ a.cell? ⟨w.heap.size, 1, none⟩ = some (.int .i64 (T / 1000000000)) ∧ a.cell? ⟨w.heap.size, 2, none⟩ = some (.pointer none) ∧ a.cell? ⟨w.heap.size + 1, 0, none⟩ = some (.int .u64 (U % 1000000000)) ∧ a.cell? ⟨w.heap.size + 1, 1, none⟩ = some (.int .i64 (U / 1000000000)) ∧ a.cell? ⟨w.heap.size + 1, 2, none⟩ = some (.pointer none) ∧ w.heap.size + 1 < a.heap.size ∧ Ext w a) : Ext w a := p.2.2.2.2.2.2.2

theorem start8 (w : World) (T U : Int) : (((w.alloc (.cells #[.int .u64 (T % 1000000000), .int .i64 (T / 1000000000), .pointer none] 28)).alloc (.cells #[.int .u64 (U % 1000000000), .int .i64 (U / 1000000000), .pointer none] 28)).drew).cell? ⟨w.heap.size, 0, none⟩ = some (.int .u64 (T % 1000000000)) ∧ (((w.alloc (.cells #[.int .u64 (T % 1000000000), .int .i64 (T / 1000000000), .pointer none] 28)).alloc (.cells #[.int .u64 (U % 1000000000), .int .i64 (U / 1000000000), .pointer none] 28)).drew).cell? ⟨w.heap.size, 1, none⟩ = some (.int .i64 (T / 1000000000)) ∧ (((w.alloc (.cells #[.int .u64 (T % 1000000000), .int .i64 (T / 1000000000), .pointer none] 28)).alloc (.cells #[.int .u64 (U % 1000000000), .int .i64 (U / 1000000000), .pointer none] 28)).drew).cell? ⟨w.heap.size, 2, none⟩ = some (.pointer none) ∧ (((w.alloc (.cells #[.int .u64 (T % 1000000000), .int .i64 (T / 1000000000), .pointer none] 28)).alloc (.cells #[.int .u64 (U % 1000000000), .int .i64 (U / 1000000000), .pointer none] 28)).drew).cell? ⟨w.heap.size + 1, 0, none⟩ = some (.int .u64 (U % 1000000000)) ∧ (((w.alloc (.cells #[.int .u64 (T % 1000000000), .int .i64 (T / 1000000000), .pointer none] 28)).alloc (.cells #[.int .u64 (U % 1000000000), .int .i64 (U / 1000000000), .pointer none] 28)).drew).cell? ⟨w.heap.size + 1, 1, none⟩ = some (.int .i64 (U / 1000000000)) ∧ (((w.alloc (.cells #[.int .u64 (T % 1000000000), .int .i64 (T / 1000000000), .pointer none] 28)).alloc (.cells #[.int .u64 (U % 1000000000), .int .i64 (U / 1000000000), .pointer none] 28)).drew).cell? ⟨w.heap.size + 1, 2, none⟩ = some (.pointer none) ∧ w.heap.size + 1 < (((w.alloc (.cells #[.int .u64 (T % 1000000000), .int .i64 (T / 1000000000), .pointer none] 28)).alloc (.cells #[.int .u64 (U % 1000000000), .int .i64 (U / 1000000000), .pointer none] 28)).drew).heap.size ∧ Ext w (((w.alloc (.cells #[.int .u64 (T % 1000000000), .int .i64 (T / 1000000000), .pointer none] 28)).alloc (.cells #[.int .u64 (U % 1000000000), .int .i64 (U / 1000000000), .pointer none] 28)).drew) := by
  refine ⟨?_, ?_, ?_, ?_, ?_, ?_, ?_, ?_⟩
  · simp [go_sem]
  · simp [go_sem]
  · simp [go_sem]
  · simp [go_sem]
  · simp [go_sem]
  · simp [go_sem]
  · simp
  · exact (ext2 _ _ _ _ _).drewN 1

set_option maxRecDepth 100000 in
set_option maxHeartbeats 4000000 in
theorem within_yes (T U s : Int) (w : World) (t1 : -20000000000000000000 ≤ U) (t2 : U ≤ 20000000000000000000) (s1 : -9223372036854775808 ≤ s) (s2 : s ≤ 9223372036854775807) (g : Int) (hg : IntKind.i64.wrap (-s) = g) (g1 : -9223372036854775808 ≤ g) (g2 : g ≤ 9223372036854775807) (hc : ¬ (T < U + g)) :
    Calls Yba.prog 6 #[tm T, tm U, .int .i64 s] w fun e w' => e = .returned (.bool (!decide (U + s < T))) ∧ Ext w w' := by
  have H0 := start8 w T U
  have hc' : decide (T < U + g) = false := decide_eq_false hc
  clear hc
  go_enter Yba.func6, Yba.ntmps6
  go_wp2
  go_region_held3 (fun w' => w'.cell? ⟨w.heap.size, 0, none⟩ = some (.int .u64 (T % 1000000000)) ∧ w'.cell? ⟨w.heap.size, 1, none⟩ = some (.int .i64 (T / 1000000000)) ∧ w'.cell? ⟨w.heap.size, 2, none⟩ = some (.pointer none) ∧ w'.cell? ⟨w.heap.size + 1, 0, none⟩ = some (.int .u64 (U % 1000000000)) ∧ w'.cell? ⟨w.heap.size + 1, 1, none⟩ = some (.int .i64 (U / 1000000000)) ∧ w'.cell? ⟨w.heap.size + 1, 2, none⟩ = some (.pointer none) ∧ w.heap.size + 1 < w'.heap.size ∧ Ext w w')
    (first | assumption | exact keep8 (by assumption) (by assumption))
    (first
      | (go_at_call 9; refine (add_any _ _ _ ?_ ?_ ?_ ?_).mono ?_; omega; omega; omega; omega; rintro e w' ⟨rfl, hx⟩)
      | (go_at_call 8; refine (before_any _ _ _).mono ?_; rintro e w' ⟨rfl, hx⟩)
      | (go_at_call 10; refine (after_any _ _ _).mono ?_; rintro e w' ⟨rfl, hx⟩))
  all_goals go_wp2
  all_goals go_ret
  all_goals exact ⟨rfl, ext_of8 (by assumption)⟩

set_option maxRecDepth 100000 in
set_option maxHeartbeats 4000000 in
theorem within_no (T U s : Int) (w : World) (t1 : -20000000000000000000 ≤ U) (t2 : U ≤ 20000000000000000000) (g : Int) (hg : IntKind.i64.wrap (-s) = g) (g1 : -9223372036854775808 ≤ g) (g2 : g ≤ 9223372036854775807) (hc : T < U + g) :
    Calls Yba.prog 6 #[tm T, tm U, .int .i64 s] w fun e w' => e = .returned (.bool false) ∧ Ext w w' := by
  have H0 := start8 w T U
  have hc' : decide (T < U + g) = true := decide_eq_true hc
  clear hc
  go_enter Yba.func6, Yba.ntmps6
  go_wp2
  have H1 := H0
  obtain ⟨i0, i1, i2, i3, i4, i5, i6, i7⟩ := H1
  first
  | go_region_with (first
      | (go_at_call 9; refine (add_any _ _ _ ?_ ?_ ?_ ?_).mono ?_; omega; omega; omega; omega; rintro e w' ⟨rfl, hx⟩; have K := keep8 (w := w) (T := T) (U := U) hx (by assumption); have K' := K; obtain ⟨k0, k1, k2, k3, k4, k5, k6, k7⟩ := K')
      | (go_at_call 8; refine (before_any _ _ _).mono ?_; rintro e w' ⟨rfl, hx⟩; have K := keep8 (w := w) (T := T) (U := U) hx (by assumption); have K' := K; obtain ⟨k0, k1, k2, k3, k4, k5, k6, k7⟩ := K'))
  | fail
  all_goals go_wp2
  all_goals go_ret
  all_goals exact ⟨rfl, ext_of8 (by assumption)⟩

theorem within_any (T U s : Int) (w : World) (t1 : -20000000000000000000 ≤ U) (t2 : U ≤ 20000000000000000000) (s1 : -9223372036854775808 ≤ s) (s2 : s ≤ 9223372036854775807) (g : Int) (hg : IntKind.i64.wrap (-s) = g) (g1 : -9223372036854775808 ≤ g) (g2 : g ≤ 9223372036854775807) :
    Calls Yba.prog 6 #[tm T, tm U, .int .i64 s] w fun e w' => e = .returned (.bool (decide (U + g ≤ T ∧ T ≤ U + s))) ∧ Ext w w' := by
  by_cases hc : T < U + g
  · refine (within_no T U s w t1 t2 g hg g1 g2 hc).mono ?_
    rintro e w' ⟨rfl, h⟩
    refine ⟨?_, h⟩
    rw [decide_eq_false (by omega)]
  · refine (within_yes T U s w t1 t2 s1 s2 g hg g1 g2 hc).mono ?_
    rintro e w' ⟨rfl, h⟩
    refine ⟨?_, h⟩
    have e : (!decide (U + s < T)) = decide (U + g ≤ T ∧ T ≤ U + s) := by
      rw [← decide_not]
      exact decide_eq_decide.2 (by omega)
    rw [e]
end Go.Proofs.Ybulkcrca
