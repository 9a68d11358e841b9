import Derived.Test.YbulkcrcoReach
import Derived.Lib.MinMax
namespace Go.Proofs.Ybulkcrco
open Go.RowKit

theorem run_max {P : Program} (x y z : Int) (h : max x y = z) : ∀ (ts : Array TypeId) (t : TypeId) (w : World), (Builtin.max_ ts t #[.int .i64 x, .int .i64 y]).run P w = .ok (.int .i64 z) w := by
  intro ts t w
  subst h
  simp [Builtin.max_, Builtin.max2]
  omega
theorem run_min {P : Program} (x y z : Int) (h : min x y = z) : ∀ (ts : Array TypeId) (t : TypeId) (w : World), (Builtin.min_ ts t #[.int .i64 x, .int .i64 y]).run P w = .ok (.int .i64 z) w := by
  intro ts t w
  subst h
  simp [Builtin.min_, Builtin.min2]
  omega

set_option maxRecDepth 100000 in
set_option maxHeartbeats 1000000 in
theorem layout_lack (K kl kc R n rc bound : Nat) (more minS maxL u v : Int) (p s : Nat) (w : World) (k1 : kl ≤ 1024) (n1 : n ≤ 1024) (m0 : 0 ≤ more) (m1 : more ≤ 65535) (a1 : -32768 ≤ minS) (a2 : minS ≤ 32767) (b1 : -32768 ≤ maxL) (b2 : maxL ≤ 32767)
    (hu : max (minS - kl) 0 = u) (hp : min u (n + more) = p) (hv : max maxL 0 = v) (hs : min ((n : Int) + more - p) (v / 2) = s) (hlack : 0 < (p : Int) + s - n) :
    Calls Yba.prog 6 #[.slice (some ⟨K, 0, none⟩) kl kc, .slice (some ⟨R, 0, none⟩) n rc, .int .i64 more, .float .f64 bound, .int .i64 minS, .int .i64 maxL] w fun e w' => e = .returned (.tuple #[.int .i64 0, .int .i64 0, .int .i64 (p + s - n)]) ∧ w' = w := by
  have v0 : 0 ≤ v := by omega
  have v1 : v ≤ 32767 := by omega
  have p0 : (p : Int) ≤ 66559 := by omega
  have s0 : (s : Int) ≤ 16383 := by omega
  have r1 := run_max (P := Yba.prog) _ _ _ hu
  have r2 := run_min (P := Yba.prog) _ _ _ hp
  have r3 := run_max (P := Yba.prog) _ _ _ hv
  have r4 := run_min (P := Yba.prog) _ _ _ hs
  clear hu hp hv hs
  go_enter Yba.func6, Yba.ntmps6
  go_wp2
  go_ret3
  exact ⟨rfl, rfl⟩

/-- the loop goes on at j -/
def Goes (n p l r : Nat) (rd : Nat → Nat) (j : Nat) : Prop := j < l ∧ p + j < n ∧ leq (rd (p + j)) r = true

/-- what 'layout' and its model give where nothing is missing at once -/
def LayPost (kl n p s l bound : Nat) (kd rd : Nat → Nat) (w : World) (e : Ending) (w' : World) : Prop :=
  Below w.heap.size w w' ∧ ∃ r j, ReachOf kl p (kd (kl - 1)) (rd (p - 1)) r ∧ s ≤ j ∧ p + j ≤ n ∧ (∀ i, s ≤ i → i < j → Goes n p l r rd i) ∧ ¬ Goes n p l r rd j ∧
      ((j < l ∧ p + j = n ∧ leq bound r = true ∧ e = .returned (.tuple #[.int .i64 0, .int .i64 0, .int .i64 1])) ∨ (¬ (j < l ∧ p + j = n ∧ leq bound r = true) ∧ e = .returned (.tuple #[.int .i64 p, .int .i64 j, .int .i64 0])))

theorem leq_form {x y : Nat} {b : Bool} (h : leq x y = b) : (FloatKind.f64.format.order x y == some .lt || FloatKind.f64.format.order x y == some .eq) = b := h

set_option maxRecDepth 100000 in
set_option maxHeartbeats 1000000 in
theorem layout_main (K kl kc R n rc bound : Nat) (more minS maxL u v : Int) (p s l : Nat) (kd rd : Nat → Nat) (w : World) (k1 : kl ≤ 1024) (n1 : n ≤ 1024) (nrc : n ≤ rc) (m0 : 0 ≤ more) (m1 : more ≤ 65535) (a1 : -32768 ≤ minS) (a2 : minS ≤ 32767) (b1 : -32768 ≤ maxL) (b2 : maxL ≤ 32767)
    (hu : max (minS - kl) 0 = u) (hp : min u (n + more) = p) (hv : max maxL 0 = v) (hs : min ((n : Int) + more - p) (v / 2) = s) (hl : min ((n : Int) + more - p) v = l) (hlack : ¬ 0 < (p : Int) + s - n)
    (hk : Hid (CR w K kl kd)) (hr : Hid (CR w R n rd)) :
    Calls Yba.prog 6 #[.slice (some ⟨K, 0, none⟩) kl kc, .slice (some ⟨R, 0, none⟩) n rc, .int .i64 more, .float .f64 bound, .int .i64 minS, .int .i64 maxL] w fun e w' => LayPost kl n p s l bound kd rd w e w' := by
  have v0 : 0 ≤ v := by omega
  have v1 : v ≤ 32767 := by omega
  have p0 : (p : Int) ≤ 66559 := by omega
  have s0 : (s : Int) ≤ 16383 := by omega
  have l0 : (l : Int) ≤ 32767 := by omega
  have ps : p + s ≤ n := by omega
  have r1 := run_max (P := Yba.prog) _ _ _ hu
  have r2 := run_min (P := Yba.prog) _ _ _ hp
  have r3 := run_max (P := Yba.prog) _ _ _ hv
  have r4 := run_min (P := Yba.prog) _ _ _ hs
  have r5 := run_min (P := Yba.prog) _ _ _ hl
  clear hu hp hv hs hl
  have pn : p ≤ n := by omega
  go_enter Yba.func6, Yba.ntmps6
  go_wp2_with fail
  refine (reach_any K kl kc R p rc (kd (kl - 1)) (rd (p - 1)) w hk.out.1 hr.out.1 k1 (by omega) (fun h => (hk.out.2 (kl - 1) (by omega)).2) (fun h => (hr.out.2 (p - 1) (by omega)).2)).mono ?_
  rintro e w1 ⟨r, rfl, hreach, hb⟩
  have HR : Hid (ReachOf kl p (kd (kl - 1)) (rd (p - 1)) r) := hreach
  have HB : Hid (Below w.heap.size w w1) := hb
  have HC : Hid (CR w1 R n rd) := hr.out.below hb
  clear hreach hb hk hr
  go_wp2
  clear r1 r2 r3 r4 r5
  go_loop [13] (fun near => ∃ j : Nat, near = .int .i64 j ∧ s ≤ j ∧ p + j ≤ n ∧ Hid (∀ i, s ≤ i → i < j → Goes n p l r rd i)) (fun near => n - (intOf near).toNat)
  case atStart => exact ⟨s, rfl, Nat.le_refl _, ps, fun i h1 h2 => by omega⟩
  case round =>
    obtain ⟨j, rfl, hj1, hj2, HJ⟩ := hrel
    by_cases hlim : j < l
    · by_cases hin : p + j < n
      · have hcell := (HC.out.2 (p + j) hin).2
        cases hle : leq (rd (p + j)) r with
        | true =>
          have hle' := leq_form hle
          go_wp2
          go_round
          case rel => exact ⟨j + 1, by go_num, by omega, by omega, fun i h1 h2 => by
            by_cases e : i = j
            · subst e; exact ⟨hlim, hin, hle⟩
            · exact HJ.out i h1 (by omega)⟩
          case measure => simp [intOf]; omega
        | false =>
          have hle' := leq_form hle
          have hne : ¬ ((p : Int) + (j : Int) = (n : Int)) := by omega
          go_wp2
          go_ret3
          exact ⟨HB.out, r, j, HR.out, hj1, hj2, HJ.out, fun h => (by have := h.2.2; rw [hle] at this; cases this), Or.inr ⟨fun h => by omega, rfl⟩⟩
      · have hpe : p + j = n := by omega
        cases hle : leq bound r with
        | true =>
          have hle' := leq_form hle
          go_wp2
          go_ret3
          exact ⟨HB.out, r, j, HR.out, hj1, hj2, HJ.out, fun h => hin h.2.1, Or.inl ⟨hlim, hpe, hle, rfl⟩⟩
        | false =>
          have hle' := leq_form hle
          go_wp2
          go_ret3
          exact ⟨HB.out, r, j, HR.out, hj1, hj2, HJ.out, fun h => hin h.2.1, Or.inr ⟨fun h => (by have := h.2.2; rw [hle] at this; cases this), rfl⟩⟩
    · go_wp2
      go_ret3
      exact ⟨HB.out, r, j, HR.out, hj1, hj2, HJ.out, fun h => hlim h.1, Or.inr ⟨fun h => hlim h.1, rfl⟩⟩
end Go.Proofs.Ybulkcrco
