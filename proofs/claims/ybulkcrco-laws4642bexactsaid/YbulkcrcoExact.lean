import Derived.Test.YbulkcrcoSame
namespace Go.Proofs.Ybulkcrco
open Go.RowKit

theorem LayPost.form {kl n p s l bound : Nat} {kd rd : Nat → Nat} {w w' : World} {e : Ending} (h : LayPost kl n p s l bound kd rd w e w') : ∃ a b c : Int, e = .returned (.tuple #[.int .i64 a, .int .i64 b, .int .i64 c]) := by
  obtain ⟨_, r, j, _, _, _, _, _, ⟨_, _, _, rfl⟩ | ⟨_, rfl⟩⟩ := h
  · exact ⟨_, _, _, rfl⟩
  · exact ⟨_, _, _, rfl⟩

theorem LayPost.unique {kl n p s l bound : Nat} {kd rd : Nat → Nat} {w w' x x' : World} {e f : Ending} (h : LayPost kl n p s l bound kd rd w e w') (k : LayPost kl n p s l bound kd rd x f x') : e = f := by
  obtain ⟨_, r, j, hr, h1, h2, h3, h4, h5⟩ := h
  obtain ⟨_, r', j', kr, k1, k2, k3, k4, k5⟩ := k
  have hs := hr.sim kr
  have hg : ∀ i, Goes n p l r rd i ↔ Goes n p l r' rd i := fun i => by unfold Goes; rw [hs.leq]
  have hj : j = j' := by
    rcases Nat.lt_trichotomy j j' with hlt | he | hlt
    · exact absurd ((hg j).2 (k3 j h1 hlt)) h4
    · exact he
    · exact absurd ((hg j').1 (h3 j' k1 hlt)) k4
  subst hj
  rw [hs.leq] at h5
  rcases h5 with ⟨a1, a2, a3, rfl⟩ | ⟨a1, rfl⟩
  · rcases k5 with ⟨_, _, _, rfl⟩ | ⟨b1, _⟩
    · rfl
    · exact absurd ⟨a1, a2, a3⟩ b1
  · rcases k5 with ⟨b1, b2, b3, _⟩ | ⟨_, rfl⟩
    · exact absurd ⟨b1, b2, b3⟩ a1
    · rfl

set_option maxRecDepth 100000 in
theorem exact_long (a0 b0 : Option Addr) (kl kc n rc bound : Nat) (more minS maxL : Int) (w : World) (h : ¬ (kl ≤ 1024 ∧ n ≤ 1024)) :
    Calls Yba.prog 3 #[.slice a0 kl kc, .slice b0 n rc, .int .u16 more, .float .f64 bound, .int .i16 minS, .int .i16 maxL] w fun e w' => e = .returned (.bool true) ∧ Below w.heap.size w w' := by
  by_cases h0 : kl ≤ 1024
  · have h1 : 1024 < n := by omega
    clear h
    go_enter Yba.func3, Yba.ntmps3
    go_wp2
    go_ret
    exact ⟨rfl, Below.refl _ _⟩
  · clear h
    go_enter Yba.func3, Yba.ntmps3
    go_wp2
    go_ret
    exact ⟨rfl, Below.refl _ _⟩

set_option maxRecDepth 100000 in
set_option maxHeartbeats 2000000 in
theorem exact_any (a0 b0 : Option Addr) (kl kc n rc bound : Nat) (more minS maxL : Int) (kd rd : Nat → Nat) (w : World) (hk : Hid (DistIn w a0 kl kd)) (hr : Hid (DistIn w b0 n rd)) (k1 : kl ≤ 1024) (n1 : n ≤ 1024)
    (m0 : 0 ≤ more) (m1 : more ≤ 65535) (a1 : -32768 ≤ minS) (a2 : minS ≤ 32767) (b1 : -32768 ≤ maxL) (b2 : maxL ≤ 32767) :
    Calls Yba.prog 3 #[.slice a0 kl kc, .slice b0 n rc, .int .u16 more, .float .f64 bound, .int .i16 minS, .int .i16 maxL] w fun e w' => e = .returned (.bool true) ∧ Below w.heap.size w w' := by
  go_enter Yba.func3, Yba.ntmps3
  go_wp2_with fail
  refine (cands_any a0 kl kc kd _ hk k1).mono ?_
  rintro e w1 ⟨rfl, c1, x1⟩
  have C1 : Hid (CR w1 w.heap.size kl kd) := c1
  have X1 : Hid (Below w.heap.size w w1) := x1
  have R1 : Hid (DistIn w1 b0 n rd) := hr.out.below x1
  clear c1 x1
  go_wp2_with fail
  refine (cands_any b0 n rc rd _ R1 n1).mono ?_
  rintro e w2 ⟨rfl, c2, x2⟩
  have C2 : Hid (CR w2 w1.heap.size n rd) := c2
  have C3 : Hid (CR w2 w.heap.size kl kd) := C1.out.below x2
  have X2 : Hid (Below w.heap.size w w2) := X1.out.trans (x2.mono X1.out.size)
  clear c2 x2 C1 X1 R1
  go_wp2_with fail
  obtain ⟨u, v, p, s, l, N⟩ := nums kl n more minS maxL m0
  have HN : Hid (Nums kl n more minS maxL u v p s l) := N
  by_cases hlack : 0 < (p : Int) + s - n
  · refine (layout_lack w.heap.size kl kl w1.heap.size n n bound more minS maxL u v p s w2 k1 n1 m0 m1 a1 a2 b1 b2 N.hu N.hp N.hv N.hs hlack).mono ?_
    rintro e w3 ⟨rfl, rfl⟩
    clear N
    go_wp2_with fail
    refine (model_lack a0 b0 kl kc n rc bound more minS maxL u v p s l _ HN k1 n1 m0 m1 a1 a2 b1 b2 hlack).mono ?_
    rintro e w4 ⟨rfl, rfl⟩
    clear HN
    go_wp2_with fail
    refine (same_any w.heap.size kl kl a0 kc kd _ C3.out (hk.out.below X2.out) k1).mono ?_
    rintro e w5 ⟨rfl, x5⟩
    have C5 : Hid (CR w5 w1.heap.size n rd) := C2.out.below x5
    have X5 : Hid (Below w.heap.size w w5) := X2.out.trans (x5.mono X2.out.size)
    clear x5 C2 X2 C3
    go_wp2_with fail
    refine (same_any w1.heap.size n n b0 rc rd _ C5.out (hr.out.below X5.out) n1).mono ?_
    rintro e w6 ⟨rfl, x6⟩
    have X6 : Hid (Below w.heap.size w w6) := X5.out.trans (x6.mono X5.out.size)
    clear x6
    go_wp2
    go_ret
    exact ⟨rfl, X6.out⟩
  · refine (layout_main w.heap.size kl kl w1.heap.size n n bound more minS maxL u v p s l kd rd w2 k1 n1 (Nat.le_refl _) m0 m1 a1 a2 b1 b2 N.hu N.hp N.hv N.hs N.hl hlack C3 C2).mono ?_
    intro e w3 h3
    obtain ⟨x, y, z, rfl⟩ := h3.form
    have H3 : Hid (LayPost kl n p s l bound kd rd w2 (.returned (.tuple #[.int .i64 x, .int .i64 y, .int .i64 z])) w3) := h3
    have D1 : Hid (CR w3 w1.heap.size n rd) := C2.out.below h3.1
    have D2 : Hid (CR w3 w.heap.size kl kd) := C3.out.below h3.1
    have X3 : Hid (Below w.heap.size w w3) := X2.out.trans (h3.1.mono X2.out.size)
    clear h3 N C2 C3 X2
    go_wp2_with fail
    refine (model_main a0 b0 kl kc n rc bound more minS maxL u v p s l kd rd _ HN (hk.out.below X3.out) (hr.out.below X3.out) k1 n1 m0 m1 a1 a2 b1 b2 (by omega)).mono ?_
    intro e w4 h4
    obtain rfl := h4.unique H3.out
    have E1 : Hid (CR w4 w1.heap.size n rd) := D1.out.below h4.1
    have E2 : Hid (CR w4 w.heap.size kl kd) := D2.out.below h4.1
    have X4 : Hid (Below w.heap.size w w4) := X3.out.trans (h4.1.mono X3.out.size)
    clear h4 D1 D2 X3 H3 HN
    go_wp2_with fail
    refine (same_any w.heap.size kl kl a0 kc kd _ E2.out (hk.out.below X4.out) k1).mono ?_
    rintro e w5 ⟨rfl, x5⟩
    have C5 : Hid (CR w5 w1.heap.size n rd) := E1.out.below x5
    have X5 : Hid (Below w.heap.size w w5) := X4.out.trans (x5.mono X4.out.size)
    clear x5 X4 E1 E2
    go_wp2_with fail
    refine (same_any w1.heap.size n n b0 rc rd _ C5.out (hr.out.below X5.out) n1).mono ?_
    rintro e w6 ⟨rfl, x6⟩
    have X6 : Hid (Below w.heap.size w w6) := X5.out.trans (x6.mono X5.out.size)
    clear x6
    go_wp2
    go_ret
    exact ⟨rfl, X6.out⟩
end Go.Proofs.Ybulkcrco
