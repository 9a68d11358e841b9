import Derived.Test.YbulkcrcoLayout
namespace Go.Proofs.Ybulkcrco
open Go.RowKit

/-- the numbers that 'layout' reckons with -/
structure Nums (kl n : Nat) (more minS maxL u v : Int) (p s l : Nat) : Prop where
  hu : max (minS - kl) 0 = u
  hp : min u (n + more) = p
  hv : max maxL 0 = v
  hs : min ((n : Int) + more - p) (v / 2) = s
  hl : min ((n : Int) + more - p) v = l

theorem nums (kl n : Nat) (more minS maxL : Int) (m0 : 0 ≤ more) : ∃ u v p s l, Nums kl n more minS maxL u v p s l := by
  obtain ⟨u, hu⟩ : ∃ u, max (minS - kl) 0 = u := ⟨_, rfl⟩
  obtain ⟨v, hv⟩ : ∃ v, max maxL 0 = v := ⟨_, rfl⟩
  obtain ⟨p, hp⟩ : ∃ p : Nat, min u ((n : Int) + more) = p := ⟨(min u ((n : Int) + more)).toNat, by omega⟩
  obtain ⟨s, hs⟩ : ∃ s : Nat, min ((n : Int) + more - p) (v / 2) = s := ⟨(min ((n : Int) + more - p) (v / 2)).toNat, by omega⟩
  obtain ⟨l, hl⟩ : ∃ l : Nat, min ((n : Int) + more - p) v = l := ⟨(min ((n : Int) + more - p) v).toNat, by omega⟩
  exact ⟨u, v, p, s, l, hu, hp, hv, hs, hl⟩

set_option maxRecDepth 100000 in
theorem shape_long (a0 b0 : Option Addr) (kl kc n rc bound : Nat) (more minS maxL : Int) (w : World) (h : ¬ (kl ≤ 1024 ∧ n ≤ 1024)) :
    Calls Yba.prog 4 #[.slice a0 kl kc, .slice b0 n rc, .int .u16 more, .float .f64 bound, .int .i16 minS, .int .i16 maxL] w fun e w' => e = .returned (.bool true) ∧ Below w.heap.size w w' := by
  by_cases h0 : kl ≤ 1024
  · have h1 : 1024 < n := by omega
    clear h
    go_enter Yba.func4, Yba.ntmps4
    go_wp2
    go_ret
    exact ⟨rfl, Below.refl _ _⟩
  · clear h
    go_enter Yba.func4, Yba.ntmps4
    go_wp2
    go_ret
    exact ⟨rfl, Below.refl _ _⟩

set_option maxRecDepth 100000 in
set_option maxHeartbeats 2000000 in
theorem shape_any (a0 b0 : Option Addr) (kl kc n rc bound : Nat) (more minS maxL : Int) (kd rd : Nat → Nat) (w : World) (hk : Hid (DistIn w a0 kl kd)) (hr : Hid (DistIn w b0 n rd)) (k1 : kl ≤ 1024) (n1 : n ≤ 1024)
    (m0 : 0 ≤ more) (m1 : more ≤ 65535) (a1 : -32768 ≤ minS) (a2 : minS ≤ 32767) (b1 : -32768 ≤ maxL) (b2 : maxL ≤ 32767) :
    Calls Yba.prog 4 #[.slice a0 kl kc, .slice b0 n rc, .int .u16 more, .float .f64 bound, .int .i16 minS, .int .i16 maxL] w fun e w' => e = .returned (.bool true) ∧ Below w.heap.size w w' := by
  go_enter Yba.func4, Yba.ntmps4
  go_wp2_with fail
  refine (cands_any a0 kl kc kd _ hk k1).mono ?_
  rintro e w1 ⟨rfl, c1, x1⟩
  have C1 : Hid (CR w1 w.heap.size kl kd) := c1
  have X1 : Hid (Below w.heap.size w w1) := x1
  have R1 : Hid (DistIn w1 b0 n rd) := hr.out.below x1
  clear c1 x1 hk hr
  go_wp2_with fail
  refine (cands_any b0 n rc rd _ R1 n1).mono ?_
  rintro e w2 ⟨rfl, c2, x2⟩
  have C2 : Hid (CR w2 w1.heap.size n rd) := c2
  have C3 : Hid (CR w2 w.heap.size kl kd) := C1.out.below x2
  have X2 : Hid (Below w.heap.size w w2) := X1.out.trans (x2.mono X1.out.size)
  clear c2 x2 C1 X1 R1
  go_wp2_with fail
  obtain ⟨u, v, p, s, l, N⟩ := nums kl n more minS maxL m0
  have HN : Hid (Nums kl n more minS maxL u v p s l) := N
  by_cases hlack : 0 < (p : Int) + s - n
  · refine (layout_lack w.heap.size kl kl w1.heap.size n n bound more minS maxL u v p s w2 k1 n1 m0 m1 a1 a2 b1 b2 N.hu N.hp N.hv N.hs hlack).mono ?_
    rintro e w3 ⟨rfl, rfl⟩
    have hne : ((p : Int) + s - n != 0) = true := by simp; omega
    clear N
    go_wp2
    go_ret
    exact ⟨rfl, X2.out⟩
  · refine (layout_main w.heap.size kl kl w1.heap.size n n bound more minS maxL u v p s l kd rd w2 k1 n1 (Nat.le_refl _) m0 m1 a1 a2 b1 b2 N.hu N.hp N.hv N.hs N.hl hlack C3 C2).mono ?_
    intro e w3 hpost
    obtain ⟨hb3, r, j, _, hj1, hj2, hj3, _, hcase⟩ := hpost
    have X3 : Hid (Below w.heap.size w w3) := X2.out.trans (hb3.mono X2.out.size)
    have hjv : (j : Int) ≤ v := by
      have h5 := N.hs
      have h6 := N.hl
      have h7 := N.hv
      by_cases e : s < j
      · have := (hj3 (j - 1) (by omega) (by omega)).1
        omega
      · omega
    clear hb3 hj3 N C3 C2 X2
    rcases hcase with ⟨_, _, _, rfl⟩ | ⟨_, rfl⟩
    · go_wp2
      go_ret
      exact ⟨rfl, X3.out⟩
    · have hv0 : 0 ≤ v := by have := HN.out.hv; omega
      have hjn : (p : Int) + j ≤ n := by omega
      by_cases A : minS - kl < 0
      · have p1 : (p : Int) ≤ 0 := by have e1 := HN.out.hu; have e2 := HN.out.hp; have e3 := HN.out.hv; have e4 := HN.out.hs; omega
        by_cases C : maxL < 0
        · have c1 : (j : Int) ≤ 0 := by have e1 := HN.out.hu; have e2 := HN.out.hp; have e3 := HN.out.hv; have e4 := HN.out.hs; omega
          by_cases D : (n : Int) + more - p < 0
          · have d1 : (n : Int) + more - p ≤ j := by have e1 := HN.out.hu; have e2 := HN.out.hp; have e3 := HN.out.hv; have e4 := HN.out.hs; omega
            clear HN
            go_wp2
            all_goals go_ret
            all_goals exact ⟨by first | rfl | (simp; omega) | (simp; done), X3.out⟩
          · have d1 : 0 ≤ (j : Int) := by have e1 := HN.out.hu; have e2 := HN.out.hp; have e3 := HN.out.hv; have e4 := HN.out.hs; omega
            clear HN
            go_wp2
            all_goals go_ret
            all_goals exact ⟨by first | rfl | (simp; omega) | (simp; done), X3.out⟩
        · have c1 : (j : Int) ≤ maxL := by have e1 := HN.out.hu; have e2 := HN.out.hp; have e3 := HN.out.hv; have e4 := HN.out.hs; omega
          by_cases D : (n : Int) + more - p < maxL / 2
          · have d1 : (n : Int) + more - p ≤ j := by have e1 := HN.out.hu; have e2 := HN.out.hp; have e3 := HN.out.hv; have e4 := HN.out.hs; omega
            clear HN
            go_wp2
            all_goals go_ret
            all_goals exact ⟨by first | rfl | (simp; omega) | (simp; done), X3.out⟩
          · have d1 : maxL / 2 ≤ (j : Int) := by have e1 := HN.out.hu; have e2 := HN.out.hp; have e3 := HN.out.hv; have e4 := HN.out.hs; omega
            clear HN
            go_wp2
            all_goals go_ret
            all_goals exact ⟨by first | rfl | (simp; omega) | (simp; done), X3.out⟩
      · by_cases B : (n : Int) + more < minS - kl
        · have p1 : (p : Int) ≤ n + more := by have e1 := HN.out.hu; have e2 := HN.out.hp; have e3 := HN.out.hv; have e4 := HN.out.hs; omega
          have p2 : (n : Int) + more ≤ p := by have e1 := HN.out.hu; have e2 := HN.out.hp; have e3 := HN.out.hv; have e4 := HN.out.hs; omega
          by_cases C : maxL < 0
          · have c1 : (j : Int) ≤ 0 := by have e1 := HN.out.hu; have e2 := HN.out.hp; have e3 := HN.out.hv; have e4 := HN.out.hs; omega
            by_cases D : (n : Int) + more - p < 0
            · have d1 : (n : Int) + more - p ≤ j := by have e1 := HN.out.hu; have e2 := HN.out.hp; have e3 := HN.out.hv; have e4 := HN.out.hs; omega
              clear HN
              go_wp2
              all_goals go_ret
              all_goals exact ⟨by first | rfl | (simp; omega) | (simp; done), X3.out⟩
            · have d1 : 0 ≤ (j : Int) := by have e1 := HN.out.hu; have e2 := HN.out.hp; have e3 := HN.out.hv; have e4 := HN.out.hs; omega
              clear HN
              go_wp2
              all_goals go_ret
              all_goals exact ⟨by first | rfl | (simp; omega) | (simp; done), X3.out⟩
          · have c1 : (j : Int) ≤ maxL := by have e1 := HN.out.hu; have e2 := HN.out.hp; have e3 := HN.out.hv; have e4 := HN.out.hs; omega
            by_cases D : (n : Int) + more - p < maxL / 2
            · have d1 : (n : Int) + more - p ≤ j := by have e1 := HN.out.hu; have e2 := HN.out.hp; have e3 := HN.out.hv; have e4 := HN.out.hs; omega
              clear HN
              go_wp2
              all_goals go_ret
              all_goals exact ⟨by first | rfl | (simp; omega) | (simp; done), X3.out⟩
            · have d1 : maxL / 2 ≤ (j : Int) := by have e1 := HN.out.hu; have e2 := HN.out.hp; have e3 := HN.out.hv; have e4 := HN.out.hs; omega
              clear HN
              go_wp2
              all_goals go_ret
              all_goals exact ⟨by first | rfl | (simp; omega) | (simp; done), X3.out⟩
        · have p1 : (p : Int) ≤ minS - kl := by have e1 := HN.out.hu; have e2 := HN.out.hp; have e3 := HN.out.hv; have e4 := HN.out.hs; omega
          have p2 : minS - kl ≤ (p : Int) := by have e1 := HN.out.hu; have e2 := HN.out.hp; have e3 := HN.out.hv; have e4 := HN.out.hs; omega
          by_cases C : maxL < 0
          · have c1 : (j : Int) ≤ 0 := by have e1 := HN.out.hu; have e2 := HN.out.hp; have e3 := HN.out.hv; have e4 := HN.out.hs; omega
            by_cases D : (n : Int) + more - p < 0
            · have d1 : (n : Int) + more - p ≤ j := by have e1 := HN.out.hu; have e2 := HN.out.hp; have e3 := HN.out.hv; have e4 := HN.out.hs; omega
              clear HN
              go_wp2
              all_goals go_ret
              all_goals exact ⟨by first | rfl | (simp; omega) | (simp; done), X3.out⟩
            · have d1 : 0 ≤ (j : Int) := by have e1 := HN.out.hu; have e2 := HN.out.hp; have e3 := HN.out.hv; have e4 := HN.out.hs; omega
              clear HN
              go_wp2
              all_goals go_ret
              all_goals exact ⟨by first | rfl | (simp; omega) | (simp; done), X3.out⟩
          · have c1 : (j : Int) ≤ maxL := by have e1 := HN.out.hu; have e2 := HN.out.hp; have e3 := HN.out.hv; have e4 := HN.out.hs; omega
            by_cases D : (n : Int) + more - p < maxL / 2
            · have d1 : (n : Int) + more - p ≤ j := by have e1 := HN.out.hu; have e2 := HN.out.hp; have e3 := HN.out.hv; have e4 := HN.out.hs; omega
              clear HN
              go_wp2
              all_goals go_ret
              all_goals exact ⟨by first | rfl | (simp; omega) | (simp; done), X3.out⟩
            · have d1 : maxL / 2 ≤ (j : Int) := by have e1 := HN.out.hu; have e2 := HN.out.hp; have e3 := HN.out.hv; have e4 := HN.out.hs; omega
              clear HN
              go_wp2
              all_goals go_ret
              all_goals exact ⟨by first | rfl | (simp; omega) | (simp; done), X3.out⟩
end Go.Proofs.Ybulkcrco
