import Derived.Test.YbulkcrcoShape
import Derived.Deep.DeepCutAuto
namespace Go.Proofs.Ybulkcrco
open Go.RowKit

set_option maxRecDepth 100000 in
set_option maxHeartbeats 2000000 in
theorem model_lack (a0 b0 : Option Addr) (kl kc n rc bound : Nat) (more minS maxL u v : Int) (p s l : Nat) (w : World) (HN : Hid (Nums kl n more minS maxL u v p s l)) (k1 : kl ≤ 1024) (n1 : n ≤ 1024)
    (m0 : 0 ≤ more) (m1 : more ≤ 65535) (a1 : -32768 ≤ minS) (a2 : minS ≤ 32767) (b1 : -32768 ≤ maxL) (b2 : maxL ≤ 32767) (hlack : 0 < (p : Int) + s - n) :
    Calls Yba.prog 7 #[.slice a0 kl kc, .slice b0 n rc, .int .i64 more, .float .f64 bound, .int .i64 minS, .int .i64 maxL] w fun e w' => e = .returned (.tuple #[.int .i64 0, .int .i64 0, .int .i64 (p + s - n)]) ∧ w' = w := by
  go_enter Yba.func7, Yba.ntmps7
  go_upto_if 32 with fail
  go_cut [17] (fun s17 wx => s17 = .int .i64 u ∧ w = wx)
  case first =>
    have hu := HN.out.hu
    by_cases h : (kl : Int) < minS
    · have e : Hid (minS - kl = u) := (by omega : minS - kl = u)
      clear hu
      go_wp2_with fail
      go_meet
      exact ⟨by rw [e.out], rfl⟩
    · have e : Hid (u = 0) := (by omega : u = 0)
      clear hu
      go_wp2_with fail
      go_meet
      exact ⟨by rw [e.out], rfl⟩
  case rest =>
  obtain ⟨rfl, rfl⟩ := hcut
  go_upto_if 39 with fail
  go_cut [17] (fun s17 wx => s17 = .int .i64 p ∧ w = wx)
  case first =>
    have hu := HN.out.hu; have hp := HN.out.hp; have hv := HN.out.hv; have hs := HN.out.hs; have hl := HN.out.hl
    by_cases h : (n : Int) + more < u
    · have e : Hid ((n : Int) + more = p) := (by omega : (n : Int) + more = p)
      clear hu hp hv hs hl
      clear HN
      go_wp2_with fail
      go_meet
      exact ⟨by rw [e.out], rfl⟩
    · have e : Hid (u = p) := (by omega : u = p)
      clear hu hp hv hs hl
      clear HN
      go_wp2_with fail
      go_meet
      exact ⟨by rw [e.out], rfl⟩
  case rest =>
  obtain ⟨rfl, rfl⟩ := hcut
  have p0 : (p : Int) ≤ 66559 := by have := HN.out.hp; omega
  go_upto_if 42 with fail
  go_cut [18] (fun s18 wx => s18 = .int .i64 v ∧ w = wx)
  case first =>
    have hu := HN.out.hu; have hp := HN.out.hp; have hv := HN.out.hv; have hs := HN.out.hs; have hl := HN.out.hl
    by_cases h : 0 < maxL
    · have e : Hid (maxL = v) := (by omega : maxL = v)
      clear hu hp hv hs hl
      clear HN
      go_wp2_with fail
      go_meet
      exact ⟨by rw [e.out], rfl⟩
    · have e : Hid (v = 0) := (by omega : v = 0)
      clear hu hp hv hs hl
      clear HN
      go_wp2_with fail
      go_meet
      exact ⟨by rw [e.out], rfl⟩
  case rest =>
  obtain ⟨rfl, rfl⟩ := hcut
  have v0 : 0 ≤ v := by have := HN.out.hv; omega
  have v1 : v ≤ 32767 := by have := HN.out.hv; omega
  go_upto_if 50 with fail
  go_cut [19] (fun s19 wx => s19 = .int .i64 s ∧ w = wx)
  case first =>
    have hu := HN.out.hu; have hp := HN.out.hp; have hv := HN.out.hv; have hs := HN.out.hs; have hl := HN.out.hl
    by_cases h : (n : Int) + more - p < v / 2
    · have e : Hid ((n : Int) + more - p = s) := (by omega : (n : Int) + more - p = s)
      clear hu hp hv hs hl
      clear HN
      go_wp2_with fail
      go_meet
      exact ⟨by rw [e.out], rfl⟩
    · have e : Hid (v / 2 = s) := (by omega : v / 2 = s)
      clear hu hp hv hs hl
      clear HN
      go_wp2_with fail
      go_meet
      exact ⟨by rw [e.out], rfl⟩
  case rest =>
  obtain ⟨rfl, rfl⟩ := hcut
  have s0 : (s : Int) ≤ 16383 := by have := HN.out.hs; omega
  have hlack' : (n : Int) < p + s := by omega
  go_wp2
  go_ret3
  exact ⟨rfl, rfl⟩
set_option maxRecDepth 100000 in
set_option maxHeartbeats 4000000 in
theorem model_main (a0 b0 : Option Addr) (kl kc n rc bound : Nat) (more minS maxL u v : Int) (p s l : Nat) (kd rd : Nat → Nat) (w : World) (HN : Hid (Nums kl n more minS maxL u v p s l)) (hk : Hid (DistIn w a0 kl kd)) (hr : Hid (DistIn w b0 n rd)) (k1 : kl ≤ 1024) (n1 : n ≤ 1024)
    (m0 : 0 ≤ more) (m1 : more ≤ 65535) (a1 : -32768 ≤ minS) (a2 : minS ≤ 32767) (b1 : -32768 ≤ maxL) (b2 : maxL ≤ 32767) (hlack : ¬ 0 < (p : Int) + s - n) :
    Calls Yba.prog 7 #[.slice a0 kl kc, .slice b0 n rc, .int .i64 more, .float .f64 bound, .int .i64 minS, .int .i64 maxL] w fun e w' => LayPost kl n p s l bound kd rd w e w' := by
  go_enter Yba.func7, Yba.ntmps7
  go_upto_if 32 with fail
  go_cut [17] (fun s17 wx => s17 = .int .i64 u ∧ w = wx)
  case first =>
    have hu := HN.out.hu
    by_cases h : (kl : Int) < minS
    · have e : Hid (minS - kl = u) := (by omega : minS - kl = u)
      clear hu
      go_wp2_with fail
      go_meet
      exact ⟨by rw [e.out], rfl⟩
    · have e : Hid (u = 0) := (by omega : u = 0)
      clear hu
      go_wp2_with fail
      go_meet
      exact ⟨by rw [e.out], rfl⟩
  case rest =>
  obtain ⟨rfl, rfl⟩ := hcut
  go_upto_if 39 with fail
  go_cut [17] (fun s17 wx => s17 = .int .i64 p ∧ w = wx)
  case first =>
    have hu := HN.out.hu; have hp := HN.out.hp; have hv := HN.out.hv; have hs := HN.out.hs; have hl := HN.out.hl
    by_cases h : (n : Int) + more < u
    · have e : Hid ((n : Int) + more = p) := (by omega : (n : Int) + more = p)
      clear hu hp hv hs hl
      clear HN
      go_wp2_with fail
      go_meet
      exact ⟨by rw [e.out], rfl⟩
    · have e : Hid (u = p) := (by omega : u = p)
      clear hu hp hv hs hl
      clear HN
      go_wp2_with fail
      go_meet
      exact ⟨by rw [e.out], rfl⟩
  case rest =>
  obtain ⟨rfl, rfl⟩ := hcut
  have p0 : (p : Int) ≤ 66559 := by have := HN.out.hp; omega
  go_upto_if 42 with fail
  go_cut [18] (fun s18 wx => s18 = .int .i64 v ∧ w = wx)
  case first =>
    have hu := HN.out.hu; have hp := HN.out.hp; have hv := HN.out.hv; have hs := HN.out.hs; have hl := HN.out.hl
    by_cases h : 0 < maxL
    · have e : Hid (maxL = v) := (by omega : maxL = v)
      clear hu hp hv hs hl
      clear HN
      go_wp2_with fail
      go_meet
      exact ⟨by rw [e.out], rfl⟩
    · have e : Hid (v = 0) := (by omega : v = 0)
      clear hu hp hv hs hl
      clear HN
      go_wp2_with fail
      go_meet
      exact ⟨by rw [e.out], rfl⟩
  case rest =>
  obtain ⟨rfl, rfl⟩ := hcut
  have v0 : 0 ≤ v := by have := HN.out.hv; omega
  have v1 : v ≤ 32767 := by have := HN.out.hv; omega
  go_upto_if 50 with fail
  go_cut [19] (fun s19 wx => s19 = .int .i64 s ∧ w = wx)
  case first =>
    have hu := HN.out.hu; have hp := HN.out.hp; have hv := HN.out.hv; have hs := HN.out.hs; have hl := HN.out.hl
    by_cases h : (n : Int) + more - p < v / 2
    · have e : Hid ((n : Int) + more - p = s) := (by omega : (n : Int) + more - p = s)
      clear hu hp hv hs hl
      clear HN
      go_wp2_with fail
      go_meet
      exact ⟨by rw [e.out], rfl⟩
    · have e : Hid (v / 2 = s) := (by omega : v / 2 = s)
      clear hu hp hv hs hl
      clear HN
      go_wp2_with fail
      go_meet
      exact ⟨by rw [e.out], rfl⟩
  case rest =>
  obtain ⟨rfl, rfl⟩ := hcut
  have s0 : (s : Int) ≤ 16383 := by have := HN.out.hs; omega
  have l0 : (l : Int) ≤ 32767 := by have := HN.out.hl; omega
  have hlack' : ¬ (n : Int) < p + s := by omega
  have ps : p + s ≤ n := by omega
  go_upto_if 66 with fail
  go_cut [20] (fun s20 wx => ∃ f1 q, s20 = .float .f64 f1 ∧ Hid (if kl = 0 then f1 = 0 else MaxOf 0 (kd (kl - 1)) f1) ∧ w.drewN q = wx)
  case first =>
    clear HN hr
    by_cases h : kl = 0
    · have h' : ¬ (0 : Int) < (kl : Int) := by omega
      have Hh : Hid (kl = 0) := h
      clear h
      go_wp2_with fail
      go_meet
      exact ⟨0, 0, rfl, (by rw [if_pos Hh.out] : if kl = 0 then _ else _), rfl⟩
    · obtain ⟨b, off, rfl, hbw, hcell⟩ := hk.out.resolve_left (by omega)
      have h' : (0 : Int) < (kl : Int) := by omega
      have hc := hcell (kl - 1) (by omega)
      obtain ⟨dk, hdk⟩ : ∃ dk, dk = kd (kl - 1) := ⟨_, rfl⟩
      rw [← hdk] at hc
      have HD : Hid (dk = kd (kl - 1)) := hdk
      obtain ⟨f1, q1, M1, r1⟩ := run_maxf (P := Yba.prog) w #[24, 24] 0 dk
      have HM : Hid (MaxOf 0 dk f1) := M1
      clear M1 hcell hdk
      go_wp2_with fail
      go_meet
      exact ⟨f1, q1, rfl, (by rw [if_neg h, ← HD.out]; exact HM.out : if kl = 0 then _ else _), rfl⟩
  case rest =>
  obtain ⟨f1, q1, rfl, H1, rfl⟩ := hcut
  go_upto_if 76 with fail
  go_cut [20] (fun s20 wx => ∃ f2 q, s20 = .float .f64 f2 ∧ Hid (if p = 0 then f2 = f1 else MaxOf f1 (rd (p - 1)) f2) ∧ w.drewN q = wx)
  case first =>
    clear HN hk
    by_cases h : p = 0
    · have h' : ¬ (0 : Int) < (p : Int) := by omega
      have Hh : Hid (p = 0) := h
      clear h
      go_wp2_with fail
      go_meet
      exact ⟨f1, q1, rfl, (by rw [if_pos Hh.out] : if p = 0 then _ else _), rfl⟩
    · obtain ⟨b, off, rfl, hbw, hcell⟩ := hr.out.resolve_left (by omega)
      have h' : (0 : Int) < (p : Int) := by omega
      have hc := hcell (p - 1) (by omega)
      obtain ⟨dm, hdm⟩ : ∃ dm, dm = rd (p - 1) := ⟨_, rfl⟩
      rw [← hdm] at hc
      have HD : Hid (dm = rd (p - 1)) := hdm
      obtain ⟨f2, q2, M2, r2⟩ := run_maxf (P := Yba.prog) (w.drewN q1) #[24, 24] f1 dm
      rw [World.drewN_drewN] at r2
      have HM : Hid (MaxOf f1 dm f2) := M2
      clear M2 hcell hdm
      go_wp2_with fail
      go_meet
      exact ⟨f2, q1 + q2, rfl, (by rw [if_neg h, ← HD.out]; exact HM.out : if p = 0 then _ else _), rfl⟩
  case rest =>
  obtain ⟨f2, q2, rfl, H2, rfl⟩ := hcut
  obtain ⟨r, q3, M3, r3⟩ := run_mulf (P := Yba.prog) (w.drewN q2) f2
  rw [World.drewN_drewN] at r3
  have HR : Hid (ReachOf kl p (kd (kl - 1)) (rd (p - 1)) r) := ⟨f1, f2, H1.out, H2.out, M3⟩
  clear M3 H1 H2 hk
  go_upto_if 91 with fail
  clear r3
  go_cut [22] (fun s22 wx => s22 = .int .i64 l ∧ w.drewN (q2 + q3) = wx)
  case first =>
    have hv := HN.out.hv; have hl := HN.out.hl
    by_cases h : (n : Int) + more - p < v
    · have e : Hid ((n : Int) + more - p = l) := (by omega : (n : Int) + more - p = l)
      clear hv hl HN
      go_wp2_with fail
      go_meet
      exact ⟨by rw [e.out], rfl⟩
    · have e : Hid (v = l) := (by omega : v = l)
      clear hv hl HN
      go_wp2_with fail
      go_meet
      exact ⟨by rw [e.out], rfl⟩
  case rest =>
  obtain ⟨rfl, rfl⟩ := hcut
  have HB : Hid (Below w.heap.size w (w.drewN (q2 + q3))) := below_drewN (Below.refl _ _) _
  clear HN
  go_wp2
  go_loop [23] (fun near => ∃ j : Nat, near = .int .i64 j ∧ s ≤ j ∧ p + j ≤ n ∧ Hid (∀ i, s ≤ i → i < j → Goes n p l r rd i)) (fun near => n - (intOf near).toNat)
  case atStart => exact ⟨s, rfl, Nat.le_refl _, ps, fun i h1 h2 => by omega⟩
  case round =>
    obtain ⟨j, rfl, hj1, hj2, HJ⟩ := hrel
    by_cases hlim : j < l
    · by_cases hin : p + j < n
      · obtain ⟨b, off, rfl, hbw, hcell0⟩ := hr.out.resolve_left (by omega)
        have hcell := hcell0 (p + j) hin
        clear hcell0
        cases hle : leq (rd (p + j)) r with
        | true =>
          have hle' := leq_form hle
          go_wp2
          go_round
          case rel => exact ⟨j + 1, by go_num, by omega, by omega, fun i h1 h2 => by
            by_cases e : i = j
            · subst e; exact ⟨hlim, hin, hle⟩
            · exact HJ.out i h1 (by omega)⟩
          case measure => simp [intOf]; omega
        | false =>
          have hle' := leq_form hle
          have hne : ¬ ((p : Int) + (j : Int) = (n : Int)) := by omega
          go_wp2
          go_ret3
          exact ⟨HB.out, r, j, HR.out, hj1, hj2, HJ.out, fun h => (by have := h.2.2; rw [hle] at this; cases this), Or.inr ⟨fun h => by omega, rfl⟩⟩
      · have hpe : p + j = n := by omega
        cases hle : leq bound r with
        | true =>
          have hle' := leq_form hle
          go_wp2
          go_ret3
          exact ⟨HB.out, r, j, HR.out, hj1, hj2, HJ.out, fun h => hin h.2.1, Or.inl ⟨hlim, hpe, hle, rfl⟩⟩
        | false =>
          have hle' := leq_form hle
          go_wp2
          go_ret3
          exact ⟨HB.out, r, j, HR.out, hj1, hj2, HJ.out, fun h => hin h.2.1, Or.inr ⟨fun h => (by have := h.2.2; rw [hle] at this; cases this), rfl⟩⟩
    · go_wp2
      go_ret3
      exact ⟨HB.out, r, j, HR.out, hj1, hj2, HJ.out, fun h => hlim h.1, Or.inr ⟨fun h => hlim h.1, rfl⟩⟩
end Go.Proofs.Ybulkcrco
