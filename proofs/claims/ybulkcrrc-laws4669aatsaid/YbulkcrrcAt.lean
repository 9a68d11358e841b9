import Derived.Test.YbulkcrrcSearch
import Derived.Deep.DeepCutAuto
namespace Go.Proofs.Ybulkcrrc
open Go.RowKit

/-- the empty string -/
abbrev nos : ByteArray := ⟨#[]⟩

/-- symbol j covers a -/
def Cov (T : Syms) (a j : Nat) : Prop := a < T.va j + T.sz j

/-- of the first i symbols, the first that starts at t and covers a has the name S -/
def Pick (T : Syms) (i a t : Nat) (S : ByteArray) : Prop :=
  (∃ f, f < i ∧ T.va f = t ∧ Cov T a f ∧ (∀ j, j < f → T.va j = t → ¬ Cov T a j) ∧ S = T.nm f) ∨ ((∀ j, j < i → T.va j = t → ¬ Cov T a j) ∧ S = nos)

def SymSays (T : Syms) (n a : Nat) (S : ByteArray) : Prop := ∃ i, Split T.va n a i ∧ ((i = 0 ∧ S = nos) ∨ (0 < i ∧ Pick T i a (T.va (i - 1)) S))

def PlSays (Q : Pls) (m a : Nat) (P : ByteArray) : Prop := ∃ i, Split Q.st m a i ∧ ((0 < i ∧ a < Q.en (i - 1) ∧ P = Q.sr (i - 1)) ∨ ((i = 0 ∨ ¬ a < Q.en (i - 1)) ∧ P = nos))

/-- the numbers are small -/
def SmallS (T : Syms) (n : Nat) : Prop := ∀ j, j < n → T.va j ≤ 200000 ∧ T.sz j ≤ 255

/-- where At stands -/
structure AtS (w w' : World) (S P : ByteArray) : Prop where
  x : w'.heap[w.heap.size]? = some (.cells #[.string nos, .string nos] 46 (0, 0))
  f : w'.heap[w.heap.size + 1]? = some (.cells #[.string S, .string P] 46 (0, 0))
  b : Below w.heap.size w w'

theorem AtS.lt {w w' : World} {S P : ByteArray} (h : AtS w w' S P) : w.heap.size + 1 < w'.heap.size := (Array.getElem?_eq_some_iff.1 h.f).1
theorem AtS.x0 {w w' : World} {S P : ByteArray} (h : AtS w w' S P) : w'.cell? ⟨w.heap.size, 0, none⟩ = some (.string nos) := by rw [cell_of_row _ _ 0 _ _ _ h.x]; rfl
theorem AtS.x1 {w w' : World} {S P : ByteArray} (h : AtS w w' S P) : w'.cell? ⟨w.heap.size, 1, none⟩ = some (.string nos) := by rw [cell_of_row _ _ 1 _ _ _ h.x]; rfl
theorem AtS.xf {w w' : World} {S P : ByteArray} (h : AtS w w' S P) (j : Nat) : w'.frozen? ⟨w.heap.size, j, none⟩ = false := frozen_of_row _ _ _ _ _ h.x
theorem AtS.f0 {w w' : World} {S P : ByteArray} (h : AtS w w' S P) : w'.cell? ⟨w.heap.size + 1, 0, none⟩ = some (.string S) := by rw [cell_of_row _ _ 0 _ _ _ h.f]; rfl
theorem AtS.f1 {w w' : World} {S P : ByteArray} (h : AtS w w' S P) : w'.cell? ⟨w.heap.size + 1, 1, none⟩ = some (.string P) := by rw [cell_of_row _ _ 1 _ _ _ h.f]; rfl
theorem AtS.ff {w w' : World} {S P : ByteArray} (h : AtS w w' S P) (j : Nat) : w'.frozen? ⟨w.heap.size + 1, j, none⟩ = false := frozen_of_row _ _ _ _ _ h.f
theorem AtS.start (w : World) : AtS w ((w.alloc (.cells #[.string nos, .string nos] 46)).alloc (.cells #[.string nos, .string nos] 46)) nos nos where
  x := by rw [Below.heap_alloc _ _ _ (by simp)]; exact heap_alloc_new w _
  f := by have := heap_alloc_new (w.alloc (.cells #[.string nos, .string nos] 46)) (.cells #[.string nos, .string nos] 46); simpa using this
  b := ((Below.refl _ _).alloc (Nat.le_refl _) _).alloc (by simp) _
theorem AtS.below {w w' w'' : World} {S P : ByteArray} (h : AtS w w' S P) (hb : Below w'.heap.size w' w'') : AtS w w'' S P where
  x := (hb.block _ (by have := h.lt; omega)).trans h.x
  f := (hb.block _ h.lt).trans h.f
  b := h.b.trans (hb.mono h.b.size)
theorem AtS.store0 {w w' : World} {S P : ByteArray} (h : AtS w w' S P) (S' : ByteArray) : AtS w (w'.setCell ⟨w.heap.size + 1, 0, none⟩ (.string S')) S' P where
  x := (heap_setCell_other w' _ _ _ (by simp)).trans h.x
  f := heap_setCell_same w' _ 0 _ _ _ h.f
  b := h.b.setCell (Nat.le_succ _) _
theorem AtS.store1 {w w' : World} {S P : ByteArray} (h : AtS w w' S P) (P' : ByteArray) : AtS w (w'.setCell ⟨w.heap.size + 1, 1, none⟩ (.string P')) S P' where
  x := (heap_setCell_other w' _ _ _ (by simp)).trans h.x
  f := heap_setCell_same w' _ 1 _ _ _ h.f
  b := h.b.setCell (Nat.le_succ _) _

/-- the definitions' block D, as At meets it -/
structure Defs (w : World) (D : Nat) (aS : Option Addr) (n cS : Nat) (T : Syms) (aP : Option Addr) (m cP : Nat) (Q : Pls) : Prop where
  lt : D < w.heap.size
  c0 : w.cell? ⟨D, 0, none⟩ = some (.slice aS n cS)
  c1 : w.cell? ⟨D, 1, none⟩ = some (.slice aP m cP)
  s : SymIn w aS n T
  p : PlIn w aP m Q
theorem Defs.below {w w' : World} {D : Nat} {aS : Option Addr} {n cS : Nat} {T : Syms} {aP : Option Addr} {m cP : Nat} {Q : Pls} (h : Defs w D aS n cS T aP m cP Q) (hb : Below w.heap.size w w') : Defs w' D aS n cS T aP m cP Q where
  lt := Nat.lt_of_lt_of_le h.lt hb.size
  c0 := (hb.cell (p := ⟨D, 0, none⟩) h.lt).trans h.c0
  c1 := (hb.cell (p := ⟨D, 1, none⟩) h.lt).trans h.c1
  s := h.s.below hb
  p := h.p.below hb

set_option maxRecDepth 100000 in
set_option maxHeartbeats 4000000 in
theorem at_any (D : Nat) (aS : Option Addr) (n cS : Nat) (T : Syms) (aP : Option Addr) (m cP : Nat) (Q : Pls) (a : Nat) (w : World) (hd : Hid (Defs w D aS n cS T aP m cP Q)) (hn : n ≤ 600) (hm : m ≤ 600) (ha : a < 4294967296)
    (hcS : n ≤ cS) (_hcS' : cS ≤ 9223372036854775807) (hu : Hid (Up T.va n)) (hq : Hid (Up Q.st m)) (hs : Hid (SmallS T n)) :
    Calls Yba.prog 8 #[.pointer (some ⟨D, 0, none⟩), .int .u64 a] w fun e w' => ∃ S P, e = .returned (.agg #[.string S, .string P]) ∧ SymSays T n a S ∧ PlSays Q m a P ∧ Below w.heap.size w w' := by
  have H0 : Hid (AtS w _ nos nos) := AtS.start w
  have d0 := (hd.out.below H0.out.b).c0
  have dl := hd.out.lt
  go_enter Yba.func8, Yba.ntmps8
  go_upto_if 22 with (go_at_call 11; refine (searchSym_any _ _ _ _ _ _ (hd.out.below H0.out.b).s hn ha hu).mono ?_; rintro e w1 ⟨i, f, rfl, hsp, hb1⟩; have HS : Hid (Split T.va n a i) := hsp; have H1 : Hid (AtS w w1 nos nos) := H0.out.below hb1; clear hsp hb1 H0)
  clear d0
  go_cut [6] (fun s6 wx => ∃ S, Hid (SymSays T n a S) ∧ Hid (AtS w wx S nos))
  case first =>
    by_cases hi : i = 0
    · subst hi
      go_wp2_with fail
      go_meet
      exact ⟨nos, ⟨0, HS.out, Or.inl ⟨rfl, rfl⟩⟩, H1⟩
    · obtain ⟨k, rfl⟩ : ∃ k, i = k + 1 := ⟨i - 1, by omega⟩
      have hkn : k + 1 ≤ n := HS.out.1
      obtain ⟨g, rfl, hr⟩ := hd.out.s.resolve_left (by omega)
      have hrw := hr.below H1.out.b hr.1
      obtain ⟨_, _, _, c4, _⟩ := hrw.2 k (by omega)
      simp only [Nat.zero_add] at c4
      have d1 := (hd.out.below H1.out.b).c0
      have Hg : Hid (g < w.heap.size) := hr.1
      have HR1 : Hid (SymRow w1 g 0 n T) := hrw
      have HR0 : Hid (SymRow w g 0 n T) := hr
      clear hr hrw hi
      have hl1 := H1.out.lt
      have dl1 : D < w1.heap.size := by omega
      have dne : ¬ D = w1.heap.size := by omega
      have HX : Hid (SymRow (w1.alloc (.cells #[.int .u64 (T.va k)] 25)) g 0 (k + 1) T) := by
        refine SymRow.below (B := w1.heap.size) ⟨HR1.out.1, fun j hj => HR1.out.2 j (by omega)⟩ ((Below.refl _ _).alloc (Nat.le_refl _) _) HR1.out.1
      go_wp2_with fail
      refine (index_any g (k + 1) cS (T.va k) w1.heap.size T _ HX (by omega) (by simp) (by simp) ⟨k, by omega, rfl⟩).mono ?_
      rintro e w2 ⟨q, rfl, hq1, hq2, hq3, hb2⟩
      have H2 : Hid (AtS w w2 nos nos) := (H1.out.below ((Below.refl _ _).alloc (Nat.le_refl _) _)).below hb2
      have d2 := (hd.out.below H2.out.b).c0
      have HQ : Hid (T.va q = T.va k ∧ ∀ j, j < q → T.va j ≠ T.va k) := ⟨hq2, hq3⟩
      have HR2 : Hid (SymRow w2 g 0 n T) := HR0.out.below H2.out.b Hg.out
      clear hq2 hq3 hb2 HX d1 c4 HR1 HR2 H1 dl1 dne hl1
      have hqc : q ≤ k + 1 := by omega
      go_wp2
      go_loopw [48] (fun i wr => ∃ x : Nat, x ≤ k + 1 - q ∧ i = .int .i64 x ∧ Hid (∀ j, j < q + x → T.va j = T.va k → ¬ Cov T a j) ∧ Hid (AtS w wr nos nos)) (fun i _ => k + 1 - q - (intOf i).toNat)
      case atStart => exact ⟨0, Nat.zero_le _, rfl, fun j hj hv => absurd hv (HQ.out.2 j (by omega)), H2⟩
      case round =>
        obtain ⟨x, hx, rfl, hno, H3⟩ := hrel
        by_cases hlt : x < k + 1 - q
        · have hr3 : SymRow wr g 0 n T := HR0.out.below H3.out.b Hg.out
          obtain ⟨c1, c2, c3, c4, c5⟩ := hr3.2 (q + x) (by omega)
          rw [show 0 + (q + x) * 5 = q * 5 + x * 5 by omega] at c1 c2 c3 c4 c5
          have HV : Hid (T.va (q + x) = T.va k) := by
            have h1 := hu.out q (q + x) (by omega) (by omega)
            have h2 := hu.out (q + x) k (by omega) (by omega)
            have h3 := HQ.out.1
            exact (by omega : T.va (q + x) = T.va k)
          have sm1 := (hs.out (q + x) (by omega)).1
          have sm2 := (hs.out (q + x) (by omega)).2
          have f0 := H3.out.f0
          have ff := H3.out.ff 0
          have fl := H3.out.lt
          have fne : ¬ w.heap.size + 1 = wr.heap.size := by omega
          by_cases hcov : Cov T a (q + x)
          · have hcv : (a : Int) < T.va (q + x) + T.sz (q + x) := by unfold Cov at hcov; omega
            have HCV : Hid (Cov T a (q + x)) := hcov
            clear hcov hr3
            go_wp2
            go_meet
            refine ⟨T.nm (q + x), ⟨k + 1, HS.out, Or.inr ⟨by omega, Or.inl ⟨q + x, by omega, HV.out, HCV.out, hno.out, rfl⟩⟩⟩, ?_⟩
            exact (H3.out.store0 _).below ((Below.refl _ _).alloc (Nat.le_refl _) _)
          · have hcv : ¬ ((a : Int) < T.va (q + x) + T.sz (q + x)) := by unfold Cov at hcov; omega
            have HCV : Hid (¬ Cov T a (q + x)) := hcov
            clear hcov hr3
            go_wp2
            go_roundw
            case rel =>
              refine ⟨x + 1, by omega, by go_num, fun j hj hv => ?_, H3.out.below ((Below.refl _ _).alloc (Nat.le_refl _) _)⟩
              by_cases e : j = q + x
              · rw [e]; exact HCV.out
              · exact hno.out j (by omega) hv
            case measure => simp [intOf]; omega
        · go_wp2
          go_meet
          exact ⟨nos, ⟨k + 1, HS.out, Or.inr ⟨by omega, Or.inr ⟨fun j hj hv => hno.out j (by omega) hv, rfl⟩⟩⟩, H3⟩
  case rest =>
  obtain ⟨S, hS, H2⟩ := hcut
  have d0 := (hd.out.below H2.out.b).c1
  go_wp2_with fail
  refine (searchPl_any _ _ _ _ _ _ (hd.out.below H2.out.b).p hm ha hq).mono ?_
  rintro e w3 ⟨i2, f2, rfl, hsp, hb3⟩
  have HP : Hid (Split Q.st m a i2) := hsp
  have H3 : Hid (AtS w w3 S nos) := H2.out.below hb3
  have d1 := (hd.out.below H3.out.b).c1
  have x0 := H3.out.x0
  have x1 := H3.out.x1
  have xf0 := H3.out.xf 0
  have xf1 := H3.out.xf 1
  have f0 := H3.out.f0
  have f1 := H3.out.f1
  have ff1 := H3.out.ff 1
  clear hsp hb3 H2 d0
  by_cases hi : i2 = 0
  · subst hi
    go_wp2
    refine bodyPost_ret (v := .agg #[.string S, .string nos]) ?_ rfl ?_
    · simp [results, Yba.results8, go_sem, x0, x1]
    · exact ⟨S, nos, rfl, hS.out, ⟨0, HP.out, Or.inr ⟨Or.inl rfl, rfl⟩⟩, (H3.out.b.setCell (Nat.le_refl _) _).setCell (Nat.le_refl _) _⟩
  · obtain ⟨k, rfl⟩ : ∃ k, i2 = k + 1 := ⟨i2 - 1, by omega⟩
    have hkn : k + 1 ≤ m := HP.out.1
    obtain ⟨g, rfl, hr⟩ := hd.out.p.resolve_left (by omega)
    have hrw := hr.below H3.out.b hr.1
    obtain ⟨c1, c2, c3⟩ := hrw.2 k (by omega)
    simp only [Nat.zero_add] at c1 c2 c3
    have dl1 := Nat.lt_of_lt_of_le dl H3.out.b.size
    have dne : ¬ D = w.heap.size := by omega
    have dne1 : ¬ D = w.heap.size + 1 := by omega
    have gl : g < w.heap.size := hr.1
    have gne : ¬ g = w.heap.size := by omega
    have gne1 : ¬ g = w.heap.size + 1 := by omega
    clear hr hrw hi
    by_cases hc : a < Q.en k
    · have hc' : (a : Int) < Q.en k := by omega
      have HC : Hid (a < Q.en k) := hc
      clear hc
      go_wp2
      refine bodyPost_ret (v := .agg #[.string S, .string (Q.sr k)]) ?_ rfl ?_
      · simp [results, Yba.results8, go_sem, x0, x1]
      · exact ⟨S, Q.sr k, rfl, hS.out, ⟨k + 1, HP.out, Or.inl ⟨by omega, HC.out, rfl⟩⟩, ((H3.out.store1 _).b.setCell (Nat.le_refl _) _).setCell (Nat.le_refl _) _⟩
    · have hc' : ¬ ((a : Int) < Q.en k) := by omega
      have HC : Hid (¬ a < Q.en k) := hc
      clear hc
      go_wp2
      refine bodyPost_ret (v := .agg #[.string S, .string nos]) ?_ rfl ?_
      · simp [results, Yba.results8, go_sem, x0, x1]
      · exact ⟨S, nos, rfl, hS.out, ⟨k + 1, HP.out, Or.inr ⟨Or.inr HC.out, rfl⟩⟩, (H3.out.b.setCell (Nat.le_refl _) _).setCell (Nat.le_refl _) _⟩
end Go.Proofs.Ybulkcrrc
