import Derived.Test.YbulkcrrcFill
namespace Go.Proofs.Ybulkcrrc
open Go.RowKit

def InS (w : World) (a0 : Option Addr) (n : Nat) : Prop :=
  n = 0 ∨ ∃ b off, a0 = some ⟨b, off, none⟩ ∧ b < w.heap.size ∧ ∀ i, i < n → ∃ x y : Nat, x ≤ 255 ∧ y ≤ 255 ∧ w.cell? ⟨b, off + i * 2, none⟩ = some (.int .u8 x) ∧ w.cell? ⟨b, off + i * 2 + 1, none⟩ = some (.int .u8 y)
def InP (w : World) (a0 : Option Addr) (n : Nat) : Prop :=
  n = 0 ∨ ∃ b off, a0 = some ⟨b, off, none⟩ ∧ b < w.heap.size ∧ ∀ i, i < n → ∃ x y z : Nat, x ≤ 255 ∧ y ≤ 255 ∧ w.cell? ⟨b, off + i * 3, none⟩ = some (.int .u8 x) ∧ w.cell? ⟨b, off + i * 3 + 1, none⟩ = some (.int .u8 y) ∧ w.cell? ⟨b, off + i * 3 + 2, none⟩ = some (.int .u8 z)

/-- k numbers that grow, none above v -/
def Grow (va : Nat → Nat) (k v : Nat) : Prop := Up va k ∧ ∀ j, j < k → va j ≤ v

theorem Grow.snoc {va : Nat → Nat} {k v : Nat} (h : Grow va k v) (x : Nat) : Grow (fun j => if j = k then v + x else va j) (k + 1) (v + x) := by
  constructor
  · intro i j hij hj
    by_cases e : j = k
    · subst e
      by_cases e' : i = j
      · simp [e']
      · simp only [if_neg e', if_true]
        have := h.2 i (by omega)
        omega
    · have e' : i ≠ k := by omega
      simp only [if_neg e, if_neg e']
      exact h.1 i j hij (by omega)
  · intro j hj
    by_cases e : j = k
    · simp [e]
    · simp only [if_neg e]
      have := h.2 j (by omega)
      omega

def noSyms : Syms := ⟨fun _ => nos, fun _ => 0, fun _ => 0⟩
def noPls : Pls := ⟨fun _ => 0, fun _ => 0, fun _ => nos⟩

theorem DS.start (w : World) : DS w (w.alloc (.cells #[.slice none 0 0, .slice none 0 0] 30)) (.slice none 0 0) (.slice none 0 0) (.slice none 0 0) 0 noSyms (.slice none 0 0) 0 noPls where
  x := heap_alloc_new w _
  s := ⟨[], ⟨rfl, Or.inl ⟨rfl, rfl⟩⟩, rfl, fun j hj => by omega, fun u hu => by simp at hu⟩
  p := ⟨[], ⟨rfl, Or.inl ⟨rfl, rfl⟩⟩, rfl, fun j hj => by omega, fun u hu => by simp at hu⟩
  b := (Below.refl _ _).alloc (Nat.le_refl _) _

theorem SmallS.snoc {T : Syms} {k : Nat} (h : SmallS T k) (s : ByteArray) (v y : Nat) (hv : v ≤ 200000) (hy : y ≤ 255) : SmallS (T.snoc k s v y) (k + 1) := by
  intro j hj
  by_cases e : j = k
  · simp only [Syms.snoc, if_pos e]
    exact ⟨hv, hy⟩
  · simp only [Syms.snoc, if_neg e]
    exact h j (by omega)

theorem DS.defs {w0 w : World} {p : Option Addr} {k cp : Nat} {T : Syms} {p' : Option Addr} {m cp' : Nat} {Q : Pls} (h : DS w0 w (.slice p k cp) (.slice p' m cp') (.slice p k cp) k T (.slice p' m cp') m Q) :
    Defs w w0.heap.size p k cp T p' m cp' Q ∧ k ≤ cp ∧ cp ≤ 9223372036854775807 := by
  obtain ⟨a1, c1, e1, h1, h2, h3⟩ := h.s.form
  obtain ⟨a2, c2, e2, h4, h5, h6⟩ := h.p.form
  cases e1
  cases e2
  exact ⟨⟨h.lt, h.c0, h.c1, h3, h6⟩, h1, h2⟩

/-- behind the call of At: the tables, their clones, what At said -/
structure Fin (w wr : World) (p : Option Addr) (k cp : Nat) (T : Syms) (p' : Option Addr) (m cp' : Nat) (Q : Pls) (a3 a4 : Option Addr) (gb : Nat) (S P : ByteArray) : Prop where
  d : DS w wr (.slice p k cp) (.slice p' m cp') (.slice p k cp) k T (.slice p' m cp') m Q
  s3 : SymIn wr a3 k T
  p4 : PlIn wr a4 m Q
  gl : gb < wr.heap.size
  g0 : wr.cell? ⟨gb, 0, none⟩ = some (.string S)
  g1 : wr.cell? ⟨gb, 1, none⟩ = some (.string P)

theorem Fin.mk5 {w w5 : World} {p : Option Addr} {k cp : Nat} {T : Syms} {p' : Option Addr} {m cp' : Nat} {Q : Pls} {a3 a4 : Option Addr} {S P : ByteArray} (d : DS w w5 (.slice p k cp) (.slice p' m cp') (.slice p k cp) k T (.slice p' m cp') m Q) (s3 : SymIn w5 a3 k T) (p4 : PlIn w5 a4 m Q) :
    Fin w (w5.alloc (.cells #[.string S, .string P] 46)) p k cp T p' m cp' Q a3 a4 w5.heap.size S P where
  d := d.below ((Below.refl _ _).alloc (Nat.le_refl _) _)
  s3 := s3.below ((Below.refl _ _).alloc (Nat.le_refl _) _)
  p4 := p4.below ((Below.refl _ _).alloc (Nat.le_refl _) _)
  gl := by simp
  g0 := by simp
  g1 := by simp
theorem Fin.below {w wr wr' : World} {p : Option Addr} {k cp : Nat} {T : Syms} {p' : Option Addr} {m cp' : Nat} {Q : Pls} {a3 a4 : Option Addr} {gb : Nat} {S P : ByteArray} (h : Fin w wr p k cp T p' m cp' Q a3 a4 gb S P) (hb : Below wr.heap.size wr wr') : Fin w wr' p k cp T p' m cp' Q a3 a4 gb S P where
  d := h.d.below hb
  s3 := h.s3.below hb
  p4 := h.p4.below hb
  gl := Nat.lt_of_lt_of_le h.gl hb.size
  g0 := (hb.cell (p := ⟨gb, 0, none⟩) h.gl).trans h.g0
  g1 := (hb.cell (p := ⟨gb, 1, none⟩) h.gl).trans h.g1
theorem Fin.alloc {w wr : World} {p : Option Addr} {k cp : Nat} {T : Syms} {p' : Option Addr} {m cp' : Nat} {Q : Pls} {a3 a4 : Option Addr} {gb : Nat} {S P : ByteArray} (h : Fin w wr p k cp T p' m cp' Q a3 a4 gb S P) (o : Obj) : Fin w (wr.alloc o) p k cp T p' m cp' Q a3 a4 gb S P :=
  h.below ((Below.refl _ _).alloc (Nat.le_refl _) _)

theorem Pick.is {T : Syms} {i a t x : Nat} {S : ByteArray} (h : Pick T i a t S) (hx : x < i) (hv : T.va x = t) (hc : Cov T a x) (hno : ∀ j, j < x → T.va j = t → ¬ Cov T a j) : S = T.nm x := by
  rcases h with ⟨f, h1, h2, h3, h4, rfl⟩ | ⟨h1, _⟩
  · have e : f = x := by
      rcases Nat.lt_trichotomy f x with h | h | h
      · exact absurd h3 (hno f h h2)
      · exact h
      · exact absurd hc (h4 x h hv)
    rw [e]
  · exact absurd hc (h1 x hx hv)
theorem Pick.not {T : Syms} {i a t : Nat} {S : ByteArray} (h : Pick T i a t S) (hno : ∀ j, j < i → T.va j = t → ¬ Cov T a j) : S = nos := by
  rcases h with ⟨f, h1, h2, h3, h4, rfl⟩ | ⟨_, h2⟩
  · exact absurd h3 (hno f h1 h2)
  · exact h2

/-- where the law's first loop has come to: the start of the last symbol at or below a -/
def startAt (T : Syms) (I x : Nat) : Nat := if min x I = 0 then 0 else T.va (min x I - 1)
theorem startAt_in {T : Syms} {I x : Nat} (h : x < I) : T.va x = startAt T I (x + 1) := by
  unfold startAt
  rw [show min (x + 1) I = x + 1 by omega]
  simp
theorem startAt_out {T : Syms} {I x : Nat} (h : ¬ x < I) : startAt T I x = startAt T I (x + 1) := by
  unfold startAt
  rw [show min (x + 1) I = min x I by omega]
theorem startAt_end {T : Syms} {I n : Nat} (h : I ≤ n) (h0 : 0 < I) : startAt T I n = T.va (I - 1) := by
  unfold startAt
  rw [show min n I = I by omega, if_neg (by omega)]

theorem wrap_small (y : Nat) (h : y ≤ 400000) : IntKind.u64.wrap (y : Int) = y := by
  have e1 : IntKind.u64.bits = 64 := rfl
  have e2 : IntKind.u64.signed = false := rfl
  simp [IntKind.wrap, e1, e2]
  omega

set_option maxRecDepth 100000 in
set_option maxHeartbeats 4000000 in
theorem law_any (a0 b0 : Option Addr) (n c m d a : Nat) (w : World) (hS : Hid (InS w a0 n)) (hP : Hid (InP w b0 m)) (hn : n ≤ 600) (hm : m ≤ 600) (ha : a < 4294967296) :
    Calls Yba.prog 3 #[.slice a0 n c, .slice b0 m d, .int .u32 a] w fun e w' => e = .returned (.bool true) ∧ Below w.heap.size w w' := by
  have H0 : Hid (DS w _ _ _ _ 0 noSyms _ 0 noPls) := DS.start w
  go_enter Yba.func3, Yba.ntmps3
  go_wp2
  go_loopw [9, 43] (fun s9 i wr => ∃ (k v : Nat) (T : Syms) (p : Option Addr) (cp : Nat), k ≤ n ∧ i = .int .i64 k ∧ s9 = .int .u64 v ∧ v ≤ 255 * k ∧ Hid (Grow T.va k v) ∧ Hid (SmallS T k) ∧ Hid (DS w wr (.slice p k cp) (.slice none 0 0) (.slice p k cp) k T (.slice none 0 0) 0 noPls)) (fun _ i _ => n - (intOf i).toNat)
  case atStart => exact ⟨0, 0, noSyms, none, 0, Nat.zero_le _, rfl, rfl, by omega, ⟨fun i j _ h => by omega, fun j h => by omega⟩, fun j h => by omega, H0⟩
  case round =>
    clear H0
    obtain ⟨k, v, T, p, cp, hk, rfl, rfl, hv, hG, hSm, hD⟩ := hrel
    by_cases hlt : k < n
    · obtain ⟨b, off, rfl, hbw, hcell⟩ := hS.out.resolve_left (by omega)
      obtain ⟨x, y, hx, hy, k1, k2⟩ := hcell k hlt
      have c1 := (hD.out.b.cell (p := ⟨b, off + k * 2, none⟩) hbw).trans k1
      have c2 := (hD.out.b.cell (p := ⟨b, off + k * 2 + 1, none⟩) hbw).trans k2
      clear hcell k1 k2
      go_wp2
      have HW : Hid (DS w (wr.alloc (.cells #[.int .u8 x, .int .u8 y] 32)).drew (.slice p k cp) (.slice none 0 0) (.slice p k cp) k T (.slice none 0 0) 0 noPls) := hD.out.below ((Below.refl _ _).alloc (Nat.le_refl _) _).drew
      have d1 : (wr.alloc (.cells #[.int .u8 x, .int .u8 y] 32)).cell? ⟨wr.heap.size, 1, none⟩ = some (.int .u8 y) := by simp
      have hkl : Hid (wr.heap.size < (wr.alloc (.cells #[.int .u8 x, .int .u8 y] 32)).heap.size) := by show _ < _; simp
      clear c1 c2 hD
      generalize wr.heap.size = kb at d1 hkl ⊢
      generalize wr.alloc (.cells #[.int .u8 x, .int .u8 y] 32) = W at HW d1 hkl ⊢
      have d0 := HW.out.c0
      have hwy : Hid (IntKind.u64.wrap (y : Int) = y) := wrap_small y (by omega)
      go_region_law (first
        | (refine step_name rfl (.tmp 58) rfl k (by first | (simp [Act.eval]; done) | simp [Act.eval, Act.put]) ?_; intro s w1 hb1; have HD1 : Hid (DS w w1 (.slice p k cp) (.slice none 0 0) (.slice p k cp) k T (.slice none 0 0) 0 noPls) := HW.out.below hb1; have e0 := HD1.out.c0; have l1 := HD1.out.lt; have l2 : ¬ w.heap.size = w1.heap.size := (by omega); have e1 : w1.cell? ⟨kb, 1, none⟩ = some (.int .u8 y) := (hb1.cell (p := ⟨kb, 1, none⟩) hkl.out).trans d1; clear hb1)
        | (refine step_appS rfl (.tmp 57) (.tmp 65) rfl s (v + x) y _ _ (by simp) (by first | rfl | exact hwy.out) w1.heap.size rfl (by simp [Act.eval]) (by simp [Act.eval]) HD1.out (by omega) ?_; intro p2 c2 w2 H2; have g0 := H2.out.c0; have g1 := H2.out.f 0))
      all_goals
        clear HW d1 hkl d0 hwy HD1 e0 l1 l2 e1 g0 g1
        go_wp2
        go_roundw
        case rel => exact ⟨k + 1, v + x, T.snoc k s (v + x) y, p2, c2, by omega, by go_num, by simp, by omega, hG.out.snoc x, hSm.out.snoc _ _ _ (by omega) hy, H2.out.store0 _⟩
        case measure => simp [intOf]; omega
    · obtain rfl : k = n := by omega
      go_wp2
      go_loopw [12, 72] (fun s12 i wr => ∃ (j q : Nat) (Q : Pls) (p' : Option Addr) (cp' : Nat), j ≤ m ∧ i = .int .i64 j ∧ s12 = .int .u64 q ∧ q ≤ 255 * j ∧ Hid (Grow Q.st j q) ∧ Hid (DS w wr (.slice p k cp) (.slice p' j cp') (.slice p k cp) k T (.slice p' j cp') j Q)) (fun _ i _ => m - (intOf i).toNat)
      case atStart => exact ⟨0, 0, noPls, none, 0, Nat.zero_le _, rfl, rfl, by omega, ⟨fun i j _ h => by omega, fun j h => by omega⟩, hD⟩
      case round =>
        clear hD
        obtain ⟨j, q, Q, p', cp', hj, rfl, rfl, hq, hGQ, hD⟩ := hrel
        by_cases hjt : j < m
        · obtain ⟨b, off, rfl, hbw, hcell⟩ := hP.out.resolve_left (by omega)
          obtain ⟨x, y, z, hx, hy, k1, k2, k3⟩ := hcell j hjt
          have c1 := (hD.out.b.cell (p := ⟨b, off + j * 3, none⟩) hbw).trans k1
          have c2 := (hD.out.b.cell (p := ⟨b, off + j * 3 + 1, none⟩) hbw).trans k2
          have c3 := (hD.out.b.cell (p := ⟨b, off + j * 3 + 2, none⟩) hbw).trans k3
          clear hcell k1 k2 k3
          go_wp2
          have HW : Hid (DS w (wr.alloc (.cells #[.int .u8 x, .int .u8 y, .int .u8 z] 39)).drew (.slice p k cp) (.slice p' j cp') (.slice p k cp) k T (.slice p' j cp') j Q) := hD.out.below ((Below.refl _ _).alloc (Nat.le_refl _) _).drew
          have d1 : (wr.alloc (.cells #[.int .u8 x, .int .u8 y, .int .u8 z] 39)).cell? ⟨wr.heap.size, 1, none⟩ = some (.int .u8 y) := by simp
          have d2 : (wr.alloc (.cells #[.int .u8 x, .int .u8 y, .int .u8 z] 39)).cell? ⟨wr.heap.size, 2, none⟩ = some (.int .u8 z) := by simp
          clear c1 c2 c3 hD
          generalize wr.heap.size = kb at d1 d2 ⊢
          generalize wr.alloc (.cells #[.int .u8 x, .int .u8 y, .int .u8 z] 39) = W at HW d1 d2 ⊢
          have d0 : W.cell? ⟨w.heap.size, 1, none⟩ = some (.slice p' j cp') := HW.out.c1
          have l1 : w.heap.size < W.heap.size := HW.out.lt
          have l2 : ¬ w.heap.size = W.heap.size := by omega
          have hwy : Hid (IntKind.u64.wrap ((q : Int) + x + IntKind.u64.wrap (y : Int)) = ((q + x + y : Nat) : Int)) := by
            show _ = _
            rw [wrap_small y (by omega), show ((q : Int) + x + y) = ((q + x + y : Nat) : Int) by omega]
            exact wrap_small _ (by omega)
          go_region_law (first
            | (refine step_src rfl (.tmp 93) rfl z (by first | (simp [Act.eval]; done) | simp [Act.eval, Act.put]) ?_; intro s)
            | (refine step_appP (w := W.drew) rfl (.tmp 85) (.tmp 96) rfl s (q + x) (q + x + y) _ _ (by simp) (by first | rfl | exact hwy.out) W.heap.size rfl (by simp [Act.eval]) (by simp [Act.eval]) HW.out (by omega) ?_; intro p2 c2 w2 H2; have g0 := H2.out.c1; have g1 := H2.out.f 1))
          all_goals
            clear HW d1 d2 d0 l1 l2 hwy g0 g1
            go_wp2
            go_roundw
            case rel => exact ⟨j + 1, q + x, Q.snoc j (q + x) (q + x + y) s, p2, c2, by omega, by go_num, by simp, by omega, hGQ.out.snoc x, H2.out.store1 _⟩
            case measure => simp [intOf]; omega
        · obtain rfl : j = m := by omega
          obtain ⟨df, hcp, hcp'⟩ := hD.out.defs
          obtain ⟨Hu, Hq, Hcp⟩ : Hid (Up T.va k) ∧ Hid (Up Q.st j) ∧ Hid (k ≤ cp ∧ cp ≤ 9223372036854775807) := ⟨hG.out.1, hGQ.out.1, hcp, hcp'⟩
          have d0 := hD.out.c0
          have d1 := hD.out.c1
          clear df hcp hcp' hG hGQ hS hP
          go_wp2_with fail
          refine (cloneS_any (w.heap.size + 1) k _ T _ hD.out.s hn).mono ?_
          rintro e w3 ⟨a3, c3, rfl, i3, b3⟩
          have hD3 : Hid (DS w w3 (.slice p k cp) (.slice p' j cp') (.slice p k cp) k T (.slice p' j cp') j Q) := hD.out.below b3
          have I3 : Hid (SymIn w3 a3 k T) := i3
          clear d0 d1 b3 i3 hD
          have d0 := hD3.out.c0
          have d1 := hD3.out.c1
          go_wp2_with fail
          refine (cloneP_any (w.heap.size + 1) j _ Q _ hD3.out.p hm).mono ?_
          rintro e w4 ⟨a4, c4, rfl, i4, b4⟩
          have hD4 : Hid (DS w w4 (.slice p k cp) (.slice p' j cp') (.slice p k cp) k T (.slice p' j cp') j Q) := hD3.out.below b4
          have I4 : Hid (SymIn w4 a3 k T) := I3.out.below b4
          have J4 : Hid (PlIn w4 a4 j Q) := i4
          clear d0 d1 b4 i4 hD3 I3
          go_wp2_with fail
          refine (at_any w.heap.size p k cp T p' j cp' Q a _ hD4.out.defs.1 hn hm ha Hcp.out.1 Hcp.out.2 Hu Hq hSm).mono ?_
          rintro e w5 ⟨S, P, rfl, hsS, hsP, b5⟩
          have F5 : Hid (Fin w (w5.alloc (.cells #[.string S, .string P] 46)) p k cp T p' j cp' Q a3 a4 w5.heap.size S P) :=
            Fin.mk5 (hD4.out.below b5) (I4.out.below b5) (J4.out.below b5)
          have HS : Hid (SymSays T k a S) := hsS
          have HP : Hid (PlSays Q j a P) := hsP
          clear hsS hsP b5 hD4 I4 J4 Hcp Hq
          go_wp2
          generalize hgb : w5.heap.size = gb at F5 ⊢
          clear hgb
          generalize w5.alloc (.cells #[.string S, .string P] 46) = w6 at F5 ⊢
          obtain ⟨I, hsp, hI⟩ := HS.out
          have HSp : Hid (Split T.va k a I) := hsp
          have HI : Hid ((I = 0 ∧ S = nos) ∨ (0 < I ∧ Pick T I a (T.va (I - 1)) S)) := hI
          clear hsp hI HS
          go_loopw [19, 20, 116] (fun s19 s20 i wx => ∃ x : Nat, x ≤ k ∧ i = .int .i64 x ∧ s19 = .bool (decide (0 < min x I)) ∧ s20 = .int .u64 (startAt T I x : Nat) ∧ Hid (Fin w wx p k cp T p' j cp' Q a3 a4 gb S P)) (fun _ _ i _ => k - (intOf i).toNat)
          case atStart => exact ⟨0, Nat.zero_le _, rfl, by simp, by simp [startAt], F5⟩
          case round =>
            clear F5 w6
            obtain ⟨x, hx, rfl, rfl, rfl, F6⟩ := hrel
            by_cases hxt : x < k
            · obtain ⟨g, rfl, hr⟩ := F6.out.s3.resolve_left (by omega)
              obtain ⟨q1, q2, q3, q4, q5⟩ := hr.2 x hxt
              simp only [Nat.zero_add] at q1 q2 q3 q4 q5
              have gl := hr.1
              clear hr
              by_cases hxI : x < I
              · have hle : (T.va x : Int) ≤ a := by have := HSp.out.2.1 x hxI; omega
                have E1 : Hid (true = decide (0 < min (x + 1) I)) := by show _ = _; rw [decide_eq_true (by omega)]
                have E2 : Hid (T.va x = startAt T I (x + 1)) := startAt_in hxI
                go_wp2
                go_roundw
                case rel => exact ⟨x + 1, by omega, by go_num, by rw [← E1.out], by rw [← E2.out], F6.out.alloc _⟩
                case measure => simp [intOf]; omega
              · have hle : ¬ ((T.va x : Int) ≤ a) := by have := HSp.out.2.2 x (by omega) hxt; omega
                have E1 : Hid (decide (0 < min x I) = decide (0 < min (x + 1) I)) := by show _ = _; rw [show min (x + 1) I = min x I by omega]
                have E2 : Hid (startAt T I x = startAt T I (x + 1)) := startAt_out hxI
                go_wp2
                go_roundw
                case rel => exact ⟨x + 1, by omega, by go_num, by rw [← E1.out], by rw [← E2.out], F6.out.alloc _⟩
                case measure => simp [intOf]; omega
            · obtain rfl : x = k := by omega
              go_upto_if 127 with fail
              go_cut [18, 19, 20] (fun s18 _ _ wx => s18 = .string S ∧ Hid (Fin w wx p x cp T p' j cp' Q a3 a4 gb S P))
              case first =>
                rcases HI.out with ⟨h1, h2⟩ | ⟨h1, hpk⟩
                · have e1 : decide (0 < min x I) = false := decide_eq_false (by omega)
                  have E2 : Hid (S = nos) := h2
                  clear h1 h2 HI
                  rw [e1]
                  clear e1
                  go_wp2_with fail
                  go_meet
                  exact ⟨by rw [E2.out], F6⟩
                · have e1 : decide (0 < min x I) = true := decide_eq_true (by have := HSp.out.1; omega)
                  have HT : Hid (startAt T I x = T.va (I - 1)) := startAt_end HSp.out.1 h1
                  have HPk : Hid (Pick T I a (T.va (I - 1)) S) := hpk
                  have HTa : Hid (T.va (I - 1) ≤ a) := HSp.out.2.1 _ (by omega)
                  clear h1 hpk HI
                  rw [e1]
                  generalize startAt T I x = t at HT ⊢
                  clear e1
                  go_wp2_with fail
                  go_loopw [18, 130] (fun s18 i wx => ∃ y : Nat, y ≤ x ∧ i = .int .i64 y ∧ s18 = .string nos ∧ Hid (∀ l, l < y → T.va l = t → ¬ Cov T a l) ∧ Hid (Fin w wx p x cp T p' j cp' Q a3 a4 gb S P)) (fun _ i _ => x - (intOf i).toNat)
                  case atStart => exact ⟨0, Nat.zero_le _, rfl, rfl, fun l hl => by omega, F6⟩
                  case round =>
                    clear F6
                    obtain ⟨y, hy, rfl, rfl, hno, F7⟩ := hrel
                    by_cases hyt : y < x
                    · obtain ⟨g, rfl, hr⟩ := F7.out.s3.resolve_left (by omega)
                      obtain ⟨q1, q2, q3, q4, q5⟩ := hr.2 y hyt
                      simp only [Nat.zero_add] at q1 q2 q3 q4 q5
                      have gl := hr.1
                      have sm1 := (hSm.out y hyt).1
                      have sm2 := (hSm.out y hyt).2
                      clear hr
                      by_cases hv : T.va y = t
                      · by_cases hc : Cov T a y
                        · have hcv : (a : Int) < T.va y + T.sz y := by unfold Cov at hc; omega
                          have HSn : Hid (S = T.nm y) := by
                            have hyI : y < I := by
                              by_cases h : y < I
                              · exact h
                              · have h1 := HSp.out.2.2 y (by omega) hyt
                                have h2 := HT.out
                                have h3 := HTa.out
                                omega
                            exact HPk.out.is hyI (hv.trans HT.out) hc (fun l hl h => hno.out l hl (h.trans HT.out.symm))
                          clear hc HT hno
                          subst hv
                          go_wp2
                          go_meet
                          exact ⟨by rw [HSn.out], F7.out.alloc _⟩
                        · have hcv : ¬ ((a : Int) < T.va y + T.sz y) := by unfold Cov at hc; omega
                          have HN : Hid (∀ l, l < y + 1 → T.va l = t → ¬ Cov T a l) := by
                            intro l hl h
                            by_cases e : l = y
                            · rw [e]; exact hc
                            · exact hno.out l (by omega) h
                          clear hc hno
                          subst hv
                          go_wp2
                          go_roundw
                          case rel => exact ⟨y + 1, by omega, by go_num, rfl, HN, F7.out.alloc _⟩
                          case measure => simp [intOf]; omega
                      · have hne1 : ((T.va y : Int) == (t : Int)) = false := by simp; omega
                        have HN : Hid (∀ l, l < y + 1 → T.va l = t → ¬ Cov T a l) := by
                          intro l hl h
                          by_cases e : l = y
                          · rw [e] at h; exact absurd h hv
                          · exact hno.out l (by omega) h
                        clear hv hno
                        go_wp2
                        go_roundw
                        case rel => exact ⟨y + 1, by omega, by go_num, rfl, HN, F7.out.alloc _⟩
                        case measure => simp [intOf]; omega
                    · have HSn : Hid (S = nos) := HPk.out.not (fun l hl h => hno.out l (by have := HSp.out.1; omega) (h.trans HT.out.symm))
                      go_wp2
                      go_meet
                      exact ⟨by rw [HSn.out], F7⟩
              case rest =>
              obtain ⟨rfl, F8⟩ := hcut
              obtain ⟨J, hsp2, hJ⟩ := HP.out
              have HSq : Hid (Split Q.st j a J) := hsp2
              have HJ : Hid ((0 < J ∧ a < Q.en (J - 1) ∧ P = Q.sr (J - 1)) ∨ ((J = 0 ∨ ¬ a < Q.en (J - 1)) ∧ P = nos)) := hJ
              clear hsp2 hJ HP HI HSp F6
              go_wp2_with fail
              go_loopw [26, 152] (fun s26 i wx => ∃ y : Nat, y ≤ j ∧ i = .int .i64 y ∧ s26 = .int .i64 (((min y J : Nat) : Int) - 1) ∧ Hid (Fin w wx p x cp T p' j cp' Q a3 a4 gb S P)) (fun _ i _ => j - (intOf i).toNat)
              case atStart => exact ⟨0, Nat.zero_le _, rfl, by simp, F8⟩
              case round =>
                clear F8
                obtain ⟨y, hy, rfl, rfl, F8⟩ := hrel
                by_cases hyt : y < j
                · obtain ⟨g, rfl, hr⟩ := F8.out.p4.resolve_left (by omega)
                  obtain ⟨q1, q2, q3⟩ := hr.2 y hyt
                  simp only [Nat.zero_add] at q1 q2 q3
                  have gl := hr.1
                  clear hr
                  by_cases hyJ : y < J
                  · have hle : (Q.st y : Int) ≤ a := by have := HSq.out.2.1 y hyJ; omega
                    have E1 : Hid ((y : Int) = ((min (y + 1) J : Nat) : Int) - 1) := by show _ = _; rw [show min (y + 1) J = y + 1 by omega]; omega
                    go_wp2
                    go_roundw
                    case rel => exact ⟨y + 1, by omega, by go_num, by rw [← E1.out], F8.out.alloc _⟩
                    case measure => simp [intOf]; omega
                  · have hle : ¬ ((Q.st y : Int) ≤ a) := by have := HSq.out.2.2 y (by omega) hyt; omega
                    have E1 : Hid (((min y J : Nat) : Int) - 1 = ((min (y + 1) J : Nat) : Int) - 1) := by show _ = _; rw [show min (y + 1) J = min y J by omega]
                    go_wp2
                    go_roundw
                    case rel => exact ⟨y + 1, by omega, by go_num, by rw [← E1.out], F8.out.alloc _⟩
                    case measure => simp [intOf]; omega
                · obtain rfl : y = j := by omega
                  rw [show min y J = J by have := HSq.out.1; omega]
                  by_cases hJ0 : J = 0
                  · subst hJ0
                    obtain rfl : P = nos := by
                      rcases HJ.out with ⟨h, _⟩ | ⟨_, h⟩
                      · omega
                      · exact h
                    clear HJ
                    have d0 := F8.out.d.c0
                    have d1 := F8.out.d.c1
                    have h0 := F8.out.g0
                    have h1 := F8.out.g1
                    go_wp2_with fail
                    refine (equalS_any p a3 x cp c3 T _ F8.out.d.defs.1.s F8.out.s3 hn).mono ?_
                    rintro e w9 ⟨rfl, b9⟩
                    have F9 : Hid (Fin w w9 p x cp T p' y cp' Q a3 a4 gb S nos) := F8.out.below b9
                    clear d0 d1 h0 h1 b9 F8
                    have d1 := F9.out.d.c1
                    go_wp2_with fail
                    refine (equalP_any p' a4 y cp' c4 Q _ F9.out.d.defs.1.p F9.out.p4 hm).mono ?_
                    rintro e w10 ⟨rfl, b10⟩
                    go_wp2
                    go_ret
                    exact ⟨rfl, F9.out.d.b.trans (b10.mono F9.out.d.b.size)⟩
                  · obtain ⟨K, rfl⟩ : ∃ K, J = K + 1 := ⟨J - 1, by omega⟩
                    have hKn : K + 1 ≤ y := HSq.out.1
                    rw [show (((K + 1 : Nat) : Int) - 1) = (K : Int) by omega]
                    obtain ⟨g, rfl, hr⟩ := F8.out.p4.resolve_left (by omega)
                    obtain ⟨q1, q2, q3⟩ := hr.2 K (by omega)
                    simp only [Nat.zero_add] at q1 q2 q3
                    have gl := hr.1
                    clear hr hJ0
                    by_cases hc : a < Q.en K
                    · obtain rfl : P = Q.sr K := by
                        rcases HJ.out with ⟨_, _, h⟩ | ⟨h, _⟩
                        · exact h
                        · rcases h with h | h
                          · omega
                          · exact absurd hc h
                      have hc' : (a : Int) < Q.en K := by omega
                      clear HJ hc
                      have d0 := F8.out.d.c0
                      have d1 := F8.out.d.c1
                      have h0 := F8.out.g0
                      have h1 := F8.out.g1
                      go_wp2_with fail
                      refine (equalS_any p a3 x cp c3 T _ F8.out.d.defs.1.s F8.out.s3 hn).mono ?_
                      rintro e w9 ⟨rfl, b9⟩
                      have F9 : Hid (Fin w w9 p x cp T p' y cp' Q a3 (some ⟨g, 0, none⟩) gb S (Q.sr K)) := F8.out.below b9
                      clear d0 d1 h0 h1 b9 F8
                      have d1 := F9.out.d.c1
                      go_wp2_with fail
                      refine (equalP_any p' (some ⟨g, 0, none⟩) y cp' c4 Q _ F9.out.d.defs.1.p F9.out.p4 hm).mono ?_
                      rintro e w10 ⟨rfl, b10⟩
                      go_wp2
                      go_ret
                      exact ⟨rfl, F9.out.d.b.trans (b10.mono F9.out.d.b.size)⟩
                    · obtain rfl : P = nos := by
                        rcases HJ.out with ⟨_, h, _⟩ | ⟨_, h⟩
                        · exact absurd h hc
                        · exact h
                      have hc' : ¬ ((a : Int) < Q.en K) := by omega
                      clear HJ hc
                      have d0 := F8.out.d.c0
                      have d1 := F8.out.d.c1
                      have h0 := F8.out.g0
                      have h1 := F8.out.g1
                      go_wp2_with fail
                      refine (equalS_any p a3 x cp c3 T _ F8.out.d.defs.1.s F8.out.s3 hn).mono ?_
                      rintro e w9 ⟨rfl, b9⟩
                      have F9 : Hid (Fin w w9 p x cp T p' y cp' Q a3 (some ⟨g, 0, none⟩) gb S nos) := F8.out.below b9
                      clear d0 d1 h0 h1 b9 F8
                      have d1 := F9.out.d.c1
                      go_wp2_with fail
                      refine (equalP_any p' (some ⟨g, 0, none⟩) y cp' c4 Q _ F9.out.d.defs.1.p F9.out.p4 hm).mono ?_
                      rintro e w10 ⟨rfl, b10⟩
                      go_wp2
                      go_ret
                      exact ⟨rfl, F9.out.d.b.trans (b10.mono F9.out.d.b.size)⟩
set_option maxRecDepth 100000 in
theorem law_long (a0 b0 : Option Addr) (n c m d : Nat) (a : Int) (w : World) (h : ¬ (n ≤ 600 ∧ m ≤ 600)) :
    Calls Yba.prog 3 #[.slice a0 n c, .slice b0 m d, .int .u32 a] w fun e w' => e = .returned (.bool true) ∧ Below w.heap.size w w' := by
  have h1 : 600 < (n : Int) ∨ 600 < (m : Int) := by omega
  clear h
  by_cases hn : 600 < (n : Int)
  · go_enter Yba.func3, Yba.ntmps3
    go_wp2
    go_ret
    exact ⟨rfl, Below.refl _ _⟩
  · have hm : 600 < (m : Int) := by omega
    clear h1
    go_enter Yba.func3, Yba.ntmps3
    go_wp2
    go_ret
    exact ⟨rfl, Below.refl _ _⟩
end Go.Proofs.Ybulkcrrc
