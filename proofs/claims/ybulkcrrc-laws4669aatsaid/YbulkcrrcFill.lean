import Derived.Test.YbulkcrrcClone
import Derived.Deep.RegionLaw
import Derived.Shelf.Abstract
namespace Go.Proofs.Ybulkcrrc
open Go.RowKit Go.Shelf

/-- where the building of the tables stands: the block of the definitions holds u1 and u2; the slices SV and PV own the tables -/
structure DS (w0 w : World) (u1 u2 SV : Value) (k : Nat) (T : Syms) (PV : Value) (m : Nat) (Q : Pls) : Prop where
  x : w.heap[w0.heap.size]? = some (.cells #[u1, u2] 30 (0, 0))
  s : OwnS w (w0.heap.size + 1) SV k T
  p : OwnP w (w0.heap.size + 1) PV m Q
  b : Below w0.heap.size w0 w

theorem DS.lt {w0 w : World} {u1 u2 SV : Value} {k : Nat} {T : Syms} {PV : Value} {m : Nat} {Q : Pls} (h : DS w0 w u1 u2 SV k T PV m Q) : w0.heap.size < w.heap.size := (Array.getElem?_eq_some_iff.1 h.x).1
theorem DS.c0 {w0 w : World} {u1 u2 SV : Value} {k : Nat} {T : Syms} {PV : Value} {m : Nat} {Q : Pls} (h : DS w0 w u1 u2 SV k T PV m Q) : w.cell? ⟨w0.heap.size, 0, none⟩ = some u1 := by rw [cell_of_row _ _ 0 _ _ _ h.x]; rfl
theorem DS.c1 {w0 w : World} {u1 u2 SV : Value} {k : Nat} {T : Syms} {PV : Value} {m : Nat} {Q : Pls} (h : DS w0 w u1 u2 SV k T PV m Q) : w.cell? ⟨w0.heap.size, 1, none⟩ = some u2 := by rw [cell_of_row _ _ 1 _ _ _ h.x]; rfl
theorem DS.f {w0 w : World} {u1 u2 SV : Value} {k : Nat} {T : Syms} {PV : Value} {m : Nat} {Q : Pls} (h : DS w0 w u1 u2 SV k T PV m Q) (j : Nat) : w.frozen? ⟨w0.heap.size, j, none⟩ = false := frozen_of_row _ _ _ _ _ h.x
theorem DS.below {w0 w w' : World} {u1 u2 SV : Value} {k : Nat} {T : Syms} {PV : Value} {m : Nat} {Q : Pls} (h : DS w0 w u1 u2 SV k T PV m Q) (hb : Below w.heap.size w w') : DS w0 w' u1 u2 SV k T PV m Q where
  x := (hb.block _ h.lt).trans h.x
  s := h.s.imp fun _ ⟨h1, h2⟩ => ⟨row_below h1 hb (Nat.le_refl _), h2⟩
  p := h.p.imp fun _ ⟨h1, h2⟩ => ⟨row_below h1 hb (Nat.le_refl _), h2⟩
  b := h.b.trans (hb.mono h.b.size)

theorem row_setD {w : World} {B e size n : Nat} {v : Value} {xs : List Value} (h : w.ownsRow (B + 1) e size v n xs) (j : Nat) (u : Value) : (w.setCell ⟨B, j, none⟩ u).ownsRow (B + 1) e size v n xs :=
  ownsRow_setCell_below h (Nat.lt_succ_self _) u
theorem DS.store0 {w0 w : World} {u1 u2 SV : Value} {k : Nat} {T : Syms} {PV : Value} {m : Nat} {Q : Pls} (h : DS w0 w u1 u2 SV k T PV m Q) (v : Value) : DS w0 (w.setCell ⟨w0.heap.size, 0, none⟩ v) v u2 SV k T PV m Q where
  x := heap_setCell_same w _ 0 _ _ _ h.x
  s := h.s.imp fun _ ⟨h1, h2⟩ => ⟨row_setD h1 _ _, h2⟩
  p := h.p.imp fun _ ⟨h1, h2⟩ => ⟨row_setD h1 _ _, h2⟩
  b := h.b.setCell (Nat.le_refl _) _
theorem DS.store1 {w0 w : World} {u1 u2 SV : Value} {k : Nat} {T : Syms} {PV : Value} {m : Nat} {Q : Pls} (h : DS w0 w u1 u2 SV k T PV m Q) (v : Value) : DS w0 (w.setCell ⟨w0.heap.size, 1, none⟩ v) u1 v SV k T PV m Q where
  x := heap_setCell_same w _ 1 _ _ _ h.x
  s := h.s.imp fun _ ⟨h1, h2⟩ => ⟨row_setD h1 _ _, h2⟩
  p := h.p.imp fun _ ⟨h1, h2⟩ => ⟨row_setD h1 _ _, h2⟩
  b := h.b.setCell (Nat.le_refl _) _

theorem rows_apart {w : World} {B B' s s' n n' e e' : Nat} {v v' : Value} {xs xs' : List Value} (h : w.ownsRow B e s v n xs) (h' : w.ownsRow B' e' s' v' n' xs') (hne : e ≠ e') : v.ownBlock = none ∨ v.ownBlock ≠ v'.ownBlock := by
  rcases h.2 with ⟨rfl, _⟩ | ⟨g, cap, cur, rfl, _, hg, _⟩
  · exact Or.inl rfl
  · refine Or.inr fun he => ?_
    rcases h'.2 with ⟨rfl, _⟩ | ⟨g', cap', cur', rfl, _, hg', _⟩
    · simp [Value.ownBlock] at he
    · have e : g = g' := by simpa [Value.ownBlock] using he
      subst e
      rw [hg] at hg'
      simp at hg'
      exact hne hg'.2

theorem DS.stepS {w0 w w' : World} {u1 u2 SV v' : Value} {k k' : Nat} {T T' : Syms} {PV : Value} {m : Nat} {Q : Pls} (h : DS w0 w u1 u2 SV k T PV m Q) (ho : OwnS w' (w0.heap.size + 1) v' k' T') (hg : w.grownBy w' SV.ownBlock) : DS w0 w' u1 u2 v' k' T' PV m Q := by
  obtain ⟨xs, hs, hl⟩ := h.s
  have hlow := hs.lt
  exact { x := (hg.block _ h.lt (fun e => by have := (hlow _ e.symm).1; omega)).trans h.x
          s := ho
          p := h.p.imp fun _ ⟨h1, h2⟩ => ⟨h1.kept hg (rows_apart h1 hs (by decide)), h2⟩
          b := h.b.grown hg (Nat.le_of_lt h.lt) (fun j hj => by have := (hlow _ hj).1; omega) }
theorem DS.stepP {w0 w w' : World} {u1 u2 SV v' : Value} {k : Nat} {T : Syms} {PV : Value} {m m' : Nat} {Q Q' : Pls} (h : DS w0 w u1 u2 SV k T PV m Q) (ho : OwnP w' (w0.heap.size + 1) v' m' Q') (hg : w.grownBy w' PV.ownBlock) : DS w0 w' u1 u2 SV k T v' m' Q' := by
  obtain ⟨xs, hs, hl⟩ := h.p
  have hlow := hs.lt
  exact { x := (hg.block _ h.lt (fun e => by have := (hlow _ e.symm).1; omega)).trans h.x
          s := h.s.imp fun _ ⟨h1, h2⟩ => ⟨h1.kept hg (rows_apart h1 hs (by decide)), h2⟩
          p := ho
          b := h.b.grown hg (Nat.le_of_lt h.lt) (fun j hj => by have := (hlow _ hj).1; omega) }

theorem enters4 : ∀ args w, (callFunc 4 args).run Yba.prog w = .ok (.enter 4 args) w := enters_of Yba.func4 (by kernel_rfl) rfl
theorem enters5 : ∀ args w, (callFunc 5 args).run Yba.prog w = .ok (.enter 5 args) w := enters_of Yba.func5 (by kernel_rfl) rfl

/-- the call of zzs4669aname at a step of a region that draws -/
theorem step_name {ops : Array Oper} {o : Oper} {a : Act} {w : World} {K : Act → World → Prop} {Q : Exit → Act → World → Prop} {E : Prop} (hgd : o.guard = none) (x : Operand)
    (ho : o.op = .call { callee := .value (.func 4), args := #[x], argTypes := #[3] }) (i : Nat) (hx : a.eval x = .int .i64 i) (h : ∀ s w', Below w.heap.size w w' → K (a.put o.dst (.string s)) w') :
    if Region.wanted o (yielded ops a.tmps) = true then Oper.wp Yba.prog o a w K Q else E := by
  have hw : Region.wanted o (yielded ops a.tmps) = true := by simp [Region.wanted, hgd]
  rw [if_pos hw]
  unfold Oper.wp execOp
  have he := enters4
  have h1 : a.eval (.func 4) = .func (.func 4) #[] #[] := rfl
  simp [ho, resolve, invoke, Deferred.ofValue, h1, hx, he]
  rw [Oper.upon_enter]
  refine (name_any i w).mono ?_
  rintro e w' ⟨s, rfl, hb⟩
  exact h s w' hb
/-- the call of zzs4669asrc at a step of a region that draws -/
theorem step_src {ops : Array Oper} {o : Oper} {a : Act} {w : World} {K : Act → World → Prop} {Q : Exit → Act → World → Prop} {E : Prop} (hgd : o.guard = none) (x : Operand)
    (ho : o.op = .call { callee := .value (.func 5), args := #[x], argTypes := #[5] }) (i : Nat) (hx : a.eval x = .int .u8 i) (h : ∀ s, K (a.put o.dst (.string s)) w) :
    if Region.wanted o (yielded ops a.tmps) = true then Oper.wp Yba.prog o a w K Q else E := by
  have hw : Region.wanted o (yielded ops a.tmps) = true := by simp [Region.wanted, hgd]
  rw [if_pos hw]
  unfold Oper.wp execOp
  have he := enters5
  have h1 : a.eval (.func 5) = .func (.func 5) #[] #[] := rfl
  simp [ho, resolve, invoke, Deferred.ofValue, h1, hx, he]
  rw [Oper.upon_enter]
  refine (src_any i w).mono ?_
  rintro e w' ⟨s, rfl, rfl⟩
  exact h s

theorem cells_new (w : World) (xs : List Value) (t : TypeId) : ∀ j u, xs[j]? = some u → (w.alloc (.cells xs.toArray t)).cell? ((⟨w.heap.size, 0, none⟩ : Addr).add j) = some u := by
  intro j u hu
  rw [WideShapes.add_plain, Nat.zero_add, cell_of_row _ _ _ _ _ _ (heap_alloc_new w _)]
  simpa using hu

/-- append of one symbol, at a step of a region that draws -/
theorem step_appS {ops : Array Oper} {o : Oper} {a : Act} {w : World} {K : Act → World → Prop} {R : Exit → Act → World → Prop} {E : Prop} (hgd : o.guard = none) (sl x : Operand)
    (ho : o.op = .call { callee := .builtin .append, args := #[sl, x], argTypes := #[27, 27] }) {w0 : World} {u1 u2 SV PV : Value} {k m : Nat} {T : Syms} {Q : Pls} (s : ByteArray) (v y : Nat) (z1 z2 : Int) (e1 : z1 = v) (e2 : z2 = y) (N : Nat) (hN : w.heap.size = N)
    (hs : a.eval sl = SV) (hx : a.eval x = .slice (some ⟨N, 0, none⟩) 1 1) (hd : DS w0 w u1 u2 SV k T PV m Q) (hk : k ≤ 600)
    (h : ∀ p c w', Hid (DS w0 w' u1 u2 (.slice p (k + 1) c) (k + 1) (T.snoc k s v y) PV m Q) → K (a.put o.dst (.slice p (k + 1) c)) w') :
    if Region.wanted o (yielded ops a.tmps) = true then Oper.wp Yba.prog o a (w.alloc (.cells #[.string s, .int .i64 0, .int .i64 0, .int .u64 z1, .int .u64 z2] 37)) K R else E := by
  subst e1
  subst e2
  subst hN
  obtain ⟨i0, hi, hz0, hz1, hz2⟩ := info_parts Yba.info37
  have hw : Region.wanted o (yielded ops a.tmps) = true := by simp [Region.wanted, hgd]
  rw [if_pos hw]
  have hd' := hd.below ((Below.refl _ _).alloc (Nat.le_refl _) (.cells #[.string s, .int .i64 0, .int .i64 0, .int .u64 v, .int .u64 y] 37))
  obtain ⟨xs, hown, hsl⟩ := hd'.s
  have hlt := hd'.lt
  obtain ⟨v', w', hr, h2, h3, _⟩ := run_append_own (P := Yba.prog) _ (w0.heap.size + 1) 27 o.type 37 i0 _ 5 48 Yba.underlying27 hi hz0 hz1 hz2 rfl (by decide) SV k xs hown ⟨w.heap.size, 0, none⟩ 1 1 [.string s, .int .i64 0, .int .i64 0, .int .u64 v, .int .u64 y] rfl (cells_new w _ 37)
    (by intro u hu; simp at hu; rcases hu with rfl | rfl | rfl | rfl <;> rfl) (by unfold maxLen; omega) (by omega) (by omega)
  unfold Oper.wp execOp
  simp only [ho, resolve, invoke, builtin, Sem.run_bind, Sem.run_pure, Result.andThen_ok, List.map_toArray, List.map_cons, List.map_nil, hs, hx, hr]
  have hO : OwnS w' (w0.heap.size + 1) v' (k + 1) (T.snoc k s v y) := ⟨_, h2, hsl.snoc s v y⟩
  obtain ⟨p, c, rfl, _⟩ := hO.form
  exact h p c w' (hd'.stepS hO h3)

/-- append of one placed range, at a step of a region that draws -/
theorem step_appP {ops : Array Oper} {o : Oper} {a : Act} {w : World} {K : Act → World → Prop} {R : Exit → Act → World → Prop} {E : Prop} (hgd : o.guard = none) (sl x : Operand)
    (ho : o.op = .call { callee := .builtin .append, args := #[sl, x], argTypes := #[28, 28] }) {w0 : World} {u1 u2 SV PV : Value} {k m : Nat} {T : Syms} {Q : Pls} (s : ByteArray) (v y : Nat) (z1 z2 : Int) (e1 : z1 = v) (e2 : z2 = y) (N : Nat) (hN : w.heap.size = N)
    (hs : a.eval sl = PV) (hx : a.eval x = .slice (some ⟨N, 0, none⟩) 1 1) (hd : DS w0 w u1 u2 SV k T PV m Q) (hk : m ≤ 600)
    (h : ∀ p c w', Hid (DS w0 w' u1 u2 SV k T (.slice p (m + 1) c) (m + 1) (Q.snoc m v y s)) → K (a.put o.dst (.slice p (m + 1) c)) w') :
    if Region.wanted o (yielded ops a.tmps) = true then Oper.wp Yba.prog o a (w.alloc (.cells #[.int .u64 z1, .int .u64 z2, .string s] 42)) K R else E := by
  subst e1
  subst e2
  subst hN
  obtain ⟨i0, hi, hz0, hz1, hz2⟩ := info_parts Yba.info42
  have hw : Region.wanted o (yielded ops a.tmps) = true := by simp [Region.wanted, hgd]
  rw [if_pos hw]
  have hd' := hd.below ((Below.refl _ _).alloc (Nat.le_refl _) (.cells #[.int .u64 v, .int .u64 y, .string s] 42))
  obtain ⟨xs, hown, hsl⟩ := hd'.p
  have hlt := hd'.lt
  obtain ⟨v', w', hr, h2, h3, _⟩ := run_append_own (P := Yba.prog) _ (w0.heap.size + 1) 28 o.type 42 i0 _ 3 32 Yba.underlying28 hi hz0 hz1 hz2 rfl (by decide) PV m xs hown ⟨w.heap.size, 0, none⟩ 1 1 [.int .u64 v, .int .u64 y, .string s] rfl (cells_new w _ 42)
    (by intro u hu; simp at hu; rcases hu with rfl | rfl | rfl <;> rfl) (by unfold maxLen; omega) (by omega) (by omega)
  unfold Oper.wp execOp
  simp only [ho, resolve, invoke, builtin, Sem.run_bind, Sem.run_pure, Result.andThen_ok, List.map_toArray, List.map_cons, List.map_nil, hs, hx, hr]
  have hO : OwnP w' (w0.heap.size + 1) v' (m + 1) (Q.snoc m v y s) := ⟨_, h2, hsl.snoc v y s⟩
  obtain ⟨p, c, rfl, _⟩ := hO.form
  exact h p c w' (hd'.stepP hO h3)
end Go.Proofs.Ybulkcrrc
