import Derived.Test.YbulkcrayModel
import Derived.Deep.RegionLaw
import Derived.Lib.Strings
namespace Go.Proofs.Ybulkcray
open Go.RowKit Go.Lib

/-- block eb is the exposition: body v, the metric's name, no classes -/
def Ex (w : World) (eb : Nat) (v : Value) (name : ByteArray) : Prop := w.heap[eb]? = some (.cells #[v, .string name, .pointer none] 47 (0, 0))

theorem Ex.c0 {w : World} {eb : Nat} {v : Value} {name : ByteArray} (h : Ex w eb v name) : w.cell? ⟨eb, 0, none⟩ = some v := by rw [cell_of_row w eb 0 _ _ _ h]; rfl
theorem Ex.c1 {w : World} {eb : Nat} {v : Value} {name : ByteArray} (h : Ex w eb v name) : w.cell? ⟨eb, 1, none⟩ = some (.string name) := by rw [cell_of_row w eb 1 _ _ _ h]; rfl
theorem Ex.c2 {w : World} {eb : Nat} {v : Value} {name : ByteArray} (h : Ex w eb v name) : w.cell? ⟨eb, 2, none⟩ = some (.pointer none) := by rw [cell_of_row w eb 2 _ _ _ h]; rfl
theorem Ex.f0 {w : World} {eb : Nat} {v : Value} {name : ByteArray} (h : Ex w eb v name) : w.frozen? ⟨eb, 0, none⟩ = false := frozen_of_row w eb 0 _ _ h
theorem Ex.lt {w : World} {eb : Nat} {v : Value} {name : ByteArray} (h : Ex w eb v name) : eb < w.heap.size := (Array.getElem?_eq_some_iff.1 h).1
theorem Ex.grown {w w' : World} {eb : Nat} {v : Value} {name : ByteArray} {row : Option Nat} (h : Ex w eb v name) (hg : w.grownBy w' row) (hne : row ≠ some eb) : Ex w' eb v name := by
  unfold Ex
  rw [hg.block eb h.lt (fun e => hne e.symm)]
  exact h
theorem Own.apart {w : World} {B eb : Nat} {v u : Value} {xs : List Value} {name : ByteArray} (ho : Own w B v xs) (hx : Ex w eb u name) : v.ownBlock ≠ some eb := by
  intro he
  rcases ho.2 with ⟨rfl, _⟩ | ⟨g, cap, cur, rfl, _, hg, _⟩
  · simp [Value.ownBlock] at he
  · have e : g = eb := by simpa [Value.ownBlock] using he
    subst e
    rw [hx] at hg
    simp at hg
theorem Ex.alloc {w : World} {eb : Nat} {v : Value} {name : ByteArray} (h : Ex w eb v name) (o : Obj) : Ex (w.alloc o) eb v name := by
  unfold Ex
  rw [Below.heap_alloc w o eb h.lt]
  exact h
theorem Ex.store {w : World} {eb : Nat} {v : Value} {name : ByteArray} (h : Ex w eb v name) (v' : Value) : Ex (w.setCell ⟨eb, 0, none⟩ v') eb v' name := by
  have := heap_setCell_same w eb 0 _ _ v' h
  exact this
theorem Own.store {w : World} {B eb : Nat} {v u x : Value} {xs : List Value} {name : ByteArray} (ho : Own w B v xs) (hx : Ex w eb u name) : Own (w.setCell ⟨eb, 0, none⟩ x) B v xs := by
  have hne := ho.apart hx
  refine ⟨ho.1, ?_⟩
  rcases ho.2 with h | ⟨g, cap, cur, rfl, h1, h2, h3⟩
  · exact Or.inl h
  · refine Or.inr ⟨g, cap, cur, rfl, h1, ?_, h3⟩
    rw [heap_setCell_other w _ g _ (fun e => hne (by simp [Value.ownBlock, e]))]
    exact h2
theorem Own.alloc {w : World} {B : Nat} {v : Value} {xs : List Value} (ho : Own w B v xs) (o : Obj) : Own (w.alloc o) B v xs := World.ownsRow.alloc ho o

theorem Own.form {w : World} {B : Nat} {v : Value} {xs : List Value} (ho : Own w B v xs) : ∃ p n c, v = .slice p n c := by
  rcases ho.2 with ⟨rfl, _⟩ | ⟨g, cap, cur, rfl, _⟩
  · exact ⟨_, _, _, rfl⟩
  · exact ⟨_, _, _, rfl⟩

/-- where 'part' stands: the exposition's block holds u, the slice v owns the bytes xs, nothing below B has turned since w0 -/
structure PS (w0 w : World) (eb B : Nat) (u : Value) (name : ByteArray) (v : Value) (xs : List Value) : Prop where
  x : Ex w eb u name
  o : Own w B v xs
  b : Below B w0 w
  s : B ≤ w.heap.size

theorem PS.step {w0 w w' : World} {eb B : Nat} {u : Value} {name : ByteArray} {v v' : Value} {xs ys : List Value} (h : PS w0 w eb B u name v xs) (ho : Own w' B v' ys) (hg : w.grownBy w' v.ownBlock) : PS w0 w' eb B u name v' ys where
  x := h.x.grown hg (h.o.apart h.x)
  o := ho
  b := h.b.grown hg h.s (fun j hj => (World.ownsRow.lt h.o j hj).1)
  s := Nat.le_trans h.s hg.size
theorem PS.alloc {w0 w : World} {eb B : Nat} {u : Value} {name : ByteArray} {v : Value} {xs : List Value} (h : PS w0 w eb B u name v xs) (o : Obj) : PS w0 (w.alloc o) eb B u name v xs where
  x := h.x.alloc o
  o := h.o.alloc o
  b := h.b.alloc h.s o
  s := by have := h.s; simp; omega
theorem PS.store {w0 w : World} {eb B : Nat} {u : Value} {name : ByteArray} {v : Value} {xs : List Value} (h : PS w0 w eb B u name v xs) (heb : B ≤ eb) : PS w0 (w.setCell ⟨eb, 0, none⟩ v) eb B v name v xs where
  x := h.x.store v
  o := h.o.store h.x
  b := h.b.setCell heb v
  s := by have := h.s; simp; omega

/-- append of a string's bytes, at a step of a region that draws -/
theorem step_str {ops : Array Oper} {o : Oper} {a : Act} {w : World} {K : Act → World → Prop} {Q : Exit → Act → World → Prop} {E : Prop} (hgd : o.guard = none) (sl x : Operand)
    (ho : o.op = .call { callee := .builtin .append, args := #[sl, x], argTypes := #[43, 9] }) {w0 : World} {eb B : Nat} {u : Value} {name : ByteArray} (v : Value) (xs : List Value) (s : ByteArray) (hs : a.eval sl = v) (hx : a.eval x = .string s) (hown : PS w0 w eb B u name v xs)
    (hlen : xs.length + s.size ≤ 100000) (h : ∀ p n c w', Hid (PS w0 w' eb B u name (.slice p n c) (xs ++ strCells s)) → K (a.put o.dst (.slice p n c)) w') :
    if Region.wanted o (yielded ops a.tmps) = true then Oper.wp Yba.prog o a w K Q else E := by
  obtain ⟨i0, hi, hz0, hz1, hz2⟩ := info_parts Yba.info5
  have hw : Region.wanted o (yielded ops a.tmps) = true := by simp [Region.wanted, hgd]
  rw [if_pos hw]
  obtain ⟨v', w', hr, h2, h3, h4⟩ := run_append_own_string (P := Yba.prog) w B 43 9 o.type 5 i0 Yba.underlying43 Yba.underlying9 hi hz0 hz1 hz2 v xs.length xs hown.o s (by unfold maxLen; omega) (by omega) hown.s
  unfold Oper.wp execOp
  simp only [ho, resolve, invoke, builtin, Sem.run_bind, Sem.run_pure, Result.andThen_ok, List.map_toArray, List.map_cons, List.map_nil, hs, hx, hr]
  obtain ⟨p, m, c, rfl⟩ := (Own.of h2).form
  exact h p m c w' (hown.step (Own.of h2) h3)

/-- the same in a plain region -/
theorem wpl_str {ops : Array Oper} {rest : List Oper} {o : Oper} {a : Act} {w : World} {Q : Exit → Act → World → Prop} (hgd : o.guard = none) (sl x : Operand)
    (ho : o.op = .call { callee := .builtin .append, args := #[sl, x], argTypes := #[43, 9] }) {w0 : World} {eb B : Nat} {u : Value} {name : ByteArray} (v : Value) (xs : List Value) (s : ByteArray) (hs : a.eval sl = v) (hx : a.eval x = .string s) (hown : PS w0 w eb B u name v xs)
    (hlen : xs.length + s.size ≤ 100000) (h : ∀ p n c w', Hid (PS w0 w' eb B u name (.slice p n c) (xs ++ strCells s)) → wpList Yba.prog ops Q rest (a.put o.dst (.slice p n c)) w') : wpList Yba.prog ops Q (o :: rest) a w := by
  obtain ⟨i0, hi, hz0, hz1, hz2⟩ := info_parts Yba.info5
  refine wpList_append_own_string (P := Yba.prog) w hgd sl x 43 9 ho B 5 i0 Yba.underlying43 Yba.underlying9 hi hz0 hz1 hz2 v xs.length xs hs hown.o s hx (by unfold maxLen; omega) (by omega) hown.s ?_
  intro v' w' h2 h3 _
  obtain ⟨p, m, c, rfl⟩ := (Own.of h2).form
  exact h p m c w' (hown.step (Own.of h2) h3)

/-- append of one byte in a plain region, behind the block that it is laid in -/
theorem wpl_byte {ops : Array Oper} {rest : List Oper} {o : Oper} {a : Act} {w : World} {Q : Exit → Act → World → Prop} (hgd : o.guard = none) (sl x : Operand)
    (ho : o.op = .call { callee := .builtin .append, args := #[sl, x], argTypes := #[43, 43] }) {w0 : World} {eb B : Nat} {u : Value} {name : ByteArray} (v : Value) (xs : List Value) (z : Int) (N : Nat) (hN : w.heap.size = N) (hs : a.eval sl = v) (hx : a.eval x = .slice (some ⟨N, 0, none⟩) 1 1) (hown : PS w0 w eb B u name v xs)
    (hlen : xs.length + 1 ≤ 100000) (h : ∀ p n c w', Hid (PS w0 w' eb B u name (.slice p n c) (xs ++ [byt z])) → wpList Yba.prog ops Q rest (a.put o.dst (.slice p n c)) w') : wpList Yba.prog ops Q (o :: rest) a (w.alloc (.cells #[.int .u8 z] 5)) := by
  obtain ⟨i0, hi, hz0, hz1, hz2⟩ := info_parts Yba.info5
  subst hN
  have hown' := hown.alloc (.cells #[.int .u8 z] 5)
  refine wpList_append_own _ hgd sl x 43 ho B 5 i0 (.int .u8 0) 1 1 Yba.underlying43 hi hz0 hz1 hz2 rfl (by decide) v xs.length xs hs hown'.o ⟨w.heap.size, 0, none⟩ 1 1 [.int .u8 z] hx rfl (cell_one_new _ _ _) (ints_oneCell .u8 [z]) (by unfold maxLen; omega) (by omega) hown'.s ?_
  intro v' w' h2 h3 _
  obtain ⟨p, m, c, rfl⟩ := (Own.of h2).form
  exact h p m c w' (hown'.step (Own.of h2) h3)

set_option maxRecDepth 100000 in
set_option maxHeartbeats 1000000 in
theorem part_any (eb B : Nat) (v : Value) (xs : List Value) (name suffix labels value : ByteArray) (w : World) (hx : Hid (Ex w eb v name)) (ho : Hid (Own w B v xs)) (hB : B ≤ w.heap.size) (heb : B ≤ eb)
    (h0 : xs.length ≤ 1024) (h1 : name.size ≤ 1024) (h2 : suffix.size ≤ 1024) (h3 : labels.size ≤ 1024) (h4 : value.size ≤ 1024) :
    Calls Yba.prog 11 #[.pointer (some ⟨eb, 0, none⟩), .string suffix, .string labels, .string value] w fun e w' => e = .returned (.tuple #[]) ∧ ∃ v', Ex w' eb v' name ∧ Own w' B v' (wanted xs name suffix labels value) ∧ Below B w w' := by
  have ce0 := hx.out.c0
  have ce1 := hx.out.c1
  have H0 : Hid (PS w w.drew eb B v name v xs) := ⟨hx.out, ho.out, (Below.refl _ _).drew, hB⟩
  have l1 : (xs ++ strCells name).length ≤ 2048 := by rw [List.length_append, strCells_length]; omega
  have l2 : (xs ++ strCells name ++ strCells suffix).length ≤ 3072 := by rw [List.length_append, strCells_length]; omega
  go_enter Yba.func11, Yba.ntmps11
  go_wp2
  go_region_law (first
    | (refine step_str rfl (.tmp 12) (.tmp 16) rfl v xs name (by simp [Act.eval]) (by simp [Act.eval]) H0.out (by omega) ?_; intro p1 n1 c1 w1 H1)
    | (refine step_str rfl (.tmp 17) (.tmp 18) rfl (.slice p1 n1 c1) (xs ++ strCells name) suffix (by simp [Act.eval]) (by simp [Act.eval]) H1.out (by omega) ?_; intro p2 n2 c2 w2 H2; have d0 := H2.out.x.c0; have d1 := H2.out.x.f0))
  all_goals
    have H3 : Hid (PS w (w2.setCell ⟨eb, 0, none⟩ (.slice p2 n2 c2)) eb B (.slice p2 n2 c2) name (.slice p2 n2 c2) (xs ++ strCells name ++ strCells suffix)) := H2.out.store heb
    generalize w2.setCell ⟨eb, 0, none⟩ (.slice p2 n2 c2) = w3 at H3 ⊢
    have e0 := H3.out.x.c0
    clear d0 d1 H1 H2 H0 ce0 ce1 hx ho
    by_cases hlab : labels.size = 0
    · have hlab1 : labels.toList.isEmpty = true := by
        rw [toList_data, List.isEmpty_iff_length_eq_zero]
        simpa using hlab
      have E0 : xs ++ strCells name ++ strCells suffix = xs ++ strCells name ++ strCells suffix ++ lab labels := by rw [lab, if_pos hlab, List.append_nil]
      rw [E0] at H3 l2
      clear E0 hlab
      have l7 : (xs ++ strCells name ++ strCells suffix ++ lab labels ++ [byt 32]).length ≤ 4200 := len_one (by omega)
      have l8 : (xs ++ strCells name ++ strCells suffix ++ lab labels ++ [byt 32] ++ strCells value).length ≤ 6000 := by rw [List.length_append, strCells_length]; omega
      go_wp2_with (first | (at_builtin; refine wpl_byte rfl (.tmp 41) (.tmp 42) rfl (.slice p2 n2 c2) (xs ++ strCells name ++ strCells suffix ++ lab labels) 32 w3.heap.size (by simp) rfl rfl H3.out (by omega) ?_; intro p7 n7 k7 w7 H7) | (at_builtin; refine wpl_str rfl (.tmp 43) (.tmp 44) rfl (.slice p7 n7 k7) (xs ++ strCells name ++ strCells suffix ++ lab labels ++ [byt 32]) value rfl rfl H7.out (by omega) ?_; intro p8 n8 k8 w8 H8) | (at_builtin; refine wpl_byte rfl (.tmp 45) (.tmp 46) rfl (.slice p8 n8 k8) (xs ++ strCells name ++ strCells suffix ++ lab labels ++ [byt 32] ++ strCells value) 10 w8.heap.size rfl rfl rfl H8.out (by omega) ?_; intro p9 n9 k9 w9 H9; have g0 := H9.out.x.c0; have g1 := H9.out.x.f0))
      go_end0
      have H10 := H9.out.store heb
      exact ⟨rfl, _, H10.x, H10.o, H10.b⟩
    · have hlab1 : labels.toList.isEmpty = false := by
        rw [toList_data, List.isEmpty_eq_false_iff_exists_mem]
        have : 0 < labels.data.toList.length := by
          have : labels.data.toList.length = labels.size := by simp
          omega
        exact ⟨_, List.getElem_mem this⟩
      have E4 : Hid (xs ++ strCells name ++ strCells suffix ++ [byt 123] ++ strCells labels ++ [byt 125] = xs ++ strCells name ++ strCells suffix ++ lab labels) := by
        show _ = _
        rw [lab, if_neg hlab]
        simp only [List.append_assoc]
      clear hlab
      have l4 : (xs ++ strCells name ++ strCells suffix ++ [byt 123]).length ≤ 3073 := len_one (by omega)
      have l5 : (xs ++ strCells name ++ strCells suffix ++ [byt 123] ++ strCells labels).length ≤ 4097 := by rw [List.length_append, strCells_length]; omega
      have l6 : (xs ++ strCells name ++ strCells suffix ++ lab labels).length ≤ 4098 := by rw [← E4.out]; exact len_one (by omega)
      have l7 : (xs ++ strCells name ++ strCells suffix ++ lab labels ++ [byt 32]).length ≤ 4200 := len_one (by omega)
      have l8 : (xs ++ strCells name ++ strCells suffix ++ lab labels ++ [byt 32] ++ strCells value).length ≤ 6000 := by rw [List.length_append, strCells_length]; omega
      go_wp2_with (first | (at_builtin; refine wpl_byte rfl (.tmp 28) (.tmp 29) rfl (.slice p2 n2 c2) (xs ++ strCells name ++ strCells suffix) 123 w3.heap.size rfl rfl rfl H3.out (by omega) ?_; intro p4 n4 k4 w4 H4) | (at_builtin; refine wpl_str rfl (.tmp 30) (.tmp 31) rfl (.slice p4 n4 k4) (xs ++ strCells name ++ strCells suffix ++ [byt 123]) labels rfl rfl H4.out (by omega) ?_; intro p5 n5 k5 w5 H5) | (at_builtin; refine wpl_byte rfl (.tmp 32) (.tmp 33) rfl (.slice p5 n5 k5) (xs ++ strCells name ++ strCells suffix ++ [byt 123] ++ strCells labels) 125 w5.heap.size rfl rfl rfl H5.out (by omega) ?_; intro p6 n6 k6 w6 H6; have f0 := H6.out.x.c0; have f1 := H6.out.x.f0; have HZ := H6.out.store heb; rw [E4.out] at HZ; have f2 := HZ.x.c0; have H6' : Hid (PS w (w6.setCell ⟨eb, 0, none⟩ (.slice p6 n6 k6)) eb B (.slice p6 n6 k6) name (.slice p6 n6 k6) (xs ++ strCells name ++ strCells suffix ++ lab labels)) := HZ; clear HZ) | (at_builtin; refine wpl_byte rfl (.tmp 41) (.tmp 42) rfl (.slice p6 n6 k6) (xs ++ strCells name ++ strCells suffix ++ lab labels) 32 w6.heap.size (by simp) rfl rfl H6'.out (by omega) ?_; intro p7 n7 k7 w7 H7) | (at_builtin; refine wpl_str rfl (.tmp 43) (.tmp 44) rfl (.slice p7 n7 k7) (xs ++ strCells name ++ strCells suffix ++ lab labels ++ [byt 32]) value rfl rfl H7.out (by omega) ?_; intro p8 n8 k8 w8 H8) | (at_builtin; refine wpl_byte rfl (.tmp 45) (.tmp 46) rfl (.slice p8 n8 k8) (xs ++ strCells name ++ strCells suffix ++ lab labels ++ [byt 32] ++ strCells value) 10 w8.heap.size rfl rfl rfl H8.out (by omega) ?_; intro p9 n9 k9 w9 H9; have g0 := H9.out.x.c0; have g1 := H9.out.x.f0))
      go_end0
      have H10 := H9.out.store heb
      exact ⟨rfl, _, H10.x, H10.o, H10.b⟩
end Go.Proofs.Ybulkcray
