import Derived.Test.YbulkcraySame
namespace Go.Proofs.Ybulkcray
open Go.RowKit Go.Lib

theorem Own.of {w : World} {B n : Nat} {v : Value} {ys : List Value} (h : w.ownsRow B 5 1 v n ys) : Own w B v ys := by
  have := h.1
  unfold Own
  rw [this, Nat.mul_one]
  exact h

/-- the prefix as it came in: its bytes are zs -/
def PreIn (w : World) (a0 : Option Addr) (len cap : Nat) (zs : List Int) : Prop :=
  zs.length = len ∧ (len = 0 ∨ ∃ b off, a0 = some ⟨b, off, none⟩ ∧ len ≤ cap ∧ cap ≤ 9223372036854775807 ∧ b < w.heap.size ∧ ∀ i, i < len → w.cell? ⟨b, off + i, none⟩ = some (.int .u8 (zs.getD i 0)))

theorem PreIn.below {w w' : World} {a0 : Option Addr} {len cap : Nat} {zs : List Int} (r : PreIn w a0 len cap zs) (hb : Below w.heap.size w w') : PreIn w' a0 len cap zs := by
  refine ⟨r.1, ?_⟩
  rcases r.2 with r | ⟨b, off, h1, h2, h3, h4, h5⟩
  · exact Or.inl r
  · refine Or.inr ⟨b, off, h1, h2, h3, Nat.lt_of_lt_of_le h4 hb.size, fun i hi => ?_⟩
    exact (hb.cell (p := ⟨b, off + i, none⟩) h4).trans (h5 i hi)

abbrev byt (z : Int) : Value := .int .u8 z
/-- what 'part' and the model write -/
def lab (l : ByteArray) : List Value := if l.size = 0 then [] else [byt 123] ++ strCells l ++ [byt 125]
def wanted (pre : List Value) (name suffix labels value : ByteArray) : List Value :=
  pre ++ strCells name ++ strCells suffix ++ lab labels ++ [byt 32] ++ strCells value ++ [byt 10]

theorem take_snoc_int (zs : List Int) (k : Nat) (h : k < zs.length) : (zs.map byt).take (k + 1) = (zs.map byt).take k ++ [byt (zs.getD k 0)] := by
  rw [List.take_succ_eq_append_getElem (by simpa using h)]
  simp [h]

theorem app_step {w wr w1 : World} {B n : Nat} {v v' : Value} {xs ys : List Value} {o : Obj} (hB : B ≤ wr.heap.size) (ho : Own wr B v xs) (hb : Below B w wr)
    (h1 : w1.ownsRow B 5 1 v' n ys) (hg : (wr.alloc o).grownBy w1 v.ownBlock) : Own w1 B v' ys ∧ Below B w w1 :=
  ⟨Own.of h1, (hb.alloc hB o).grown hg (by simp; omega) (fun j hj => (World.ownsRow.lt ho j hj).1)⟩

theorem len_one {l : List Value} {u : Value} {n : Nat} (h : l.length + 1 ≤ n) : (l ++ [u]).length ≤ n := by simpa using h

set_option maxRecDepth 100000 in
set_option maxHeartbeats 1000000 in
theorem model_any (a0 : Option Addr) (len cap : Nat) (zs : List Int) (name suffix labels value : ByteArray) (w : World) (hp : Hid (PreIn w a0 len cap zs)) (h0 : len ≤ 1024) (h1 : name.size ≤ 1024) (h2 : suffix.size ≤ 1024) (h3 : labels.size ≤ 1024) (h4 : value.size ≤ 1024) :
    Calls Yba.prog 13 #[.slice a0 len cap, .string name, .string suffix, .string labels, .string value] w fun e w' => ∃ v', e = .returned v' ∧ Own w' w.heap.size v' (wanted (zs.map byt) name suffix labels value) ∧ Below w.heap.size w w' := by
  obtain ⟨i0, hi, hz0, hz1, hz2⟩ := info_parts Yba.info5
  have hzl : zs.length = len := hp.out.1
  have HL : Hid (zs.length = len) := hzl
  clear hzl
  go_enter Yba.func13, Yba.ntmps13
  go_wp2_with (first | (at_make; refine wpList_make_own _ rfl _ _ 43 rfl w.heap.size 5 i0 (.int .u8 0) 1 Yba.underlying43 hi hz0 hz1 .i64 .i64 _ (len + name.size + suffix.size + labels.size + value.size + 4) rfl rfl (by omega) (by rw [hz2]; omega) (by unfold maxLen; omega) (Nat.le_refl _) ?_; intro w0 hown0 hgrow0) | go_in)
  have ho0 : Hid (Own w0 w.heap.size (.slice (some ⟨w.heap.size, 0, none⟩) 0 (len + name.size + suffix.size + labels.size + value.size + 4)) []) := Own.of hown0
  have hb0 : Hid (Below w.heap.size w w0) := (Below.refl _ _).grown hgrow0 (Nat.le_refl _) (fun k hk => by cases hk)
  clear hown0 hgrow0
  go_wp2
  go_loopw [11, 12] (fun v i wr => ∃ k : Nat, k ≤ len ∧ i = .int .i64 k ∧ Hid (Own wr w.heap.size v ((zs.map byt).take k)) ∧ Hid (Below w.heap.size w wr)) (fun _ i _ => len - (intOf i).toNat)
  case atStart => exact ⟨0, Nat.zero_le _, rfl, ho0, hb0⟩
  case round =>
    clear ho0 hb0
    obtain ⟨k, hk, rfl, ho1, hb1⟩ := hrel
    have hsz := hb1.out.size
    by_cases hlt : k < len
    · obtain ⟨b, off, rfl, hlc, hcm, hbw, hcell⟩ := (hp.out.2).resolve_left (by omega)
      have hck : wr.cell? ⟨b, off + k, none⟩ = some (.int .u8 (zs.getD k 0)) := (hb1.out.cell (p := ⟨b, off + k, none⟩) hbw).trans (hcell k hlt)
      obtain ⟨z, hz⟩ : ∃ z, z = zs.getD k 0 := ⟨_, rfl⟩
      rw [← hz] at hck
      have HZ : Hid (z = zs.getD k 0) := hz
      have hl1 : ((zs.map byt).take k).length ≤ 1024 := by
        have := List.length_take_le k (zs.map byt)
        omega
      clear hz hcell
      go_wp2_with (first | (at_builtin; refine wpList_append_own _ rfl _ _ 43 rfl w.heap.size 5 i0 (.int .u8 0) 1 1 Yba.underlying43 hi hz0 hz1 hz2 rfl (by decide) _ _ _ rfl (World.ownsRow.alloc ho1.out _) ⟨wr.heap.size, 0, none⟩ 1 1 [.int .u8 z] rfl rfl (cell_one_new _ _ _) (ints_oneCell .u8 [z]) (by unfold maxLen; omega) (by omega) (by simp; omega) ?_; intro v' w1 hown' hgrow hnil) | go_in)
      have R := app_step hsz ho1.out hb1.out hown' hgrow
      rw [HZ.out, ← take_snoc_int zs k (by rw [HL.out]; exact hlt)] at R
      clear hown' hgrow hnil ho1 hb1
      go_wp2
      go_roundw
      case rel => exact ⟨k + 1, by omega, by go_num, R.1, R.2⟩
      case measure => simp [intOf]; omega
    · have hX : (zs.map byt).take k = zs.map byt := List.take_of_length_le (by rw [List.length_map, HL.out]; omega)
      rw [hX] at ho1
      have l0 : (zs.map byt).length ≤ 1024 := by rw [List.length_map, HL.out]; exact h0
      clear hX
      go_wp2_with fail
      refine (put_any w.heap.size _ _ name _ ho1 hsz (by omega) h1).mono ?_
      rintro e w1 ⟨v1, rfl, o1, b1⟩
      have O1 : Hid (Own w1 w.heap.size v1 (zs.map byt ++ strCells name)) := o1
      have B1 : Hid (Below w.heap.size w w1) := hb1.out.trans b1
      have s1 := B1.out.size
      have l1 : (zs.map byt ++ strCells name).length ≤ 2048 := by rw [List.length_append, strCells_length]; omega
      clear o1 b1 hb1 ho1 hsz
      go_wp2_with fail
      refine (put_any w.heap.size _ _ suffix _ O1 s1 (by omega) h2).mono ?_
      rintro e w2 ⟨v2, rfl, o2, b2⟩
      have O2 : Hid (Own w2 w.heap.size v2 (zs.map byt ++ strCells name ++ strCells suffix)) := o2
      have B2 : Hid (Below w.heap.size w w2) := B1.out.trans b2
      have s2 := B2.out.size
      have l2 : (zs.map byt ++ strCells name ++ strCells suffix).length ≤ 3072 := by rw [List.length_append, strCells_length]; omega
      clear o2 b2 B1 O1 s1
      by_cases hlab : labels.size = 0
      · have E0 : Hid (zs.map byt ++ strCells name ++ strCells suffix = zs.map byt ++ strCells name ++ strCells suffix ++ lab labels) := by
          show _ = _
          rw [lab, if_pos hlab, List.append_nil]
        rw [E0.out] at O2 l2
        clear E0
        have hlab' : ¬ (0 : Int) < (labels.size : Int) := by omega
        clear hlab
        go_wp2_with (first | (at_builtin; refine wpList_append_own _ rfl (.tmp 60) (.tmp 61) 43 rfl w.heap.size 5 i0 (.int .u8 0) 1 1 Yba.underlying43 hi hz0 hz1 hz2 rfl (by decide) _ _ _ rfl (World.ownsRow.alloc O2.out _) ⟨w2.heap.size, 0, none⟩ 1 1 [.int .u8 32] rfl rfl (cell_one_new _ _ _) (ints_oneCell .u8 [32]) (by unfold maxLen; omega) (by omega) (by simp; try omega) ?_; intro v6 w6 hown6 hgrow6 hnil6; obtain ⟨o6, b6⟩ := app_step s2 O2.out B2.out hown6 hgrow6; have O6 : Hid (Own w6 w.heap.size v6 (zs.map byt ++ strCells name ++ strCells suffix ++ lab labels ++ [byt 32])) := o6; have B6 : Hid (Below w.heap.size w w6) := b6; have s6 := B6.out.size; have l6 : (zs.map byt ++ strCells name ++ strCells suffix ++ lab labels ++ [byt 32]).length ≤ 4100 := len_one (by omega); clear o6 b6 O2 B2 s2 hown6 hgrow6 hnil6))
        go_wp2_with fail
        refine (put_any w.heap.size _ _ value _ O6 s6 (by omega) h4).mono ?_
        rintro e w7 ⟨v7, rfl, o7, b7⟩
        have O7 : Hid (Own w7 w.heap.size v7 (zs.map byt ++ strCells name ++ strCells suffix ++ lab labels ++ [byt 32] ++ strCells value)) := o7
        have B7 : Hid (Below w.heap.size w w7) := B6.out.trans b7
        have s7 := B7.out.size
        have l7 : (zs.map byt ++ strCells name ++ strCells suffix ++ lab labels ++ [byt 32] ++ strCells value).length ≤ 6000 := by rw [List.length_append, strCells_length]; omega
        clear o7 b7 B6 O6 s6
        go_wp2_with (first | (at_builtin; refine wpList_append_own _ rfl (.tmp 66) (.tmp 67) 43 rfl w.heap.size 5 i0 (.int .u8 0) 1 1 Yba.underlying43 hi hz0 hz1 hz2 rfl (by decide) _ _ _ rfl (World.ownsRow.alloc O7.out _) ⟨w7.heap.size, 0, none⟩ 1 1 [.int .u8 10] rfl rfl (cell_one_new _ _ _) (ints_oneCell .u8 [10]) (by unfold maxLen; omega) (by omega) (by simp; try omega) ?_; intro v8 w8 hown8 hgrow8 hnil8))
        obtain ⟨o8, b8⟩ := app_step s7 O7.out B7.out hown8 hgrow8
        clear hown8 hgrow8 hnil8 O7 B7
        go_wp2
        go_ret
        exact ⟨_, rfl, o8, b8⟩
      · have hlab' : (0 : Int) < (labels.size : Int) := by omega
        go_wp2_with (first | (at_builtin; refine wpList_append_own _ rfl (.tmp 51) (.tmp 52) 43 rfl w.heap.size 5 i0 (.int .u8 0) 1 1 Yba.underlying43 hi hz0 hz1 hz2 rfl (by decide) _ _ _ rfl (World.ownsRow.alloc O2.out _) ⟨w2.heap.size, 0, none⟩ 1 1 [.int .u8 123] rfl rfl (cell_one_new _ _ _) (ints_oneCell .u8 [123]) (by unfold maxLen; omega) (by omega) (by simp; omega) ?_; intro v' wn hown' hgrow hnil))
        obtain ⟨o3, b3⟩ := app_step s2 O2.out B2.out hown' hgrow
        have O3 : Hid (Own wn w.heap.size v' (zs.map byt ++ strCells name ++ strCells suffix ++ [byt 123])) := o3
        have B3 : Hid (Below w.heap.size w wn) := b3
        have s3 := B3.out.size
        have l3 : (zs.map byt ++ strCells name ++ strCells suffix ++ [byt 123]).length ≤ 3073 := by rw [List.length_append]; simp only [List.length_singleton]; omega
        clear o3 b3 O2 B2 s2 hown' hgrow hnil
        go_wp2_with fail
        refine (put_any w.heap.size _ _ labels _ O3 s3 (by omega) h3).mono ?_
        rintro e w4 ⟨v4, rfl, o4, b4⟩
        have O4 : Hid (Own w4 w.heap.size v4 (zs.map byt ++ strCells name ++ strCells suffix ++ [byt 123] ++ strCells labels)) := o4
        have B4 : Hid (Below w.heap.size w w4) := B3.out.trans b4
        have s4 := B4.out.size
        have l4 : (zs.map byt ++ strCells name ++ strCells suffix ++ [byt 123] ++ strCells labels).length ≤ 4097 := by rw [List.length_append, strCells_length]; omega
        clear o4 b4 B3 O3 s3
        have E4 : Hid (zs.map byt ++ strCells name ++ strCells suffix ++ [byt 123] ++ strCells labels ++ [byt 125] = zs.map byt ++ strCells name ++ strCells suffix ++ lab labels) := by
          show _ = _
          rw [lab, if_neg hlab]
          simp only [List.append_assoc]
        clear hlab
        go_wp2_with (first | (at_builtin; refine wpList_append_own _ rfl (.tmp 57) (.tmp 58) 43 rfl w.heap.size 5 i0 (.int .u8 0) 1 1 Yba.underlying43 hi hz0 hz1 hz2 rfl (by decide) _ _ _ rfl (World.ownsRow.alloc O4.out _) ⟨w4.heap.size, 0, none⟩ 1 1 [.int .u8 125] rfl rfl (cell_one_new _ _ _) (ints_oneCell .u8 [125]) (by unfold maxLen; omega) (by omega) (by simp; try omega) ?_; intro v5 w5 hown5 hgrow5 hnil5; obtain ⟨o5, b5⟩ := app_step s4 O4.out B4.out hown5 hgrow5; have O5 : Hid (Own w5 w.heap.size v5 (zs.map byt ++ strCells name ++ strCells suffix ++ [byt 123] ++ strCells labels ++ [byt 125])) := o5; have B5 : Hid (Below w.heap.size w w5) := b5; have s5 := B5.out.size; have l5 : (zs.map byt ++ strCells name ++ strCells suffix ++ [byt 123] ++ strCells labels ++ [byt 125]).length ≤ 4099 := len_one (by omega); clear o5 b5 O4 B4 s4 hown5 hgrow5 hnil5; rw [E4.out] at O5 l5) | (at_builtin; refine wpList_append_own _ rfl (.tmp 60) (.tmp 61) 43 rfl w.heap.size 5 i0 (.int .u8 0) 1 1 Yba.underlying43 hi hz0 hz1 hz2 rfl (by decide) _ _ _ rfl (World.ownsRow.alloc O5.out _) ⟨w5.heap.size, 0, none⟩ 1 1 [.int .u8 32] rfl rfl (cell_one_new _ _ _) (ints_oneCell .u8 [32]) (by unfold maxLen; omega) (by omega) (by simp; try omega) ?_; intro v6 w6 hown6 hgrow6 hnil6; obtain ⟨o6, b6⟩ := app_step s5 O5.out B5.out hown6 hgrow6; have O6 : Hid (Own w6 w.heap.size v6 (zs.map byt ++ strCells name ++ strCells suffix ++ lab labels ++ [byt 32])) := o6; have B6 : Hid (Below w.heap.size w w6) := b6; have s6 := B6.out.size; have l6 : (zs.map byt ++ strCells name ++ strCells suffix ++ lab labels ++ [byt 32]).length ≤ 4100 := len_one (by omega); clear o6 b6 O5 B5 s5 hown6 hgrow6 hnil6))
        go_wp2_with fail
        refine (put_any w.heap.size _ _ value _ O6 s6 (by omega) h4).mono ?_
        rintro e w7 ⟨v7, rfl, o7, b7⟩
        have O7 : Hid (Own w7 w.heap.size v7 (zs.map byt ++ strCells name ++ strCells suffix ++ lab labels ++ [byt 32] ++ strCells value)) := o7
        have B7 : Hid (Below w.heap.size w w7) := B6.out.trans b7
        have s7 := B7.out.size
        have l7 : (zs.map byt ++ strCells name ++ strCells suffix ++ lab labels ++ [byt 32] ++ strCells value).length ≤ 6000 := by rw [List.length_append, strCells_length]; omega
        clear o7 b7 B6 O6 s6
        go_wp2_with (first | (at_builtin; refine wpList_append_own _ rfl (.tmp 66) (.tmp 67) 43 rfl w.heap.size 5 i0 (.int .u8 0) 1 1 Yba.underlying43 hi hz0 hz1 hz2 rfl (by decide) _ _ _ rfl (World.ownsRow.alloc O7.out _) ⟨w7.heap.size, 0, none⟩ 1 1 [.int .u8 10] rfl rfl (cell_one_new _ _ _) (ints_oneCell .u8 [10]) (by unfold maxLen; omega) (by omega) (by simp; try omega) ?_; intro v8 w8 hown8 hgrow8 hnil8))
        obtain ⟨o8, b8⟩ := app_step s7 O7.out B7.out hown8 hgrow8
        clear hown8 hgrow8 hnil8 O7 B7
        go_wp2
        go_ret
        exact ⟨_, rfl, o8, b8⟩
end Go.Proofs.Ybulkcray
