import Derived.Test.YbulkcrayPart
import Derived.Laws.CopyOwn
import Derived.Deep.RegionHeld3
namespace Go.Proofs.Ybulkcray
open Go.RowKit Go.Lib

theorem row_of_full {w : World} {B g n : Nat} {xs : List Value} (h : w.ownsRow B 5 1 (.slice (some ⟨g, 0, none⟩) n n) n xs) : w.heap[g]? = some (.cells xs.toArray 5 (0, 0)) := by
  rcases h.2 with ⟨h, _⟩ | ⟨g', cap, cur, e, _, hg, _, _, hs, ht⟩
  · simp at h
  · simp only [Value.slice.injEq, Option.some.injEq, Addr.mk.injEq] at e
    obtain ⟨⟨rfl, _⟩, _, rfl⟩ := e
    have : cur = xs.toArray := by
      apply Array.ext'
      rw [← ht, List.take_of_length_le (by simp [hs])]
    rw [← this]
    exact hg

theorem own_of_row {w : World} {B g n : Nat} {xs : List Value} (hB : B ≤ g) (hg : w.heap[g]? = some (.cells xs.toArray 5 (0, 0))) (hn : xs.length = n) (hm : n ≤ maxLen) : Own w B (.slice (some ⟨g, 0, none⟩) n n) xs := by
  subst hn
  refine ⟨by simp, Or.inr ⟨g, xs.length, xs.toArray, rfl, hB, hg, Nat.le_refl _, hm, by simp, by simp⟩⟩

theorem splice_whole (cur cs : List Value) (h : cur.length = cs.length) : splice cur 0 cs = cs := by
  simp [splice, ← h]

theorem strCells_bytes (s : ByteArray) : ∀ u ∈ strCells s, ∃ z, u = .int .u8 z := by
  intro u hu
  simp only [strCells, List.mem_map] at hu
  obtain ⟨b, _, rfl⟩ := hu
  exact ⟨_, rfl⟩

theorem wanted_bytes (zs : List Int) (name suffix labels value : ByteArray) : ∀ u ∈ wanted (zs.map byt) name suffix labels value, ∃ z, u = .int .u8 z := by
  intro u hu
  unfold wanted lab at hu
  simp only [List.mem_append, List.mem_map, List.mem_singleton] at hu
  rcases hu with (((((⟨z, _, rfl⟩ | h) | h) | h) | h) | h) | h
  · exact ⟨z, rfl⟩
  · exact strCells_bytes _ u h
  · exact strCells_bytes _ u h
  · split at h
    · simp at h
    · simp only [List.mem_append, List.mem_singleton] at h
      rcases h with (h | h) | h
      · exact ⟨_, h⟩
      · exact strCells_bytes _ u h
      · exact ⟨_, h⟩
  · exact ⟨_, h⟩
  · exact strCells_bytes _ u h
  · exact ⟨_, h⟩

theorem wanted_len (zs : List Int) (name suffix labels value : ByteArray) (h0 : zs.length ≤ 1024) (h1 : name.size ≤ 1024) (h2 : suffix.size ≤ 1024) (h3 : labels.size ≤ 1024) (h4 : value.size ≤ 1024) :
    0 < (wanted (zs.map byt) name suffix labels value).length ∧ (wanted (zs.map byt) name suffix labels value).length ≤ 20000 := by
  have hl : (lab labels).length ≤ 1026 := by
    unfold lab
    split
    · simp
    · simp only [List.length_append, List.length_singleton, strCells_length]; omega
  unfold wanted
  simp only [List.length_append, List.length_map, List.length_singleton, strCells_length]
  omega

set_option maxRecDepth 100000 in
theorem cpart_long (a0 : Option Addr) (len cap : Nat) (name suffix labels value : ByteArray) (w : World) (hl : ¬ (len ≤ 1024 ∧ name.size ≤ 1024 ∧ suffix.size ≤ 1024 ∧ labels.size ≤ 1024 ∧ value.size ≤ 1024)) :
    Calls Yba.prog 5 #[.slice a0 len cap, .string name, .string suffix, .string labels, .string value] w fun e w' => e = .returned (.bool true) ∧ Below w.heap.size w w' := by
  by_cases h0 : len ≤ 1024
  · by_cases h1 : name.size ≤ 1024
    · by_cases h2 : suffix.size ≤ 1024
      · by_cases h3 : labels.size ≤ 1024
        · have h4 : 1024 < value.size := by omega
          clear hl
          go_enter Yba.func5, Yba.ntmps5
          go_wp2
          go_ret
          exact ⟨rfl, Below.refl _ _⟩
        · clear hl
          go_enter Yba.func5, Yba.ntmps5
          go_wp2
          go_ret
          exact ⟨rfl, Below.refl _ _⟩
      · clear hl
        go_enter Yba.func5, Yba.ntmps5
        go_wp2
        go_ret
        exact ⟨rfl, Below.refl _ _⟩
    · clear hl
      go_enter Yba.func5, Yba.ntmps5
      go_wp2
      go_ret
      exact ⟨rfl, Below.refl _ _⟩
  · clear hl
    go_enter Yba.func5, Yba.ntmps5
    go_wp2
    go_ret
    exact ⟨rfl, Below.refl _ _⟩

set_option maxRecDepth 100000 in
set_option maxHeartbeats 1000000 in
theorem cpart_any (a0 : Option Addr) (len cap : Nat) (zs : List Int) (name suffix labels value : ByteArray) (w : World) (hp : Hid (PreIn w a0 len cap zs)) (h0 : len ≤ 1024) (h1 : name.size ≤ 1024) (h2 : suffix.size ≤ 1024) (h3 : labels.size ≤ 1024) (h4 : value.size ≤ 1024) :
    Calls Yba.prog 5 #[.slice a0 len cap, .string name, .string suffix, .string labels, .string value] w fun e w' => e = .returned (.bool true) ∧ Below w.heap.size w w' := by
  obtain ⟨i0, hi, hz0, hz1, hz2⟩ := info_parts Yba.info5
  have HL : Hid (zs.length = len) := hp.out.1
  have hsz1 : (Yba.prog.info? 5).map (·.size) = some 1 := by kernel_rfl
  have HM : Hid ((madeCells (Value.int .u8 0).cells (len * 1)).toList.length = len) := by
    show _ = _
    simp [madeCells]
  have HC : Hid (∀ wx, Below w.heap.size w wx → 0 < (zs.map byt).length → ∃ ad, a0 = some ad ∧ ∀ j v, (zs.map byt)[j]? = some v → wx.cell? (ad.add j) = some v) := by
    intro wx hb hpos
    rw [List.length_map, HL.out] at hpos
    obtain ⟨b, off, rfl, _, _, hbw, hcell⟩ := (hp.out.2).resolve_left (by omega)
    refine ⟨_, rfl, fun j v hj => ?_⟩
    obtain ⟨hj1, hj2⟩ := List.getElem?_eq_some_iff.1 hj
    have hj3 : j < len := by rw [List.length_map, HL.out] at hj1; exact hj1
    rw [WideShapes.add_plain, hb.cell (p := ⟨b, off + j, none⟩) hbw, hcell j hj3, ← hj2]
    have hj4 : j < zs.length := by rw [HL.out]; exact hj3
    simp [hj4]
  go_enter Yba.func5, Yba.ntmps5
  go_wp2_with (first
    | (at_make; refine wpList_make_full _ rfl _ _ 43 rfl w.heap.size 5 i0 (.int .u8 0) 1 Yba.underlying43 hi hz0 hz1 .i64 .i64 _ _ len rfl rfl rfl rfl (by rw [hz2]; omega) (by unfold maxLen; omega) (Nat.le_refl _) ?_; intro w0 hown0 hgrow0; have HR : Hid _ := row_of_full hown0; have HB0 : Hid (Below w.heap.size w w0) := (Below.refl _ _).grown hgrow0 (Nat.le_refl _) (fun k hk => by cases hk); clear hown0 hgrow0)
    | (refine wpList_copy_splice rfl (.tmp 39) (.tmp 40) 43 43 rfl 5 Yba.underlying43 hsz1 _ _ _ _ _ _ rfl rfl w.heap.size 0 _ 5 HR.out (zs.map byt) (by rw [List.length_map, HL.out]; simp) (fun h => ⟨rfl, HC.out _ HB0.out h⟩) (by rw [HM.out, List.length_map, HL.out]; omega) (ints_oneCell .u8 zs) w.heap.size w HB0.out (Nat.le_refl _) ?_; intro w1 hr1 hb1; rw [splice_whole _ _ (by rw [HM.out, List.length_map, HL.out])] at hr1; have HO1 : Hid (Own w1 w.heap.size (.slice (some ⟨w.heap.size, 0, none⟩) len len) (zs.map byt)) := own_of_row (Nat.le_refl _) hr1.out (by rw [List.length_map, HL.out]) (by unfold maxLen; omega); have HB1 : Hid (Below w.heap.size w w1) := hb1; clear hr1 hb1 HR HB0))
  have hs1 := HB1.out.size
  have X1 : Ex (w1.alloc (.cells #[.slice (some ⟨w.heap.size, 0, none⟩) len len, .string name, .pointer none] 47)) w1.heap.size (.slice (some ⟨w.heap.size, 0, none⟩) len len) name := heap_alloc_new w1 _
  refine (part_any w1.heap.size w.heap.size _ (zs.map byt) name suffix labels value _ X1 (HO1.out.alloc _) (by simp; omega) hs1 (by rw [List.length_map, HL.out]; exact h0) h1 h2 h3 h4).mono ?_
  rintro e w3 ⟨rfl, v3, x3, o3, b3⟩
  have HX3 : Hid (Ex w3 w1.heap.size v3 name) := x3
  have HO3 : Hid (Own w3 w.heap.size v3 (wanted (zs.map byt) name suffix labels value)) := o3
  have HB3 : Hid (Below w.heap.size w w3) := (HB1.out.alloc hs1 _).trans b3
  have HP3 : Hid (PreIn w3 a0 len cap zs) := hp.out.below HB3.out
  have HE : Hid (w1.heap.size < w3.heap.size) := x3.lt
  have d0 := x3.c0
  have d1 := x3.c1
  have d2 := x3.c2
  have W := wanted_len zs name suffix labels value (by rw [HL.out]; exact h0) h1 h2 h3 h4
  have HW : Hid _ := W
  clear X1 x3 o3 b3 HO1 HB1 HC HM W hp
  obtain ⟨eb, heb⟩ : ∃ eb, eb = w1.heap.size := ⟨_, rfl⟩
  rw [← heb] at d0 d1 d2 HE HX3 ⊢
  clear heb
  go_wp2
  have HP4 : Hid (PreIn w3.drew a0 len cap zs) := HP3.out.below (Below.refl _ _).drew
  have HO4 : Hid (Own w3.drew w.heap.size v3 (wanted (zs.map byt) name suffix labels value)) := HO3.out
  have HB4 : Hid (Below w.heap.size w w3.drew) := HB3.out.drew
  go_region_held3 (fun w' => w'.cell? ⟨eb, 0, none⟩ = some v3)
    (first | exact d0 | exact (b4.cell (p := ⟨eb, 0, none⟩) HE.out).trans d0)
    (first
      | (go_at_call 13; refine (model_any a0 len cap zs name suffix labels value w3.drew HP4.out h0 h1 h2 h3 h4).mono ?_; rintro e w4 ⟨v4, rfl, o4, b4⟩)
      | (go_at_call 12; refine (same_any w.heap.size w3.heap.size v3 v4 (wanted (zs.map byt) name suffix labels value) _ (HO4.out.below b4 (Nat.le_refl _)) o4 HW.out.1 HW.out.2 (wanted_bytes zs name suffix labels value)).mono ?_; rintro e w5 ⟨rfl, q, rfl⟩))
  all_goals go_wp2
  all_goals go_ret
  all_goals exact ⟨rfl, below_drewN (HB4.out.trans (b4.mono HB4.out.size)) q⟩
end Go.Proofs.Ybulkcray
