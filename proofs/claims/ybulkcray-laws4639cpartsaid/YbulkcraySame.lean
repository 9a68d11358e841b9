import Derived.Test.YbulkcrayPut
namespace Go.Proofs.Ybulkcray
open Go.RowKit Go.Lib

theorem same_cells (g1 g2 n c1 c2 : Nat) (z : Nat → Int) (w : World) (hn : n ≤ 20000) (h1 : Hid (∀ j, j < n → w.cell? ⟨g1, j, none⟩ = some (.int .u8 (z j)))) (h2 : Hid (∀ j, j < n → w.cell? ⟨g2, j, none⟩ = some (.int .u8 (z j)))) :
    Calls Yba.prog 12 #[.slice (some ⟨g1, 0, none⟩) n c1, .slice (some ⟨g2, 0, none⟩) n c2] w fun e w' => e = .returned (.bool true) ∧ ∃ q, w' = w.drewN q := by
  go_enter Yba.func12, Yba.ntmps12
  go_wp2
  go_loopw [5] (fun i wr => ∃ k q : Nat, k ≤ n ∧ i = .int .i64 k ∧ wr = w.drewN q) (fun i _ => n - (intOf i).toNat)
  case atStart => exact ⟨0, 0, Nat.zero_le _, rfl, rfl⟩
  case round =>
    obtain ⟨k, q, hk, rfl, rfl⟩ := hrel
    by_cases hlt : k < n
    · have d1 := h1.out k hlt
      have d2 := h2.out k hlt
      have hlt' : (k : Int) < (n : Int) := by omega
      go_wp2
      go_quiet (fail)
      go_wp2
      go_roundw
      case rel => exact ⟨k + 1, _, by omega, by go_num, rfl⟩
      case measure => simp [intOf]; omega
    · go_wp2
      go_ret
      exact ⟨rfl, q, rfl⟩

/-- two slices that own the same bytes -/
theorem same_any (B1 B2 : Nat) (v1 v2 : Value) (xs : List Value) (w : World) (h1 : Own w B1 v1 xs) (h2 : Own w B2 v2 xs) (hx : 0 < xs.length) (hn : xs.length ≤ 20000) (hb : ∀ u ∈ xs, ∃ z, u = .int .u8 z) :
    Calls Yba.prog 12 #[v1, v2] w fun e w' => e = .returned (.bool true) ∧ ∃ q, w' = w.drewN q := by
  obtain ⟨g1, c1, rfl⟩ : ∃ g c, v1 = .slice (some ⟨g, 0, none⟩) xs.length c := by
    rcases h1.2 with ⟨_, h⟩ | ⟨g, c, cur, h, _⟩
    · omega
    · exact ⟨g, c, h⟩
  obtain ⟨g2, c2, rfl⟩ : ∃ g c, v2 = .slice (some ⟨g, 0, none⟩) xs.length c := by
    rcases h2.2 with ⟨_, h⟩ | ⟨g, c, cur, h, _⟩
    · omega
    · exact ⟨g, c, h⟩
  have hz : ∀ j, j < xs.length → xs[j]? = some (.int .u8 (match xs[j]? with | some (.int _ z) => z | _ => 0)) := by
    intro j hj
    obtain ⟨z, hz⟩ := hb xs[j] (List.getElem_mem hj)
    rw [List.getElem?_eq_getElem hj, hz]
  refine same_cells g1 g2 xs.length c1 c2 (fun j => match xs[j]? with | some (.int _ z) => z | _ => 0) w hn (fun j hj => ?_) (fun j hj => ?_)
  · rw [World.ownsRow.cellAt h1 j (by omega)]; exact hz j hj
  · rw [World.ownsRow.cellAt h2 j (by omega)]; exact hz j hj
end Go.Proofs.Ybulkcray
