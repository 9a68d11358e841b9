import Derived.Test.YbulkcrcoModel
import Derived.Laws.Externs
namespace Go.Proofs.Ybulkcrco
open Go.RowKit

theorem bits_run (d : Nat) (w : World) : (callFunc 10 #[.float .f64 d]).run Yba.prog w = .ok (.value (.int .u64 d)) w := by
  kernel_rfl

set_option maxRecDepth 100000 in
set_option maxHeartbeats 1000000 in
theorem same_any (K len kc : Nat) (a0 : Option Addr) (cap : Nat) (ds : Nat → Nat) (w : World) (hk : Hid (CR w K len ds)) (hd : Hid (DistIn w a0 len ds)) (hl : len ≤ 1024) :
    Calls Yba.prog 8 #[.slice (some ⟨K, 0, none⟩) len kc, .slice a0 len cap] w fun e w' => e = .returned (.bool true) ∧ Below w.heap.size w w' := by
  have hbr := bits_run
  go_enter Yba.func8, Yba.ntmps8
  go_wp2
  go_loopw [5] (fun i wr => ∃ k q : Nat, k ≤ len ∧ i = .int .i64 k ∧ w.drewN q = wr) (fun i _ => len - (intOf i).toNat)
  case atStart => exact ⟨0, 0, Nat.zero_le _, rfl, rfl⟩
  case round =>
    obtain ⟨k, q, hk1, rfl, rfl⟩ := hrel
    by_cases hlt : k < len
    · obtain ⟨b, off, rfl, hbw, hcell0⟩ := hd.out.resolve_left (by omega)
      have hcell := hcell0 k hlt
      obtain ⟨g1, g2⟩ := hk.out.2 k hlt
      have hlt' : (k : Int) < (len : Int) := by omega
      clear hcell0
      go_wp2
      go_quiet (fail)
      go_wp2
      go_roundw
      case rel => exact ⟨k + 1, _, by omega, by go_num, rfl⟩
      case measure => simp [intOf]; omega
    · go_wp2
      go_ret
      exact ⟨rfl, below_drewN (Below.refl _ _) _⟩
end Go.Proofs.Ybulkcrco
