import Derived.Test.YbulkcrcaRows
import Derived.WalkKit
import Derived.ProofKit
import Derived.OpenShut
import Derived.Below
import Derived.WalkLawsBesides
import Derived.WalkSmall
import Derived.RowKit3
import Derived.Test.YbulkcrcaBits
import Derived.Test.YbulkcrcaExt
namespace Go.Proofs.Ybulkcrca
open Go.RowKit

theorem nsec_any (b : Nat) (n : Int) (w : World) (h : Wall n) (c0 : w.cell? ⟨b, 0, none⟩ = some (.int .u64 n)) :
    Calls Yba.prog 13 #[.pointer (some ⟨b, 0, none⟩)] w fun e w' => e = .returned (.int .i32 n) ∧ w' = w := by
  have h1 := h.lo
  have h2 := h.hi
  have h3 := h.mask
  go_enter Yba.func13, Yba.ntmps13
  go_wp2
  go_ret
  exact ⟨rfl, rfl⟩

theorem sec_any (b : Nat) (n s : Int) (w : World) (h : Wall n) (c0 : w.cell? ⟨b, 0, none⟩ = some (.int .u64 n)) (c1 : w.cell? ⟨b, 1, none⟩ = some (.int .i64 s)) :
    Calls Yba.prog 12 #[.pointer (some ⟨b, 0, none⟩)] w fun e w' => e = .returned (.int .i64 s) ∧ w' = w := by
  have h3 := h.mono
  go_enter Yba.func12, Yba.ntmps12
  go_wp2
  go_ret
  exact ⟨rfl, rfl⟩

theorem addSec_any (b : Nat) (n s d : Int) (w : World) (h : Wall n) (hs : -9000000000000000000 ≤ s + d) (hs' : s + d ≤ 9000000000000000000) (c0 : w.cell? ⟨b, 0, none⟩ = some (.int .u64 n)) (c1 : w.cell? ⟨b, 1, none⟩ = some (.int .i64 s)) (f1 : w.frozen? ⟨b, 1, none⟩ = false) :
    Calls Yba.prog 14 #[.pointer (some ⟨b, 0, none⟩), .int .i64 d] w fun e w' => e = .returned (.tuple #[]) ∧ w.setCell ⟨b, 1, none⟩ (.int .i64 (s + d)) = w' := by
  have h3 := h.mono
  by_cases hd : 0 < d
  · have h4 : s < s + d := by omega
    go_enter Yba.func14, Yba.ntmps14
    go_wp2
    go_end0
    exact ⟨rfl, rfl⟩
  · have h4 : ¬ (s < s + d) := by omega
    go_enter Yba.func14, Yba.ntmps14
    go_wp2
    go_end0
    exact ⟨rfl, rfl⟩

theorem ext2 (w : World) (c1 c2 : Array Value) (t1 t2 : TypeId) : Ext w ((w.alloc (.cells c1 t1)).alloc (.cells c2 t2)) := ((Ext.refl w).alloc _ _).alloc _ _

set_option maxHeartbeats 1000000 in
theorem add_hi (n s d q r : Int) (w : World) (h : Wall n) (hq : d.tdiv 1000000000 = q) (hr : d.tmod 1000000000 = r) (q1 : -10000000000 ≤ q) (q2 : q ≤ 10000000000) (r1 : -1000000000 < r) (r2 : r < 1000000000) (s1 : -100000000000 ≤ s) (s2 : s ≤ 100000000000)
    (hge : 1000000000 ≤ n + r) (h' : Wall (n + r - 1000000000)) :
    Calls Yba.prog 9 #[.agg #[.int .u64 n, .int .i64 s, .pointer none], .int .i64 d] w fun e w' => e = .returned (.agg #[.int .u64 (n + r - 1000000000), .int .i64 (s + (q + 1)), .pointer none]) ∧ Ext w w' := by
  have n1 := h.lo
  have n2 := h.hi
  have n3 := h.clear
  have m3 := h'.mono
  have m4 := h'.or
  go_enter Yba.func9, Yba.ntmps9
  go_wp2_with (first | (go_at_call 13; refine (nsec_any _ n _ h ?_).mono ?_; (simp [go_sem]); rintro e w' ⟨rfl, rfl⟩))
  refine (addSec_any _ _ s (q + 1) _ h' (by omega) (by omega) ?_ ?_ ?_).mono ?_
  · simp [go_sem]
  · simp [go_sem]
  · simp [go_sem]
  rintro e w' ⟨rfl, rfl⟩
  go_wp2
  refine bodyPost_ret (v := .agg #[.int .u64 (n + r - 1000000000), .int .i64 (s + (q + 1)), .pointer none]) ?_ rfl ⟨rfl, ?_⟩
  · simp [results, Yba.results9, go_sem]
  · exact ext2 _ _ _ _ _

set_option maxHeartbeats 1000000 in
theorem add_lo (n s d q r : Int) (w : World) (h : Wall n) (hq : d.tdiv 1000000000 = q) (hr : d.tmod 1000000000 = r) (q1 : -10000000000 ≤ q) (q2 : q ≤ 10000000000) (r1 : -1000000000 < r) (r2 : r < 1000000000) (s1 : -100000000000 ≤ s) (s2 : s ≤ 100000000000)
    (_hge : ¬ 1000000000 ≤ n + r) (hlt : n + r < 0) (h' : Wall (n + r + 1000000000)) :
    Calls Yba.prog 9 #[.agg #[.int .u64 n, .int .i64 s, .pointer none], .int .i64 d] w fun e w' => e = .returned (.agg #[.int .u64 (n + r + 1000000000), .int .i64 (s + (q - 1)), .pointer none]) ∧ Ext w w' := by
  have n1 := h.lo
  have n2 := h.hi
  have n3 := h.clear
  have m3 := h'.mono
  have m4 := h'.or
  go_enter Yba.func9, Yba.ntmps9
  go_wp2_with (first | (go_at_call 13; refine (nsec_any _ n _ h ?_).mono ?_; (simp [go_sem]); rintro e w' ⟨rfl, rfl⟩))
  refine (addSec_any _ _ s (q - 1) _ h' (by omega) (by omega) ?_ ?_ ?_).mono ?_
  · simp [go_sem]
  · simp [go_sem]
  · simp [go_sem]
  rintro e w' ⟨rfl, rfl⟩
  go_wp2
  refine bodyPost_ret (v := .agg #[.int .u64 (n + r + 1000000000), .int .i64 (s + (q - 1)), .pointer none]) ?_ rfl ⟨rfl, ?_⟩
  · simp [results, Yba.results9, go_sem]
  · exact ext2 _ _ _ _ _

set_option maxHeartbeats 1000000 in
theorem add_mid (n s d q r : Int) (w : World) (h : Wall n) (hq : d.tdiv 1000000000 = q) (hr : d.tmod 1000000000 = r) (q1 : -10000000000 ≤ q) (q2 : q ≤ 10000000000) (r1 : -1000000000 < r) (r2 : r < 1000000000) (s1 : -100000000000 ≤ s) (s2 : s ≤ 100000000000)
    (hge : ¬ 1000000000 ≤ n + r) (hlt : ¬ n + r < 0) (h' : Wall (n + r)) :
    Calls Yba.prog 9 #[.agg #[.int .u64 n, .int .i64 s, .pointer none], .int .i64 d] w fun e w' => e = .returned (.agg #[.int .u64 (n + r), .int .i64 (s + (q)), .pointer none]) ∧ Ext w w' := by
  have n1 := h.lo
  have n2 := h.hi
  have n3 := h.clear
  have m3 := h'.mono
  have m4 := h'.or
  go_enter Yba.func9, Yba.ntmps9
  go_wp2_with (first | (go_at_call 13; refine (nsec_any _ n _ h ?_).mono ?_; (simp [go_sem]); rintro e w' ⟨rfl, rfl⟩))
  refine (addSec_any _ _ s (q) _ h' (by omega) (by omega) ?_ ?_ ?_).mono ?_
  · simp [go_sem]
  · simp [go_sem]
  · simp [go_sem]
  rintro e w' ⟨rfl, rfl⟩
  go_wp2
  refine bodyPost_ret (v := .agg #[.int .u64 (n + r), .int .i64 (s + (q)), .pointer none]) ?_ rfl ⟨rfl, ?_⟩
  · simp [results, Yba.results9, go_sem]
  · exact ext2 _ _ _ _ _

end Go.Proofs.Ybulkcrca
