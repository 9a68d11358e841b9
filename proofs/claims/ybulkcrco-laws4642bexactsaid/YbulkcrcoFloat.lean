/-
  PLAIN FACTS ON float64 WORDS: what is left of 'max', '4 * x' and '<=' when the NaN that comes out is whatever the tape says. No Go text in sight.
-/
import GoSem.Builtin.Max
import GoSem.Op.FloatArith
import Derived.Laws.Sem
import Derived.Laws.NewFold
import Derived.Deep.Draws
import Derived.Laws.FloatArith
namespace Go.Proofs.Ybulkcrco
open Go

def isNaN (x : Nat) : Bool := (Ieee.double.read x).isNaN
/-- 'x <= y' -/
def leq (x y : Nat) : Bool := Ieee.double.order x y == some .lt || Ieee.double.order x y == some .eq

theorem order_none {x y : Nat} : Ieee.double.order x y = none ↔ isNaN x = true ∨ isNaN y = true := by
  unfold Ieee.Format.order isNaN
  generalize Ieee.double.read x = a
  generalize Ieee.double.read y = b
  cases a <;> cases b <;> simp [Ieee.Datum.order, Ieee.Datum.isNaN]

theorem nan_word (s r : Nat) (_hs : s < 2) (hr : r < 4503599627370495) : isNaN (s * 2 ^ 63 + 0x7ff0000000000000 + 1 + r) = true := by
  unfold isNaN Ieee.Format.read
  have e1 : Ieee.double.signWeight = 9223372036854775808 := by decide
  have e2 : Ieee.double.infRung = 9218868437227405312 := by decide
  have e3 : Ieee.double.binade = 4503599627370496 := by decide
  simp only [e1, e2, e3]
  have h1 : (s * 2 ^ 63 + 0x7ff0000000000000 + 1 + r) % 9223372036854775808 = 9218868437227405313 + r := by omega
  rw [h1, if_neg (by omega), if_neg (by omega), if_neg (by omega)]
  rfl

/-- f is what max(x, y) gives -/
def MaxOf (x y f : Nat) : Prop :=
  match Ieee.double.order x y with
  | none => isNaN f = true
  | some .lt => f = y
  | some .gt => f = x
  | some .eq => f = if (FloatKind.f64.decode x).neg then y else x
/-- r is what 4 * f gives -/
def MulOf (f r : Nat) : Prop :=
  match Ieee.double.mul 4616189618054758400 f with
  | none => isNaN r = true
  | some x => r = x

/-- the same word, or two NaNs -/
def Sim (x y : Nat) : Prop := x = y ∨ (isNaN x = true ∧ isNaN y = true)

theorem Sim.leq {x y : Nat} (h : Sim x y) (d : Nat) : leq d x = leq d y := by
  rcases h with rfl | ⟨h1, h2⟩
  · rfl
  · unfold Ybulkcrco.leq
    rw [order_none.2 (Or.inr h1), order_none.2 (Or.inr h2)]

theorem MaxOf.sim {x x' y f f' : Nat} (h : Sim x x') (m : MaxOf x y f) (m' : MaxOf x' y f') : Sim f f' := by
  rcases h with rfl | ⟨h1, h2⟩
  · unfold MaxOf at m m'
    split at m <;> simp_all [Sim]
  · unfold MaxOf at m m'
    rw [order_none.2 (Or.inl h1)] at m
    rw [order_none.2 (Or.inl h2)] at m'
    exact Or.inr ⟨m, m'⟩

theorem mul_nan {x y : Nat} (h : isNaN y = true) : Ieee.double.mul x y = none := by
  unfold Ieee.Format.mul
  unfold isNaN at h
  revert h
  generalize Ieee.double.read x = a
  generalize Ieee.double.read y = b
  intro h
  cases b <;> simp [Ieee.Datum.isNaN] at h
  cases a <;> simp [Ieee.Datum.product]

theorem MulOf.sim {f f' r r' : Nat} (h : Sim f f') (m : MulOf f r) (m' : MulOf f' r') : Sim r r' := by
  rcases h with rfl | ⟨h1, h2⟩
  · unfold MulOf at m m'
    split at m <;> simp_all [Sim]
  · unfold MulOf at m m'
    rw [mul_nan h1] at m
    rw [mul_nan h2] at m'
    exact Or.inr ⟨m, m'⟩

/-! ### the runs -/
theorem run_maxf {P : Program} (w : World) (ts : Array TypeId) (x y : Nat) : ∃ f q, MaxOf x y f ∧ ∀ t, (Builtin.max_ ts t #[.float .f64 x, .float .f64 y]).run P w = .ok (.float .f64 f) (w.drewN q) := by
  cases ho : Ieee.double.order x y with
  | none =>
    refine ⟨(Question.nanMinMax .f64 true x y).cut (w.tape w.drawn (.nanMinMax .f64 true x y)), 1, ?_, fun t => ?_⟩
    · unfold MaxOf
      rw [ho]
      exact nan_word _ _ (by omega) (by omega)
    · have ho' : FloatKind.f64.format.order x y = none := ho
      simp [Builtin.max_, Builtin.max2, ho', Question.forced, World.drew_is_drewN]
  | some o =>
    have ho' : FloatKind.f64.format.order x y = some o := ho
    cases o with
    | lt => exact ⟨y, 0, by unfold MaxOf; rw [ho], fun t => by simp [Builtin.max_, Builtin.max2, ho', World.drewN_zero]⟩
    | gt => exact ⟨x, 0, by unfold MaxOf; rw [ho], fun t => by simp [Builtin.max_, Builtin.max2, ho', World.drewN_zero]⟩
    | eq => exact ⟨_, 0, by unfold MaxOf; rw [ho], fun t => by simp [Builtin.max_, Builtin.max2, ho', World.drewN_zero]⟩

theorem run_mulf {P : Program} (w : World) (f : Nat) : ∃ r q, MulOf f r ∧ ∀ t, (binOp .mul t (.float .f64 4616189618054758400) (.float .f64 f)).run P w = .ok (.float .f64 r) (w.drewN q) := by
  cases ho : Ieee.double.mul 4616189618054758400 f with
  | none =>
    refine ⟨(Question.nanBits .f64 4616189618054758400 f).cut (w.tape w.drawn (.nanBits .f64 4616189618054758400 f)), 1, ?_, fun t => ?_⟩
    · unfold MulOf
      rw [ho]
      exact nan_word _ _ (by omega) (by omega)
    · have ho' : FloatKind.f64.format.mul 4616189618054758400 f = none := ho
      simp [binOp, Op.floatArith, ho', Question.forced, World.drew_is_drewN]
  | some r =>
    have ho' : FloatKind.f64.format.mul 4616189618054758400 f = some r := ho
    exact ⟨r, 0, by unfold MulOf; rw [ho], fun t => by simp [binOp, Op.floatArith, ho', World.drewN_zero]⟩
end Go.Proofs.Ybulkcrco
