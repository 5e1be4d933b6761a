/- Two rectangles are compared corner by corner. Conditions: none. -/
import Derived.Test.YtolmmgemahohoaaRect
namespace Go.Proofs.Ytolmmgemahohoaa
open Go.ChangeShapes Go.WideShapes Go.ChangeAt Go.RowKit Go.Dy Go.Sort

theorem run_equalIn_float {P : Program} (w : World) (d : Nat) (t : TypeId) (k k' : FloatKind) (a b : Nat) (h : P.underlying t = some (.float k')) : (Op.equalIn (d + 1) t (.float k a) (.float k b)).run P w = .ok (k.format.order a b == some .eq) w := by
  simp [Op.equalIn, run_underlying h, Op.floatEq]
attribute [local go_sem] run_equalIn_float

/-- '==' on two rectangles: corner by corner. -/
def same4 (a b c d a' b' c' d' : Nat) : Bool :=
  FloatKind.f64.format.order a a' == some .eq && (FloatKind.f64.format.order b b' == some .eq && (FloatKind.f64.format.order c c' == some .eq && FloatKind.f64.format.order d d' == some .eq))

theorem eq28 (a b c d a' b' c' d' : Nat) (w : World) : (Op.equalIn 10000 28 (R4 a b c d) (R4 a' b' c' d')).run Try.prog w = .ok (same4 a b c d a' b' c' d') w := by
  have hS : Try.prog.underlying 28 = some (.struct (Try.prog.fieldsOf 28)) := by kernel_rfl
  have hp : Try.prog.stoodInHeld 28 = false := by kernel_rfl
  rw [show (10000 : Nat) = 9999 + 1 from rfl, run_equalIn_agg w 9999 28 _ _ hS hp]
  have u26 := Try.underlying26
  simp only [Program.fieldsOf, Try.underlying28]
  go_simp
  unfold same4
  by_cases h1 : FloatKind.f64.format.order a a' = some .eq <;> by_cases h2 : FloatKind.f64.format.order b b' = some .eq <;> by_cases h3 : FloatKind.f64.format.order c c' = some .eq <;> by_cases h4 : FloatKind.f64.format.order d d' = some .eq <;> simp [h1, h2, h3, h4]

theorem eql28 (a b c d a' b' c' d' : Nat) (w : World) : (binOp .eql 28 (R4 a b c d) (R4 a' b' c' d')).run Try.prog w = .ok (.bool (same4 a b c d a' b' c' d')) w := by
  rw [run_eql_struct, eq28]
  rfl
end Go.Proofs.Ytolmmgemahohoaa
