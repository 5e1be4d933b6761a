/- Two matrices are equal if their words are. Conditions: none. -/
import Derived.Test.YtolmmgemahohoaaMatF
namespace Go.Proofs.Ytolmmgemahohoaa
open Go.ChangeShapes Go.WideShapes Go.ChangeAt Go.RowKit Go.Dy Go.Sort
attribute [local go_sem] run_equalIn_float

set_option maxHeartbeats 1000000 in
theorem eql42 (m n : Nat → Nat) (h : ∀ c, c < 9 → FloatKind.f64.format.order (m c) (n c) = some .eq) (w : World) : (binOp .eql 42 (M9 m) (M9 n)).run Try.prog w = .ok (.bool true) w := by
  have e (a b c a' b' c' : Nat) (h1 : FloatKind.f64.format.order a a' = some .eq) (h2 : FloatKind.f64.format.order b b' = some .eq) (h3 : FloatKind.f64.format.order c c' = some .eq) (w : World) :
      (Op.equalIn 9999 40 (.agg #[.float .f64 a, .float .f64 b, .float .f64 c]) (.agg #[.float .f64 a', .float .f64 b', .float .f64 c'])).run Try.prog w = .ok true w := by
    rw [eq40, h1, h2, h3]; rfl
  have e1 := e _ _ _ _ _ _ (h 0 (by omega)) (h 1 (by omega)) (h 2 (by omega))
  have e2 := e _ _ _ _ _ _ (h 3 (by omega)) (h 4 (by omega)) (h 5 (by omega))
  have e3 := e _ _ _ _ _ _ (h 6 (by omega)) (h 7 (by omega)) (h 8 (by omega))
  clear e h
  rw [run_eql_struct]
  rw [show (10000 : Nat) = 9999 + 1 from rfl, Op.equalIn]
  simp only [Sem.run_bind, run_underlying Try.underlying42, Result.andThen_ok]
  simp only [Std.Legacy.Range.forIn_eq_forIn_range', Std.Legacy.Range.size, Nat.sub_zero, Nat.add_sub_cancel, Nat.div_one, List.range'_succ, List.range'_zero, List.forIn_cons, List.forIn_nil]
  go_simp
end Go.Proofs.Ytolmmgemahohoaa
