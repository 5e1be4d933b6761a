/- How arguments that hold floats are taken apart. Conditions: those of each lemma. -/
import Derived.Test.YtolmmgemahohoaaRows
import Derived.WalkKit
import Derived.WalkLawsBesides
import Derived.ProofKit
import Derived.Lib.SmallJoins
namespace Go.Proofs.Ytolmmgemahohoaa
open Go.ChangeShapes Go.WideShapes Go.ChangeAt Go.RowKit Go.Joins

section
variable {H : Type} {enc : TypeId × Value → H} {P : Program} {w : World} {base : Nat} {spare : Nat → Bool} {held : Bool}

theorem trod_float_form {t : TypeId} {k : FloatKind} {v : Value} {y : DataW H × List MemPlace} {n : Nat} (ht : P.underlying t = some (.float k)) (h : DataW.trod enc P w base spare held n t [v] = some y) : ∃ b, v = .float k b := by
  cases n with
  | zero => simp [DataW.trod] at h
  | succ n =>
    simp only [DataW.trod, ht] at h
    cases v <;> simp at h
    rename_i k' b
    exact ⟨b, by rw [h.1.1]⟩

theorem open_floats4 {r : Reach} {b0 : Nat} {t e : TypeId} {k : FloatKind} {f0 f1 f2 f3 : Field} {v : Value} {d : DataW H} {p : List MemPlace} (hs : P.underlying t = some (.struct #[f0, f1, f2, f3]))
    (hone : Go.Deep.oneCellFields P #[f0, f1, f2, f3] = true) (hC : P.cellsOf t = 4) (he : f0.type = e ∧ f1.type = e ∧ f2.type = e ∧ f3.type = e) (ht : P.underlying e = some (.float k))
    (hv : Value.okWide P w r b0 t v) (h : DataW.Trod enc P w base spare held t v d p) : ∃ a b c d : Nat, v = .agg #[.float k a, .float k b, .float k c, .float k d] := by
  obtain ⟨v0, v1, v2, v3, y0, y1, y2, y3, n, rfl, -, -, h0, h1, h2, h3⟩ := open_agg4 hs hone hC hv h
  obtain ⟨e0, e1, e2, e3⟩ := he
  rw [e0] at h0; rw [e1] at h1; rw [e2] at h2; rw [e3] at h3
  obtain ⟨a, rfl⟩ := trod_float_form ht h0
  obtain ⟨b, rfl⟩ := trod_float_form ht h1
  obtain ⟨c, rfl⟩ := trod_float_form ht h2
  obtain ⟨d, rfl⟩ := trod_float_form ht h3
  exact ⟨a, b, c, d, rfl⟩
end
end Go.Proofs.Ytolmmgemahohoaa
