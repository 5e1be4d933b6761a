/- How an array of six floats is taken apart. Conditions: those of the lemma. -/
import Derived.Test.YtolmmgemahohoaaOpen
import Derived.OpenShut
namespace Go.Proofs.Ytolmmgemahohoaa
open Go.ChangeShapes Go.WideShapes Go.ChangeAt Go.RowKit Go.Joins

section
variable {H : Type} {enc : TypeId × Value → H} {P : Program} {w : World} {base : Nat} {spare : Nat → Bool} {held : Bool}

theorem open_floats_array6 {r : Reach} {b0 : Nat} {t e : TypeId} {k : FloatKind} {v : Value} {d : DataW H} {p : List MemPlace} (hs : P.underlying t = some (.array 6 e))
    (hC : P.cellsOf t = 6) (hc : P.cellsOf e = 1) (ht : P.underlying e = some (.float k))
    (hv : Value.okWide P w r b0 t v) (h : DataW.Trod enc P w base spare held t v d p) : ∃ a0 a1 a2 a3 a4 a5 : Nat, v = .agg #[.float k a0, .float k a1, .float k a2, .float k a3, .float k a4, .float k a5] := by
  simp only [Value.okWide, hs] at hv
  obtain ⟨cs, rfl, hsz, -⟩ := hv
  obtain ⟨fuel, hf⟩ := h
  obtain ⟨xs, m, -, -, hl, hn, hx⟩ := DataW.trod_array hs hf
  rw [hC] at hsz
  obtain ⟨l⟩ := cs
  match l, hsz, hx, hl with
  | [c0, c1, c2, c3, c4, c5], _, hx, _ =>
    rw [hc] at hx
    have go (i : Nat) (hi : i < 6) (c : Value) (hd : (([c0, c1, c2, c3, c4, c5].drop (i * 1)).take 1) = [c]) : ∃ b, c = .float k b := by
      have h1 := hx i hi
      simp only [Value.cells] at h1
      have h2 : xs[i]? = some xs[i] := List.getElem?_eq_getElem (by omega)
      rw [hd, h2] at h1
      exact trod_float_form ht h1
    obtain ⟨a0, rfl⟩ := go 0 (by omega) c0 rfl
    obtain ⟨a1, rfl⟩ := go 1 (by omega) c1 rfl
    obtain ⟨a2, rfl⟩ := go 2 (by omega) c2 rfl
    obtain ⟨a3, rfl⟩ := go 3 (by omega) c3 rfl
    obtain ⟨a4, rfl⟩ := go 4 (by omega) c4 rfl
    obtain ⟨a5, rfl⟩ := go 5 (by omega) c5 rfl
    exact ⟨a0, a1, a2, a3, a4, a5, rfl⟩
end
end Go.Proofs.Ytolmmgemahohoaa
