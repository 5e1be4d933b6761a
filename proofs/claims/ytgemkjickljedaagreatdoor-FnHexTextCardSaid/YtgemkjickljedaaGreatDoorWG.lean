/- What the rest of a slice of bytes has to do with its being UTF-8: laws with no walk in sight. Conditions: the bytes lie in memory. -/
import Derived.Test.YtgemkjickljedaaGreatDoorWF
import Derived.Laws.BitsAllLaws
import Derived.Lib.ValidLaws
import Derived.Lib.ValidAsc
namespace Go.Proofs.YtgemkjickljedaaGreatDoor
open Go.ChangeShapes Go.WideShapes Go.ChangeAt Go.RowKit

theorem RowA.draw {g k : Nat} {t : ByteArray} {w : World} (h : RowA g k t w) (q : Nat) : RowA g k t (w.drewN q) := fun i hi => by
  have := h i hi
  simpa using this
theorem RowA.none {g k : Nat} {t : ByteArray} {w : World} (h : t.size = 0) : RowA g k t w := fun i hi => by omega

/-- What is yet to be read: m bytes from ⟨g, k⟩ on; the answer hangs on them alone. -/
def Vd (w : World) (ANS : Bool) (g k m : Nat) (wr : World) : Prop := ∃ t : ByteArray, m = t.size ∧ Lib.validD t.data.toList = ANS ∧ RowA g k t wr ∧ Below w.heap.size w wr

variable {w wr : World} {ANS : Bool} {g k m : Nat}
theorem Vd.draw (h : Vd w ANS g k m wr) (q : Nat) : Vd w ANS g k m (wr.drewN q) := by
  obtain ⟨t, h1, h2, h3, h4⟩ := h
  exact ⟨t, h1, h2, h3.draw q, below_drewN h4 q⟩
theorem Vd.grow (h : Vd w ANS g k m wr) (hg : g < w.heap.size) {w2 : World} (b : Below wr.heap.size wr w2) : Vd w ANS g k m w2 := by
  obtain ⟨t, h1, h2, h3, h4⟩ := h
  exact ⟨t, h1, h2, h3.below (Nat.lt_of_lt_of_le hg h4.size) b, h4.trans (b.mono h4.size)⟩
theorem Vd.zero (h : Vd w ANS g k 0 wr) (k' : Nat) : Vd w ANS g k' 0 wr := by
  obtain ⟨t, h1, h2, _, h4⟩ := h
  exact ⟨t, h1, h2, RowA.none h1.symm, h4⟩
theorem Vd.below (h : Vd w ANS g k m wr) : Below w.heap.size w wr := by
  obtain ⟨_, _, _, _, h4⟩ := h
  exact h4
theorem Vd.done (h : Vd w ANS g k 0 wr) : ANS = true := by
  obtain ⟨t, h1, h2, _, _⟩ := h
  have : t.data.toList = [] := List.eq_nil_of_length_eq_zero (by rw [← Lib.size_eq]; exact h1.symm)
  rw [this, Lib.validD_nil] at h2
  exact h2.symm
theorem skipV {t : ByteArray} (h1 : m = t.size) (h2 : Lib.validD t.data.toList = ANS) (h3 : RowA g k t wr) (h4 : Below w.heap.size w wr) (j : Nat) (hj : Lib.Asc t j) : Vd w ANS g (k + j) (m - j) wr :=
  ⟨t.extract j t.size, by rw [Lib.ext_size, h1], by rw [Lib.valid_skip t j hj]; exact h2, h3.skip j, h4⟩

/-- The first byte. -/
theorem Vd.byte (h : Vd w ANS g k m wr) (h0 : 0 < m) : ∃ x0 : UInt8, wr.cell? ⟨g, k, Option.none⟩ = some (.int .u8 x0.toNat) ∧ (x0.toNat < 128 → Vd w ANS g (k + 1) (m - 1) wr) ∧
    (128 ≤ x0.toNat → ∃ x1 x2 x3 : UInt8, (1 < m → wr.cell? ⟨g, k + 1, Option.none⟩ = some (.int .u8 x1.toNat)) ∧ (2 < m → wr.cell? ⟨g, k + 2, Option.none⟩ = some (.int .u8 x2.toNat)) ∧ (3 < m → wr.cell? ⟨g, k + 3, Option.none⟩ = some (.int .u8 x3.toNat)) ∧
      (Lib.checkN m x1.toNat x2.toNat x3.toNat (Lib.firstT x0.toNat % 8) (Lib.accLo (Lib.firstT x0.toNat / 16)) (Lib.accHi (Lib.firstT x0.toNat / 16)) = Option.none → ANS = false) ∧
      (∀ j, Lib.checkN m x1.toNat x2.toNat x3.toNat (Lib.firstT x0.toNat % 8) (Lib.accLo (Lib.firstT x0.toNat / 16)) (Lib.accHi (Lib.firstT x0.toNat / 16)) = some j → Vd w ANS g (k + j) (m - j) wr)) := by
  obtain ⟨t, h1, h2, h3, h4⟩ := h
  have c0 := h3.at 0 (by omega)
  rw [Nat.add_zero] at c0
  refine ⟨t.get! 0, c0, fun ha => skipV h1 h2 h3 h4 1 (Lib.asc_one t (by omega) ha), fun hb => ⟨t.get! 1, t.get! 2, t.get! 3, fun q => h3.at 1 (by omega), fun q => h3.at 2 (by omega), fun q => h3.at 3 (by omega), ?_, ?_⟩⟩
  all_goals
    have hne : t.data.toList ≠ [] := fun e => by rw [Lib.size_eq, e] at h1; simp at h1; omega
    have hl := Lib.validD_lead t.data.toList hne (by rw [Lib.getD_get!']; exact hb)
    rw [Lib.getD_get!', Lib.getD_get!', Lib.getD_get!', Lib.getD_get!', ← Lib.size_eq, ← h1, h2] at hl
  · intro e
    rw [e] at hl
    exact hl
  · intro j e
    rw [e] at hl
    exact ⟨t.extract j t.size, by rw [Lib.ext_size, h1], by rw [Lib.ext_list, hl], h3.skip j, h4⟩

/-- One word. -/
theorem wordV {t : ByteArray} (h1 : m = t.size) (h3 : RowA g k t wr) (h8 : 8 ≤ m) : ∃ A : Nat, A < 18446744073709551616 ∧ (A &&& 9259542123273814144 = 0 ↔ Lib.Asc t 8) ∧
    ∀ q cap, Calls Tryz.prog 57 #[.slice (some ⟨g, k, Option.none⟩) m cap] (wr.drewN q) fun e w' => e = .returned (.int .u64 (A : Int)) ∧ ∃ p, w' = (wr.drewN q).drewN p :=
  ⟨_, Lib.word_lt t, Lib.word_asc t (by omega), fun q cap => word_any t g k m cap (wr.drewN q) h1 (by omega) (h3.draw q)⟩
theorem Vd.word (h : Vd w ANS g k m wr) (h8 : 8 < m) : ∃ A : Nat, A < 18446744073709551616 ∧ (A &&& 9259542123273814144 = 0 → Vd w ANS g (k + 8) (m - 8) wr) ∧
    ∀ q cap, Calls Tryz.prog 57 #[.slice (some ⟨g, k, Option.none⟩) m cap] (wr.drewN q) fun e w' => e = .returned (.int .u64 (A : Int)) ∧ ∃ p, w' = (wr.drewN q).drewN p := by
  obtain ⟨t, h1, h2, h3, h4⟩ := h
  obtain ⟨A, l, e, c⟩ := wordV h1 h3 (by omega)
  exact ⟨A, l, fun z => skipV h1 h2 h3 h4 8 (e.1 z), c⟩
theorem Vd.word2 (h : Vd w ANS g k m wr) (h8 : 16 < m) : ∃ A B : Nat, A < 18446744073709551616 ∧ B < 18446744073709551616 ∧ ((A ||| B) &&& 9259542123273814144 = 0 → Vd w ANS g (k + 16) (m - 16) wr) ∧
    (∀ q cap, Calls Tryz.prog 57 #[.slice (some ⟨g, k, Option.none⟩) m cap] (wr.drewN q) fun e w' => e = .returned (.int .u64 (A : Int)) ∧ ∃ p, w' = (wr.drewN q).drewN p) ∧
    (∀ q cap, Calls Tryz.prog 57 #[.slice (some ⟨g, k + 8, Option.none⟩) (m - 8) cap] (wr.drewN q) fun e w' => e = .returned (.int .u64 (B : Int)) ∧ ∃ p, w' = (wr.drewN q).drewN p) := by
  obtain ⟨t, h1, h2, h3, h4⟩ := h
  obtain ⟨A, la, ea, ca⟩ := wordV h1 h3 (by omega)
  obtain ⟨B, lb, eb, cb⟩ := wordV (m := m - 8) (t := t.extract 8 t.size) (by rw [Lib.ext_size, h1]) (h3.skip 8) (by omega)
  refine ⟨A, B, la, lb, fun z => skipV h1 h2 h3 h4 16 ?_, ca, cb⟩
  obtain ⟨z1, z2⟩ := (Lib.or_mask _ _ _).1 z
  exact Lib.asc_add t 8 8 (ea.1 z1) (eb.1 z2)
theorem Vd.word4 (h : Vd w ANS g k m wr) (h8 : 32 < m) : ∃ A B C D : Nat, A < 18446744073709551616 ∧ B < 18446744073709551616 ∧ C < 18446744073709551616 ∧ D < 18446744073709551616 ∧ (((A ||| B) ||| (C ||| D)) &&& 9259542123273814144 = 0 → Vd w ANS g (k + 32) (m - 32) wr) ∧
    (∀ q cap, Calls Tryz.prog 57 #[.slice (some ⟨g, k, Option.none⟩) m cap] (wr.drewN q) fun e w' => e = .returned (.int .u64 (A : Int)) ∧ ∃ p, w' = (wr.drewN q).drewN p) ∧
    (∀ q cap, Calls Tryz.prog 57 #[.slice (some ⟨g, k + 8, Option.none⟩) (m - 8) cap] (wr.drewN q) fun e w' => e = .returned (.int .u64 (B : Int)) ∧ ∃ p, w' = (wr.drewN q).drewN p) ∧
    (∀ q cap, Calls Tryz.prog 57 #[.slice (some ⟨g, k + 16, Option.none⟩) (m - 16) cap] (wr.drewN q) fun e w' => e = .returned (.int .u64 (C : Int)) ∧ ∃ p, w' = (wr.drewN q).drewN p) ∧
    (∀ q cap, Calls Tryz.prog 57 #[.slice (some ⟨g, k + 24, Option.none⟩) (m - 24) cap] (wr.drewN q) fun e w' => e = .returned (.int .u64 (D : Int)) ∧ ∃ p, w' = (wr.drewN q).drewN p) := by
  obtain ⟨t, h1, h2, h3, h4⟩ := h
  obtain ⟨A, la, ea, ca⟩ := wordV h1 h3 (by omega)
  obtain ⟨B, lb, eb, cb⟩ := wordV (m := m - 8) (t := t.extract 8 t.size) (by rw [Lib.ext_size, h1]) (h3.skip 8) (by omega)
  obtain ⟨C, lc, ec, cc⟩ := wordV (m := m - 16) (t := t.extract 16 t.size) (by rw [Lib.ext_size, h1]) (h3.skip 16) (by omega)
  obtain ⟨D, ld, ed, cd⟩ := wordV (m := m - 24) (t := t.extract 24 t.size) (by rw [Lib.ext_size, h1]) (h3.skip 24) (by omega)
  refine ⟨A, B, C, D, la, lb, lc, ld, fun z => skipV h1 h2 h3 h4 32 ?_, ca, cb, cc, cd⟩
  obtain ⟨z12, z34⟩ := (Lib.or_mask _ _ _).1 z
  obtain ⟨z1, z2⟩ := (Lib.or_mask _ _ _).1 z12
  obtain ⟨z3, z4⟩ := (Lib.or_mask _ _ _).1 z34
  exact Lib.asc_add t 24 8 (Lib.asc_add t 16 8 (Lib.asc_add t 8 8 (ea.1 z1) (eb.1 z2)) (ec.1 z3)) (ed.1 z4)

end Go.Proofs.YtgemkjickljedaaGreatDoor
