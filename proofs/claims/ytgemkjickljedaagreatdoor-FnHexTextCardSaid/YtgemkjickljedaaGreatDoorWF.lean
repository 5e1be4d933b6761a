/- What utf8.word answers of a slice of bytes: the number that its first eight bytes spell. Conditions: the bytes lie in memory. -/
import Derived.Test.YtgemkjickljedaaGreatDoorHexP
import Derived.WalkLawsBesides
import Derived.WalkSpells
import Derived.Lib.Hide
import Derived.BigQuiet
import Derived.WalkSmall
import Derived.Lib.ValidAsc
import Derived.Lib.EndianBits
import Derived.Deep.QuietTactic
import Derived.Shelf.Unicode.DecodeSlow
namespace Go.Proofs.YtgemkjickljedaaGreatDoor
open Go.ChangeShapes Go.WideShapes Go.ChangeAt Go.RowKit

/-- The bytes t lie from ⟨g, k⟩ on. -/
def RowA (g k : Nat) (t : ByteArray) (w : World) : Prop := ∀ i (h : i < t.size), w.cell? ⟨g, k + i, none⟩ = some (.int .u8 (t[i]).toNat)
theorem RowA.below {g k B : Nat} {t : ByteArray} {w w' : World} (h : RowA g k t w) (hg : g < B) (b : Below B w w') : RowA g k t w' := fun i hi => (World.cell?_of_block (a := ⟨g, k + i, none⟩) (b.block g hg)).trans (h i hi)
theorem RowA.skip {g k : Nat} {t : ByteArray} {w : World} (h : RowA g k t w) (n : Nat) : RowA g (k + n) (t.extract n t.size) w := fun i hi => by
  have hs : (t.extract n t.size).size = t.size - n := Lib.ext_size t n
  have hlt : n + i < t.size := by omega
  have := h (n + i) hlt
  have e : (t.extract n t.size)[i] = t[n + i] := by
    rw [ByteArray.getElem_extract]
  rw [e, Nat.add_assoc]
  exact this
theorem RowA.at {g k : Nat} {t : ByteArray} {w : World} (h : RowA g k t w) (i : Nat) (hi : i < t.size) : w.cell? ⟨g, k + i, none⟩ = some (.int .u8 (t.get! i).toNat) := by
  rw [Utf8W.get!_of_lt t i hi]
  exact h i hi

set_option maxHeartbeats 8000000 in
set_option maxRecDepth 100000 in
theorem word_any (t : ByteArray) (g k n cap : Nat) (w : World) (hn : n = t.size) (hs : 8 ≤ t.size) (hc : RowA g k t w) :
    Calls Tryz.prog 57 #[.slice (some ⟨g, k, none⟩) n cap] w fun e w' => e = .returned (.int .u64 (Lib.leNat [t.get! 0, t.get! 1, t.get! 2, t.get! 3, t.get! 4, t.get! 5, t.get! 6, t.get! 7])) ∧ ∃ q, w' = w.drewN q := by
  obtain ⟨x0, hx0⟩ : ∃ x0, t.get! 0 = x0 := ⟨_, rfl⟩
  have c0 := hc.at 0 (by omega)
  rw [hx0] at c0
  have h0 : x0.toNat < 256 := x0.toNat_lt
  obtain ⟨x1, hx1⟩ : ∃ x1, t.get! 1 = x1 := ⟨_, rfl⟩
  have c1 := hc.at 1 (by omega)
  rw [hx1] at c1
  have h1 : x1.toNat < 256 := x1.toNat_lt
  obtain ⟨x2, hx2⟩ : ∃ x2, t.get! 2 = x2 := ⟨_, rfl⟩
  have c2 := hc.at 2 (by omega)
  rw [hx2] at c2
  have h2 : x2.toNat < 256 := x2.toNat_lt
  obtain ⟨x3, hx3⟩ : ∃ x3, t.get! 3 = x3 := ⟨_, rfl⟩
  have c3 := hc.at 3 (by omega)
  rw [hx3] at c3
  have h3 : x3.toNat < 256 := x3.toNat_lt
  obtain ⟨x4, hx4⟩ : ∃ x4, t.get! 4 = x4 := ⟨_, rfl⟩
  have c4 := hc.at 4 (by omega)
  rw [hx4] at c4
  have h4 : x4.toNat < 256 := x4.toNat_lt
  obtain ⟨x5, hx5⟩ : ∃ x5, t.get! 5 = x5 := ⟨_, rfl⟩
  have c5 := hc.at 5 (by omega)
  rw [hx5] at c5
  have h5 : x5.toNat < 256 := x5.toNat_lt
  obtain ⟨x6, hx6⟩ : ∃ x6, t.get! 6 = x6 := ⟨_, rfl⟩
  have c6 := hc.at 6 (by omega)
  rw [hx6] at c6
  have h6 : x6.toNat < 256 := x6.toNat_lt
  obtain ⟨x7, hx7⟩ : ∃ x7, t.get! 7 = x7 := ⟨_, rfl⟩
  have c7 := hc.at 7 (by omega)
  rw [hx7] at c7
  have h7 : x7.toNat < 256 := x7.toNat_lt
  rw [hx0, hx1, hx2, hx3, hx4, hx5, hx6, hx7]
  have hv : ((Lib.leNat [x0, x1, x2, x3, x4, x5, x6, x7] : Nat) : Int) = (x0.toNat : Int) + (x1.toNat : Int) * 256 + (x2.toNat : Int) * 65536 + (x3.toNat : Int) * 16777216 + (x4.toNat : Int) * 4294967296 + (x5.toNat : Int) * 1099511627776 + (x6.toNat : Int) * 281474976710656 + (x7.toNat : Int) * 72057594037927936 := by
    simp only [Lib.leNat]
    push_cast
    omega
  simp only [Nat.add_zero] at c0
  have q0 : (0 : Int) < (n : Int) := by omega
  have q1 : (1 : Int) < (n : Int) := by omega
  have q2 : (2 : Int) < (n : Int) := by omega
  have q3 : (3 : Int) < (n : Int) := by omega
  have q4 : (4 : Int) < (n : Int) := by omega
  have q5 : (5 : Int) < (n : Int) := by omega
  have q6 : (6 : Int) < (n : Int) := by omega
  have q7 : (7 : Int) < (n : Int) := by omega
  clear hc hx0 hx1 hx2 hx3 hx4 hx5 hx6 hx7
  clear hn hs
  have HV := Lib.hid hv
  clear hv
  go_enter Tryz.func57, Tryz.ntmps57
  go_wp2
  go_quiet (fail)
  go_wp2
  go_ret
  refine ⟨?_, _, rfl⟩
  simp (disch := omega) only [u64_or8, u64_or16, u64_or24, u64_or32, u64_or40, u64_or48, u64_or56]
  rw [HV.out]
  rfl

end Go.Proofs.YtgemkjickljedaaGreatDoor
