/- A bytes.Buffer that grows byte by byte; what octal digits are as strings. Conditions: none. -/
import Derived.Test.YtgemkjickljedaaGreatDoorXS
import Derived.Lib.BufferKept
import Derived.Lib.BufferOld
namespace Go.Proofs.YtgemkjickljedaaGreatDoor.Lit
open Go.ChangeShapes Go.WideShapes Go.ChangeAt Go.RowKit

theorem conv_oct (c : UInt8) (h : oct c = true) (w : World) : (convert 5 9 (.int .u8 (c.toNat : Int))).run Tryz.prog w = .ok (.string ⟨#[c]⟩) w := by
  have h2 : c = 48 ∨ c = 49 ∨ c = 50 ∨ c = 51 ∨ c = 52 ∨ c = 53 ∨ c = 54 ∨ c = 55 := by
    unfold oct at h
    have h3 := of_decide_eq_true h
    simp only [show (48 : UInt8) = UInt8.ofNat 48 from rfl, show (49 : UInt8) = UInt8.ofNat 49 from rfl, show (50 : UInt8) = UInt8.ofNat 50 from rfl, show (51 : UInt8) = UInt8.ofNat 51 from rfl, show (52 : UInt8) = UInt8.ofNat 52 from rfl, show (53 : UInt8) = UInt8.ofNat 53 from rfl, show (54 : UInt8) = UInt8.ofNat 54 from rfl, show (55 : UInt8) = UInt8.ofNat 55 from rfl]
    rw [u8_eq c 48 (by decide), u8_eq c 49 (by decide), u8_eq c 50 (by decide), u8_eq c 51 (by decide), u8_eq c 52 (by decide), u8_eq c 53 (by decide), u8_eq c 54 (by decide), u8_eq c 55 (by decide)]
    omega
  rcases h2 with rfl | rfl | rfl | rfl | rfl | rfl | rfl | rfl
  all_goals (go_simp; rfl)

theorem byteOct1 (d : UInt8) (hd : oct d = true) (w : World) : Calls Tryz.prog 52 #[.string ⟨#[d]⟩] w fun e w' => e = .returned (.int .u8 ((v1 d).toNat : Int)) ∧ Below w.heap.size w w' := by
  have h := byteOct_any ⟨#[d]⟩ w (by show 1 ≤ 1; decide) (by show 1 ≤ 3; decide) (by
    intro k hk
    have : k = 0 := by have : k < 1 := hk; omega
    subst this; exact hd)
  have e1 : ov (ByteArray.mk #[d]).data.toList % 256 = (v1 d).toNat := by
    unfold v1
    rw [UInt8.toNat_ofNat']
    show (8 * 0 + (d.toNat - 48)) % 256 = _
    simp
  rwa [e1] at h
theorem byteOct2 (d e : UInt8) (hd : oct d = true) (he : oct e = true) (w : World) : Calls Tryz.prog 52 #[.string ⟨#[d, e]⟩] w fun e' w' => e' = .returned (.int .u8 ((v2 d e).toNat : Int)) ∧ Below w.heap.size w w' := by
  have h := byteOct_any ⟨#[d, e]⟩ w (by show 1 ≤ 2; decide) (by show 2 ≤ 3; decide) (by
    intro k hk
    have h2 : k < 2 := hk
    rcases (show k = 0 ∨ k = 1 by omega) with rfl | rfl
    · exact hd
    · exact he)
  have e1 : ov (ByteArray.mk #[d, e]).data.toList % 256 = (v2 d e).toNat := by
    unfold v2
    rw [UInt8.toNat_ofNat']
    show (8 * (8 * 0 + (d.toNat - 48)) + (e.toNat - 48)) % 256 = _
    simp
  rwa [e1] at h
theorem byteOct3 (d e f : UInt8) (hd : oct d = true) (he : oct e = true) (hf : oct f = true) (w : World) : Calls Tryz.prog 52 #[.string ⟨#[d, e, f]⟩] w fun e' w' => e' = .returned (.int .u8 ((v3 d e f).toNat : Int)) ∧ Below w.heap.size w w' := by
  have h := byteOct_any ⟨#[d, e, f]⟩ w (by show 1 ≤ 3; decide) (by show 3 ≤ 3; decide) (by
    intro k hk
    have h2 : k < 3 := hk
    rcases (show k = 0 ∨ k = 1 ∨ k = 2 by omega) with rfl | rfl | rfl
    · exact hd
    · exact he
    · exact hf)
  have e1 : ov (ByteArray.mk #[d, e, f]).data.toList % 256 = (v3 d e f).toNat := by
    unfold v3
    rw [UInt8.toNat_ofNat']
    show (8 * (8 * (8 * 0 + (d.toNat - 48)) + (e.toNat - 48)) + (f.toNat - 48)) % 256 = _
    omega
  rwa [e1] at h

/-- The buffer in block w0.heap.size holds the bytes. -/
def Bf (w0 w : World) (acc : List UInt8) : Prop := Lib.IsBuffer 78 5 w0.heap.size w0.heap.size (vals acc) w ∧ Below w0.heap.size w0 w
theorem Bf.old {w0 w w' : World} {acc : List UInt8} (h : Bf w0 w acc) (b : Below w.heap.size w w') : Bf w0 w' acc := ⟨h.1.old b, h.2.trans (b.mono h.2.size)⟩
theorem Bf.write {w0 w : World} {acc : List UInt8} (h : Bf w0 w acc) (hl : acc.length ≤ 100000) (c : UInt8) :
    Calls Tryz.prog 51 #[.pointer (some ⟨w0.heap.size, 0, none⟩), .int .u8 (c.toNat : Int)] w fun e w' => e = .returned .nilIface ∧ Bf w0 w' (acc ++ [c]) :=
  (Tryz.Buffer_WriteByte_k w0.heap.size w0.heap.size (vals acc) c.toNat w h.1 h.2.size (Lib.byteCells_one acc) (by simp [vals]; omega)).mono fun e w' ⟨h1, h2, h3, _⟩ =>
    ⟨h1, by simpa [vals] using h2, h.2.trans h3⟩
theorem Bf.fresh (w : World) : Bf w (w.alloc (.cells #[.slice none 0 0, .int .i64 0, .int .i8 0] 78)) [] := ⟨Lib.fresh_isBuffer 78 5 w, (Below.refl _ _).alloc (Nat.le_refl _) _⟩

end Go.Proofs.YtgemkjickljedaaGreatDoor.Lit
