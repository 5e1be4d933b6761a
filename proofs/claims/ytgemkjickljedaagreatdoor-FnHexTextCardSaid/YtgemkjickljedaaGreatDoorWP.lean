/- What PDFDocEncoding's signs and UTF-8 are of plain bytes: laws with no program in sight. Conditions: none. -/
import Derived.Test.YtgemkjickljedaaGreatDoorWE
import Derived.Test.YtgemkjickljedaaGreatDoorXP
import Derived.Test.YtgemkjickljedaaGreatDoorVP
import Derived.Laws.Cover4
import Derived.Lib.ValidLaws
namespace Go.Proofs.YtgemkjickljedaaGreatDoor
open Go.Lib

/-- Bytes without a reverse solidus stand for themselves. -/
theorem un_plain : ∀ (l : List UInt8), l.any (· == 92) = false → Lit.un .n l = l
  | [], _ => rfl
  | c :: t, h => by
    simp only [List.any_cons, Bool.or_eq_false_iff] at h
    rw [Lit.un_n t (by intro e; rw [e] at h; exact absurd h.1 (by decide)), un_plain t h.2]

def high (c : UInt8) : Bool := decide (127 < c.toNat)
theorem valid_low {l : List UInt8} (h : l.any high = false) : validD l = true := by
  rw [validD_ascii l.length l (fun b hb => ?_), List.drop_length]
  · exact validD_nil
  · rw [List.take_length] at hb
    have := List.any_eq_false.1 h b hb
    unfold high at this
    simp at this
    omega

/-- The mark of UTF-8 is a sign by itself. -/
theorem valid_mark (r : List UInt8) : validD (239 :: 187 :: 191 :: r) = validD r := by
  rw [validD_lead _ (by simp) (by show 128 ≤ (239 : UInt8).toNat; decide)]
  have e : checkN (239 :: 187 :: 191 :: r).length ((239 :: 187 :: 191 :: r : List UInt8).getD 1 0).toNat ((239 :: 187 :: 191 :: r : List UInt8).getD 2 0).toNat ((239 :: 187 :: 191 :: r : List UInt8).getD 3 0).toNat
      (firstT ((239 :: 187 :: 191 :: r : List UInt8).getD 0 0).toNat % 8) (accLo (firstT ((239 :: 187 :: 191 :: r : List UInt8).getD 0 0).toNat / 16)) (accHi (firstT ((239 :: 187 :: 191 :: r : List UInt8).getD 0 0).toNat / 16)) = some 3 := by
    have h1 : firstT ((239 :: 187 :: 191 :: r : List UInt8).getD 0 0).toNat = 3 := by show firstT 239 = 3; decide
    rw [h1]
    have h2 : accLo (3 / 16) = 128 := by decide
    have h3 : accHi (3 / 16) = 191 := by decide
    rw [h2, h3]
    have h4 : ((239 :: 187 :: 191 :: r : List UInt8).getD 1 0).toNat = 187 := rfl
    have h5 : ((239 :: 187 :: 191 :: r : List UInt8).getD 2 0).toNat = 191 := rfl
    rw [h4, h5]
    unfold checkN
    simp
  rw [e]
  rfl

theorem dirty_ctl : ∀ c : Fin 256, dirty (UInt8.ofNat c.val) = false → ctl (UInt8.ofNat c.val) = false := by decide +kernel
theorem clean_ctl {l : List UInt8} (h : l.any dirty = false) : l.any ctl = false := by
  refine List.any_eq_false.2 fun b hb => ?_
  have h1 := List.any_eq_false.1 h b hb
  have h2 := dirty_ctl ⟨b.toNat, b.toNat_lt⟩
  have e : UInt8.ofNat b.toNat = b := by simp
  simp only [e] at h2
  simp [h2 (by simpa using h1)]

theorem sign_low : ∀ c : Fin 256, high (UInt8.ofNat c.val) = false → ctl (UInt8.ofNat c.val) = false → noSign (UInt8.ofNat c.val) = false → bl (Utf8.encode (sign c.val)) = [UInt8.ofNat c.val] := by decide +kernel
/-- Signs of ASCII stand for themselves. -/
theorem docB_low : ∀ (l : List UInt8), l.any high = false → l.any ctl = false → l.any noSign = false → docB l = l
  | [], _, _, _ => rfl
  | c :: t, h1, h2, h3 => by
    simp only [List.any_cons, Bool.or_eq_false_iff] at h1 h2 h3
    have h := sign_low ⟨c.toNat, c.toNat_lt⟩
    have e : UInt8.ofNat c.toNat = c := by simp
    simp only [e] at h
    have := docB_low t h1.2 h2.2 h3.2
    unfold docB at this ⊢
    rw [List.flatMap_cons, this, h h1.1 h2.1 h3.1]
    rfl

/-- The table's entry. -/
def tabE (n : Nat) : Option Int := if 24 ≤ n ∧ n ≤ 31 then some (lowS.getD (n - 24) 0) else if 128 ≤ n ∧ n ≤ 158 then some (highS.getD (n - 128) 0) else if n = 160 then some 8364 else none
theorem tabE_sign : ∀ n : Fin 256, noSign (UInt8.ofNat n.val) = false → (tabE n.val).getD (sign n.val) = sign n.val ∧ ((tabE n.val).isNone = true → sign n.val = n.val ∧ (n.val = 9 ∨ n.val = 10 ∨ n.val = 13 ∨ (32 ≤ n.val ∧ n.val ≤ 126) ∨ (161 ≤ n.val ∧ n.val ≠ 173))) := by decide +kernel

theorem foldl_enc (l : List UInt8) : ∀ s : ByteArray, ((l.map fun c => sign c.toNat).foldl (fun r n => r ++ Utf8.encode n) s).data.toList = s.data.toList ++ docB l := by
  induction l with
  | nil => intro s; simp [docB]
  | cons c t ih =>
    intro s
    rw [List.map_cons, List.foldl_cons, ih]
    simp [docB, bl]
/-- The runes' text. -/
theorem runes_doc (l : List UInt8) : Go.runesBytes (l.map fun c => sign c.toNat) = ⟨(docB l).toArray⟩ := by
  refine str_ext ?_
  unfold Go.runesBytes
  rw [foldl_enc]
  rfl

end Go.Proofs.YtgemkjickljedaaGreatDoor
