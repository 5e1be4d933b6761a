/- The code points that UTF-16BE is. Conditions: none. -/
import Derived.Test.YtgemkjickljedaaGreatDoorNmP
import Derived.Lib.RuneBytes
import Derived.Laws.Bits64b
namespace Go.Proofs.YtgemkjickljedaaGreatDoor
open Go.Lib

/-- The bytes of a code point in UTF-8. -/
def bl (b : ByteArray) : List UInt8 := b.data.toList
theorem bl_mk (l : List UInt8) : bl ⟨l.toArray⟩ = l := rfl
def enc (c : Nat) : List UInt8 := bl (Utf8.encode (c : Int))
def encs (l : List Nat) : List UInt8 := l.flatMap enc
theorem encs_snoc (l : List Nat) (c : Nat) : encs (l ++ [c]) = encs l ++ enc c := by simp [encs]

theorem utf8_one {c : Nat} (h : c < 128) : Utf8.encode (c : Int) = ⟨#[UInt8.ofNat c]⟩ := by
  have hv : Utf8.valid (c : Int) = true := by simp [Utf8.valid]; omega
  simp [Utf8.encode, hv, h]
theorem utf8_two {c : Nat} (h1 : ¬ c < 128) (h : c < 2048) : Utf8.encode (c : Int) = ⟨#[UInt8.ofNat (192 + c / 64), UInt8.ofNat (128 + c % 64)]⟩ := by
  have hv : Utf8.valid (c : Int) = true := by simp [Utf8.valid]; omega
  simp [Utf8.encode, hv, h, h1]
theorem utf8_three {c : Nat} (h1 : ¬ c < 128) (h2 : ¬ c < 2048) (h : c < 65536) (hs : c < 55296 ∨ 57343 < c) : Utf8.encode (c : Int) = ⟨#[UInt8.ofNat (224 + c / 4096), UInt8.ofNat (128 + c / 64 % 64), UInt8.ofNat (128 + c % 64)]⟩ := by
  have hv : Utf8.valid (c : Int) = true := by simp [Utf8.valid]; omega
  simp [Utf8.encode, hv, h, h1, h2]
theorem utf8_four {c : Nat} (h : ¬ c < 65536) (hs : c ≤ 1114111) : Utf8.encode (c : Int) = ⟨#[UInt8.ofNat (240 + c / 262144), UInt8.ofNat (128 + c / 4096 % 64), UInt8.ofNat (128 + c / 64 % 64), UInt8.ofNat (128 + c % 64)]⟩ := by
  have hv : Utf8.valid (c : Int) = true := by simp [Utf8.valid]; omega
  have h1 : ¬ c < 128 := by omega
  have h2 : ¬ c < 2048 := by omega
  simp [Utf8.encode, hv, h, h1, h2]

theorem mod_byte {n : Nat} {z : Int} (h : n < 256) (e : (n : Int) = z) : ((UInt8.ofNat n).toNat : Int) = z := by
  rw [UInt8.toNat_ofNat', Nat.mod_eq_of_lt (by omega), e]

theorem enc_of {c : Nat} {l : List UInt8} (h : Utf8.encode (c : Int) = ⟨l.toArray⟩) : enc c = l := (congrArg bl h).trans (bl_mk l)
theorem cells_of {c : Nat} {l : List UInt8} {zs : List Int} (h : encodeRuneZ (c : Int) = zs) (e : enc c = l) (hz : zs = l.map fun b => (b.toNat : Int)) : runeCells (c : Int) = vals (enc c) := by
  unfold runeCells vals
  rw [h, e, hz, List.map_map]
  rfl
theorem list_one {a : UInt8} {x : Int} (h : (a.toNat : Int) = x) : [x] = [a].map fun b => (b.toNat : Int) := by rw [← h]; rfl
theorem list_cons {a : UInt8} {x : Int} {l : List UInt8} {xs : List Int} (h : (a.toNat : Int) = x) (e : xs = l.map fun b => (b.toNat : Int)) : x :: xs = (a :: l).map fun b => (b.toNat : Int) := by rw [← h, e]; rfl
theorem rc_one (c : Nat) (h1 : c < 128) : runeCells (c : Int) = vals (enc c) :=
  cells_of (encodeRuneZ_one (by omega) (by omega)) (enc_of (utf8_one h1)) (list_one (mod_byte (by omega) rfl))
theorem rc_two (c : Nat) (h1 : ¬ c < 128) (h2 : c < 2048) : runeCells (c : Int) = vals (enc c) :=
  cells_of (encodeRuneZ_two (by omega) (by omega)) (enc_of (utf8_two h1 h2)) (list_cons (mod_byte (by omega) (by omega)) (list_one (mod_byte (by omega) (by omega))))
theorem rc_three (c : Nat) (h1 : ¬ c < 128) (h2 : ¬ c < 2048) (h3 : c < 65536) (hs : c < 55296 ∨ 57343 < c) : runeCells (c : Int) = vals (enc c) :=
  cells_of (encodeRuneZ_three (by omega)) (enc_of (utf8_three h1 h2 h3 hs)) (list_cons (mod_byte (by omega) (by omega)) (list_cons (mod_byte (by omega) (by omega)) (list_one (mod_byte (by omega) (by omega)))))
theorem rc_four (c : Nat) (h3 : ¬ c < 65536) (hs : c ≤ 1114111) : runeCells (c : Int) = vals (enc c) :=
  cells_of (encodeRuneZ_four (by omega) (by omega)) (enc_of (utf8_four h3 hs)) (list_cons (mod_byte (by omega) (by omega)) (list_cons (mod_byte (by omega) (by omega)) (list_cons (mod_byte (by omega) (by omega)) (list_one (mod_byte (by omega) (by omega))))))
/-- Of code points that are no surrogates. -/
theorem runeCells_enc (c : Nat) (hs : c < 55296 ∨ (57343 < c ∧ c ≤ 1114111)) : runeCells (c : Int) = vals (enc c) := by
  by_cases h1 : c < 128
  · exact rc_one c h1
  · by_cases h2 : c < 2048
    · exact rc_two c h1 h2
    · by_cases h3 : c < 65536
      · exact rc_three c h1 h2 h3 (by omega)
      · exact rc_four c h3 (by omega)

def un (a b : UInt8) : Nat := 256 * a.toNat + b.toNat
def bmp (u : Nat) : Prop := u < 55296 ∨ 57343 < u
instance (u : Nat) : Decidable (bmp u) := by unfold bmp; infer_instance
def pair (u v : Nat) : Nat := 65536 + (u - 55296) * 1024 + (v - 56320)
/-- u and v are no surrogates in a row. -/
def lone (u v : Nat) : Prop := 56319 < u ∨ v < 56320 ∨ 57343 < v
instance (u v : Nat) : Decidable (lone u v) := by unfold lone; infer_instance

/-- The code points of bytes behind the mark. -/
def nar : List UInt8 → Option (List Nat)
  | [] => some []
  | [_] => none
  | [a, b] => if bmp (un a b) then some [un a b] else none
  | [_, _, _] => none
  | a :: b :: c :: d :: t => if bmp (un a b) then (nar (c :: d :: t)).map (un a b :: ·) else if lone (un a b) (un c d) then none else (nar t).map (pair (un a b) (un c d) :: ·)

theorem nar_bmp {a b : UInt8} (h : bmp (un a b)) : ∀ t : List UInt8, t.length % 2 = 0 → nar (a :: b :: t) = (nar t).map (un a b :: ·)
  | [], _ => by simp [nar, h]
  | [_], h1 => by simp at h1
  | c :: d :: t, _ => by rw [nar]; simp [h]
theorem nar_end {a b : UInt8} (h : ¬ bmp (un a b)) : nar [a, b] = none := by simp [nar, h]
theorem nar_lone {a b c d : UInt8} (t : List UInt8) (h : ¬ bmp (un a b)) (h2 : lone (un a b) (un c d)) : nar (a :: b :: c :: d :: t) = none := by rw [nar, if_neg h, if_pos h2]
theorem nar_pair {a b c d : UInt8} (t : List UInt8) (h : ¬ bmp (un a b)) (h2 : ¬ lone (un a b) (un c d)) : nar (a :: b :: c :: d :: t) = (nar t).map (pair (un a b) (un c d) :: ·) := by rw [nar, if_neg h, if_neg h2]

def marked (l : List UInt8) : Bool := match l with | a :: b :: _ => a == 254 && b == 255 | _ => false
/-- The text of UTF-16BE behind its mark. -/
def narO (l : List UInt8) : Option (List Nat) := if marked l = true ∧ l.length % 2 = 0 then nar (l.drop 2) else none
def narS (l : List UInt8) : ByteArray := match narO l with | some o => ⟨(encs o).toArray⟩ | none => ⟨#[]⟩
def narB (l : List UInt8) : Bool := (narO l).isSome

/-- i bytes have been read. -/
def MidU (l : List UInt8) (i : Nat) (out : List Nat) : Prop := nar (l.drop 2) = (nar (l.drop i)).map (out ++ ·)
theorem MidU.zero (l : List UInt8) : MidU l 2 [] := by unfold MidU; simp
theorem MidU.plain {l : List UInt8} {i : Nat} {out : List Nat} (h : MidU l i out) (he : l.length % 2 = 0) (hi : i % 2 = 0) {a b : UInt8} (ha : l[i]? = some a) (hb : l[i + 1]? = some b) (hx : bmp (un a b)) : MidU l (i + 2) (out ++ [un a b]) := by
  unfold MidU at h ⊢
  rw [drop1 ha, drop1 hb, nar_bmp hx _ (by rw [List.length_drop]; omega)] at h
  rw [h, Option.map_map]
  congr 1
  funext x; simp
theorem MidU.short {l : List UInt8} {i : Nat} {out : List Nat} (h : MidU l i out) {a b : UInt8} (ha : l[i]? = some a) (hb : l[i + 1]? = some b) (hx : ¬ bmp (un a b)) (hl : l.length = i + 2) : nar (l.drop 2) = none := by
  unfold MidU at h
  rw [drop1 ha, drop1 hb, show l.drop (i + 1 + 1) = [] from List.drop_eq_nil_of_le (by omega), nar_end hx] at h
  simpa using h
theorem MidU.single {l : List UInt8} {i : Nat} {out : List Nat} (h : MidU l i out) {a b c d : UInt8} (ha : l[i]? = some a) (hb : l[i + 1]? = some b) (hc : l[i + 2]? = some c) (hd : l[i + 3]? = some d) (hx : ¬ bmp (un a b)) (hy : lone (un a b) (un c d)) : nar (l.drop 2) = none := by
  unfold MidU at h
  rw [drop1 ha, drop1 hb, drop1 hc, drop1 hd, nar_lone _ hx hy] at h
  simpa using h
theorem MidU.double {l : List UInt8} {i : Nat} {out : List Nat} (h : MidU l i out) {a b c d : UInt8} (ha : l[i]? = some a) (hb : l[i + 1]? = some b) (hc : l[i + 2]? = some c) (hd : l[i + 3]? = some d) (hx : ¬ bmp (un a b)) (hy : ¬ lone (un a b) (un c d)) :
    MidU l (i + 4) (out ++ [pair (un a b) (un c d)]) := by
  unfold MidU at h ⊢
  rw [drop1 ha, drop1 hb, drop1 hc, drop1 hd, nar_pair _ hx hy] at h
  rw [h, Option.map_map]
  congr 1
  funext x; simp
theorem MidU.done {l : List UInt8} {out : List Nat} (h : MidU l l.length out) : nar (l.drop 2) = some out := by
  unfold MidU at h
  simpa [nar] using h

theorem narS_none {l : List UInt8} (h : narO l = none) : narS l = ⟨#[]⟩ ∧ narB l = false := by simp [narS, narB, h]
theorem narS_some {l : List UInt8} {o : List Nat} (h : narO l = some o) : narS l = ⟨(encs o).toArray⟩ ∧ narB l = true := by simp [narS, narB, h]

/-- A byte beside another. -/
theorem or64 (a b : Nat) (ha : a < 256) (hb : b < 256) : bits .or .i64 ((a : Int) * 256) (b : Int) = ((256 * a + b : Nat) : Int) := by
  have e : ((a : Int) * 256) = ((256 * a : Nat) : Int) := by omega
  have h1 : (BitVec.ofInt 64 ((256 * a : Nat) : Int)).toNat = 256 * a := by
    rw [BitVec.ofInt_natCast, BitVec.toNat_ofNat]; exact Nat.mod_eq_of_lt (by omega)
  have h2 : (BitVec.ofInt 64 (b : Int)).toNat = b := by
    rw [BitVec.ofInt_natCast, BitVec.toNat_ofNat]; exact Nat.mod_eq_of_lt (by omega)
  have h3 : 256 * a ||| b = 256 * a + b := (Nat.two_pow_add_eq_or_of_lt (i := 8) (by omega) a).symm
  rw [e]
  show IntKind.i64.wrap ((BitVec.ofInt 64 ((256 * a : Nat) : Int) ||| BitVec.ofInt 64 (b : Int)).toNat : Int) = _
  rw [BitVec.toNat_or, h1, h2, h3, IntKind.wrap_i64]
  omega

theorem enc_bl {u : Nat} {E : ByteArray} (h : Utf8.encode (u : Int) = E) : bl E = enc u := (congrArg bl h).symm
theorem size_of {b : ByteArray} {l : List UInt8} (h : b = ⟨l.toArray⟩) (hl : l.length ≤ 4) : b.size ≤ 4 := by
  rw [h]; show l.toArray.size ≤ 4; simpa using hl
theorem enc_len (c : Nat) (hs : c < 55296 ∨ (57343 < c ∧ c ≤ 1114111)) : (Utf8.encode (c : Int)).size ≤ 4 := by
  by_cases h1 : c < 128
  · exact size_of (l := [UInt8.ofNat c]) (utf8_one h1) (by simp)
  · by_cases h2 : c < 2048
    · exact size_of (l := [UInt8.ofNat (192 + c / 64), UInt8.ofNat (128 + c % 64)]) (utf8_two h1 h2) (by simp)
    · by_cases h3 : c < 65536
      · exact size_of (l := [UInt8.ofNat (224 + c / 4096), UInt8.ofNat (128 + c / 64 % 64), UInt8.ofNat (128 + c % 64)]) (utf8_three h1 h2 h3 (by omega)) (by simp)
      · exact size_of (l := [UInt8.ofNat (240 + c / 262144), UInt8.ofNat (128 + c / 4096 % 64), UInt8.ofNat (128 + c / 64 % 64), UInt8.ofNat (128 + c % 64)]) (utf8_four h3 (by omega)) (by simp)

end Go.Proofs.YtgemkjickljedaaGreatDoor
