/- What the bytes of a name are. Conditions: none. -/
import Derived.Test.YtgemkjickljedaaGreatDoorHexP
namespace Go.Proofs.YtgemkjickljedaaGreatDoor
open Go.Lib

/-- The byte that two digits are worth. -/
def two (a b : UInt8) : UInt8 := UInt8.ofNat (Hx.v a * 16 + Hx.v b)

/-- The bytes of a name as it is written; none: a # stands in it without two digits that are not 00. -/
def nm : List UInt8 → Option (List UInt8)
  | [] => some []
  | [c] => if c = 35 then none else some [c]
  | [c, d] => if c = 35 then none else (nm [d]).map (c :: ·)
  | c :: a :: b :: t => if c = 35 then (if hv a < 0 ∨ hv b < 0 ∨ 16 * hv a + hv b = 0 then none else (nm t).map (two a b :: ·)) else (nm (a :: b :: t)).map (c :: ·)

theorem nm_plain {c : UInt8} (h : c ≠ 35) : ∀ t, nm (c :: t) = (nm t).map (c :: ·)
  | [] => by simp [nm, h]
  | [d] => by simp [nm, h]
  | a :: b :: t => by rw [nm]; simp [h]
theorem nm_short {l : List UInt8} (h : l.length < 3) (h0 : l[0]? = some 35) : nm l = none := by
  match l, h, h0 with
  | [c], _, h0 => simp at h0; subst h0; simp [nm]
  | [c, d], _, h0 => simp at h0; subst h0; simp [nm]
theorem nm_bad {a b : UInt8} (t : List UInt8) (h : hv a < 0 ∨ hv b < 0 ∨ 16 * hv a + hv b = 0) : nm (35 :: a :: b :: t) = none := by rw [nm, if_pos rfl, if_pos h]
theorem nm_two {a b : UInt8} (t : List UInt8) (h : ¬ (hv a < 0 ∨ hv b < 0 ∨ 16 * hv a + hv b = 0)) : nm (35 :: a :: b :: t) = (nm t).map (two a b :: ·) := by rw [nm, if_pos rfl, if_neg h]

/-- i bytes have been read; they are out. -/
def Mid (l : List UInt8) (i : Nat) (out : List UInt8) : Prop := nm l = (nm (l.drop i)).map (out ++ ·)
theorem Mid.zero (l : List UInt8) : Mid l 0 [] := by unfold Mid; simp
theorem drop1 {l : List UInt8} {i : Nat} {c : UInt8} (h : l[i]? = some c) : l.drop i = c :: l.drop (i + 1) := by
  obtain ⟨h1, e⟩ := List.getElem?_eq_some_iff.1 h
  rw [List.drop_eq_getElem_cons h1, e]
theorem Mid.plain {l : List UInt8} {i : Nat} {out : List UInt8} (h : Mid l i out) {c : UInt8} (hc : l[i]? = some c) (h35 : c ≠ 35) : Mid l (i + 1) (out ++ [c]) := by
  unfold Mid at h ⊢
  rw [drop1 hc, nm_plain h35] at h
  rw [h, Option.map_map]
  congr 1
  funext x; simp
theorem Mid.short {l : List UInt8} {i : Nat} {out : List UInt8} (h : Mid l i out) (hc : l[i]? = some 35) (hs : l.length ≤ i + 2) : nm l = none := by
  unfold Mid at h
  rw [nm_short (l := l.drop i) (by rw [List.length_drop]; omega) (by rw [List.getElem?_drop]; simpa using hc)] at h
  simpa using h
theorem Mid.bad {l : List UInt8} {i : Nat} {out : List UInt8} (h : Mid l i out) (hc : l[i]? = some 35) {a b : UInt8} (ha : l[i + 1]? = some a) (hb : l[i + 2]? = some b) (hx : hv a < 0 ∨ hv b < 0 ∨ 16 * hv a + hv b = 0) : nm l = none := by
  unfold Mid at h
  rw [drop1 hc, drop1 ha, drop1 hb, nm_bad _ hx] at h
  simpa using h
theorem Mid.two {l : List UInt8} {i : Nat} {out : List UInt8} (h : Mid l i out) (hc : l[i]? = some 35) {a b : UInt8} (ha : l[i + 1]? = some a) (hb : l[i + 2]? = some b) (hx : ¬ (hv a < 0 ∨ hv b < 0 ∨ 16 * hv a + hv b = 0)) :
    Mid l (i + 3) (out ++ [two a b]) := by
  unfold Mid at h ⊢
  rw [drop1 hc, drop1 ha, drop1 hb, nm_two _ hx] at h
  rw [h, Option.map_map]
  congr 1
  funext x; simp
theorem Mid.done {l : List UInt8} {out : List UInt8} (h : Mid l l.length out) : nm l = some out := by
  unfold Mid at h
  simpa [nm] using h

def nmS (l : List UInt8) : ByteArray := match nm l with | some o => ⟨o.toArray⟩ | none => ⟨#[]⟩
def nmB (l : List UInt8) : Bool := (nm l).isSome
def nz (l : List UInt8) : Bool := l.all (· != 0)
theorem nmS_some {l o : List UInt8} (h : nm l = some o) : nmS l = ⟨o.toArray⟩ ∧ nmB l = true := by simp [nmS, nmB, h]
theorem nmS_none {l : List UInt8} (h : nm l = none) : nmS l = ⟨#[]⟩ ∧ nmB l = false := by simp [nmS, nmB, h]
theorem nz_not {l : List UInt8} {i : Nat} (h : l[i]? = some 0) : nz l = false := by
  cases e : nz l with
  | false => rfl
  | true =>
    have := List.all_eq_true.1 e 0 (List.mem_of_getElem? h)
    simp at this

theorem u8_of {c : UInt8} {n : Nat} (hn : n < 256) (h : c.toNat = n) : c = UInt8.ofNat n := by
  apply UInt8.toNat_inj.1
  rw [h, UInt8.toNat_ofNat']
  omega
theorem vals_snoc (l : List UInt8) (c : UInt8) : vals (l ++ [c]) = vals l ++ [.int .u8 (c.toNat : Int)] := by simp [vals]

end Go.Proofs.YtgemkjickljedaaGreatDoor
