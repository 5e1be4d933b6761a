/- Hexadecimal digits and what they are worth, and small facts on bytes in memory. Conditions: none. -/
import Derived.Lib.HexFns2
import Derived.Test.YtgemkjickljedaaGreatDoorRows
import Derived.WalkKit
import Derived.ProofKit
import Derived.Below
import Derived.Laws.BytesArg
import Derived.Laws.BytesString
namespace Go.Proofs.YtgemkjickljedaaGreatDoor
open Go.Lib

/-- What a byte is worth as a digit; -1: it is none. -/
def hv (c : UInt8) : Int :=
  if 48 ≤ c.toNat ∧ c.toNat ≤ 57 then (c.toNat : Int) - 48 else if 97 ≤ c.toNat ∧ c.toNat ≤ 102 then (c.toNat : Int) - 87 else if 65 ≤ c.toNat ∧ c.toNat ≤ 70 then (c.toNat : Int) - 55 else -1

theorem hv_all : ∀ n, n < 256 → (0 ≤ hv (UInt8.ofNat n) → hv (UInt8.ofNat n) = Hx.v (UInt8.ofNat n) ∧ Hx.v (UInt8.ofNat n) ≤ 15) ∧ (hv (UInt8.ofNat n) < 0 → hv (UInt8.ofNat n) = -1 ∧ 15 < Hx.v (UInt8.ofNat n)) := by decide +kernel
theorem byte_ofNat (c : UInt8) : UInt8.ofNat c.toNat = c := by simp
theorem hv_is (c : UInt8) (h : 0 ≤ hv c) : hv c = Hx.v c ∧ Hx.v c ≤ 15 := by
  have := (hv_all c.toNat c.toNat_lt).1; rw [byte_ofNat] at this; exact this h
theorem hv_not (c : UInt8) (h : hv c < 0) : hv c = -1 ∧ 15 < Hx.v c := by
  have := (hv_all c.toNat c.toNat_lt).2; rw [byte_ofNat] at this; exact this h
theorem hv_digit : ∀ d, d < 16 → 0 ≤ hv (Hx.digit d) ∧ Hx.v (Hx.digit d) = d := by decide +kernel

def AllHex (l : List UInt8) : Prop := ∀ c ∈ l, 0 ≤ hv c

/-- The first m bytes that digits are worth, two digits a byte. -/
def decg (g : Nat → UInt8) (m : Nat) : List UInt8 := (List.range m).map fun j => UInt8.ofNat (Hx.v (g (2 * j)) * 16 + Hx.v (g (2 * j + 1)))
theorem decg_succ (g : Nat → UInt8) (m : Nat) : decg g (m + 1) = decg g m ++ [UInt8.ofNat (Hx.v (g (2 * m)) * 16 + Hx.v (g (2 * m + 1)))] := by simp [decg, List.range_succ]
theorem decg_len (g : Nat → UInt8) (m : Nat) : (decg g m).length = m := by simp [decg]
theorem decg_shift (g : Nat → UInt8) (m : Nat) : decg g (m + 1) = UInt8.ofNat (Hx.v (g 0) * 16 + Hx.v (g 1)) :: decg (fun k => g (k + 2)) m := by
  simp only [decg, List.range_succ_eq_map, List.map_cons, List.map_map]
  rfl

/-- An even number of digits: what hex.Decode answers. -/
theorem decode_is : ∀ (l : List UInt8), AllHex l → l.length % 2 = 0 → Hx.decode l = (decg (fun k => l[k]?.getD 0) (l.length / 2), .ok)
  | [], _, _ => by simp [Hx.decode_nil, decg]
  | [c], _, h => by simp at h
  | p :: q :: t, ha, h => by
    have hp := hv_is p (ha p (by simp))
    have hq := hv_is q (ha q (by simp))
    have ih := decode_is t (fun c hc => ha c (by simp [hc])) (by simp only [List.length_cons] at h; omega)
    rw [Hx.decode_two, if_neg (by omega), if_neg (by omega), ih]
    rw [show (p :: q :: t).length / 2 = t.length / 2 + 1 by simp only [List.length_cons]; omega, decg_shift]
    simp

theorem encode_hex (l : List UInt8) : AllHex (Hx.encode l) := by
  induction l with
  | nil => intro c hc; simp [Hx.encode] at hc
  | cons a t ih =>
    rw [Hx.encode_cons]
    have := a.toNat_lt
    intro c hc
    simp only [List.mem_cons] at hc
    rcases hc with rfl | rfl | hc
    · exact (hv_digit _ (by omega)).1
    · exact (hv_digit _ (by omega)).1
    · exact ih c hc

theorem decode_encode (l : List UInt8) : Hx.decode (Hx.encode l) = (l, .ok) := by
  induction l with
  | nil => exact Hx.decode_nil
  | cons a t ih =>
    have := a.toNat_lt
    have h1 := hv_digit (a.toNat / 16) (by omega)
    have h2 := hv_digit (a.toNat % 16) (by omega)
    have e1 := hv_is _ h1.1
    have e2 := hv_is _ h2.1
    rw [Hx.encode_cons, Hx.decode_two, if_neg (by omega), if_neg (by omega), ih, h1.2, h2.2]
    rw [show a.toNat / 16 * 16 + a.toNat % 16 = a.toNat by omega, byte_ofNat]

theorem str_ext {a b : ByteArray} (h : a.data.toList = b.data.toList) : a = b := by
  cases a; cases b; simp_all

theorem get_of {s : ByteArray} {k : Nat} (h : k < s.size) : s.data.toList[k]? = some s[k] := by
  rw [List.getElem?_eq_getElem (by simpa using h), Array.getElem_toList]; rfl

/-- string(b), the bytes' cells at whatever address. -/
theorem conv_at (w : World) (src e : TypeId) (hs : Tryz.prog.underlying src = some (.slice e)) (he : Tryz.prog.underlying e = some (.int .u8)) (a : Addr) (n c : Nat) (xs : List Int) (hx : xs.length = n)
    (hc : ∀ i, i < n → w.cell? (a.add i) = some (.int .u8 (xs.getD i 0))) (dst : TypeId) (hd : Tryz.prog.underlying dst = some .string) :
    (convert src dst (.slice (some a) n c)).run Tryz.prog w = .ok (.string (strOfNums xs)) w := by
  have hl : (loadCells a n).run Tryz.prog w = .ok (xs.map (Value.int .u8)).toArray w := by
    have := run_loadCells_list (P := Tryz.prog) w a (xs.map (Value.int .u8)) (fun j v hj => by
      have hjl : j < xs.length := by
        rcases Nat.lt_or_ge j xs.length with h | h
        · exact h
        · simp [List.getElem?_eq_none (show (xs.map (Value.int .u8)).length ≤ j by simpa using h)] at hj
      rw [hc j (by omega)]
      simp [List.getElem?_eq_getElem hjl] at hj
      subst hj
      simp [List.getD, List.getElem?_eq_getElem hjl])
    simpa [hx] using this
  rw [run_convert_bytes_string w src dst e _ n c hs he hd, run_bytesToString w _ n c xs hl, foldl_push_bytes]
  simp [strOfNums, ByteArray.empty, ByteArray.emptyWithCapacity]
  rfl

/-- Bytes as values. -/
def vals (l : List UInt8) : List Value := l.map fun b => .int .u8 (b.toNat : Int)
def nums (l : List UInt8) : List Int := l.map fun b => (b.toNat : Int)
theorem str_nums (l : List UInt8) : strOfNums (nums l) = ⟨l.toArray⟩ := by
  apply str_ext
  rw [strOfNums_data, nums, List.map_map]
  have : ((fun n : Int => UInt8.ofNat n.toNat) ∘ fun b : UInt8 => (b.toNat : Int)) = id := by funext b; simp
  rw [this]; simp
theorem nums_getD (l : List UInt8) (i : Nat) : (nums l).getD i 0 = ((l[i]?.getD 0).toNat : Int) := by
  simp only [nums, List.getD, List.getElem?_map]
  cases l[i]? <;> simp

/-- string(b) where b is the call's own. -/
theorem conv_own {w : World} {B : Nat} {v : Value} {l : List UInt8} (h : w.ownsRow B 5 1 v l.length (vals l)) :
    (convert 43 9 v).run Tryz.prog w = .ok (.string ⟨l.toArray⟩) w := by
  rcases h.2 with ⟨rfl, h0⟩ | ⟨g, cap, cur, rfl, hg, hheap, hncap, hcm, hcs, htake⟩
  · have := run_convert_bytes_nil (P := Tryz.prog) w 43 5 Tryz.underlying43 Tryz.underlying5 0 0 9 Tryz.underlying9
    obtain rfl : l = [] := List.eq_nil_of_length_eq_zero h0
    rw [this]; rfl
  · have := conv_at w 43 5 Tryz.underlying43 Tryz.underlying5 ⟨g, 0, none⟩ l.length cap (nums l) (by simp [nums]) (fun i hi => by
      rw [Addr.add_lit, Nat.zero_add, cell_of_row _ g i cur 5 (0, 0) hheap]
      have h2 : (cur.toList.take (l.length * 1))[i]? = (vals l)[i]? := by rw [htake]
      rw [List.getElem?_take, if_pos (by omega), vals, List.getElem?_map, List.getElem?_eq_getElem hi] at h2
      rw [nums_getD, List.getElem?_eq_getElem hi]
      simpa using h2) 9 Tryz.underlying9
    rw [this, str_nums]

end Go.Proofs.YtgemkjickljedaaGreatDoor
