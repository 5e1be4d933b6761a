/- Digits with zeros ahead of them, and what they are read as. Conditions: none. -/
import Derived.Lib.ItoaMem
import Derived.Lib.AtoiAll
import Derived.Lib.ParseIntB
namespace Go.Proofs.YtnpedhdonfdbmaaDoor
open Go.Lib

/-- So many digits, zeros ahead. -/
def pad (d u : Nat) : List UInt8 := List.replicate (d - (decDigits u).length) 48 ++ decDigits u

theorem nDigits_le {u k : Nat} (h : u < 10 ^ (k + 1)) : nDigits u ≤ k + 1 := by
  induction k generalizing u with
  | zero => rw [nDigits_small (by simpa using h)]; omega
  | succ k ih =>
    by_cases h1 : u < 10
    · rw [nDigits_small h1]; omega
    · rw [nDigits_big h1]
      have := ih (u := u / 10) (by rw [Nat.pow_succ] at h; omega)
      omega
theorem pad_len {d u : Nat} (h : u < 10 ^ d) (hd : 1 ≤ d) : (pad d u).length = d := by
  obtain ⟨k, rfl⟩ : ∃ k, d = k + 1 := ⟨d - 1, by omega⟩
  have := nDigits_le h
  rw [← decDigits_length] at this
  unfold pad
  rw [List.length_append, List.length_replicate]; omega

theorem uintM_app (M : Nat) (b : List UInt8) : ∀ (a : List UInt8) (acc x : Nat), parseUintM M acc a = .ok x → parseUintM M acc (a ++ b) = parseUintM M x b
  | [], acc, x, h => by simp only [parseUintM] at h; cases h; rfl
  | c :: t, acc, x, h => by
    rw [List.cons_append]
    simp only [parseUintM] at h ⊢
    split at h
    · rename_i h1
      rw [if_pos h1]
      split at h
      · cases h
      · rename_i h2
        rw [if_neg h2]
        split at h
        · cases h
        · rename_i h3
          rw [if_neg h3]
          exact uintM_app M b t _ x h
    · cases h
theorem uintM_zeros (M : Nat) : ∀ k, parseUintM M 0 (List.replicate k 48) = .ok 0
  | 0 => rfl
  | k + 1 => by
    rw [List.replicate_succ, parseUintM, if_pos (by decide), if_neg (by omega), if_neg (by simp)]
    exact uintM_zeros M k
theorem uintM_digits (M : Nat) : ∀ u, u ≤ M → u < 1844674407370955162 → parseUintM M 0 (decDigits u) = .ok u := by
  intro u
  induction u using Nat.strongRecOn with
  | _ u ih =>
    intro hM hb
    rw [decDigits]
    split
    · rename_i h
      have e : (UInt8.ofNat (48 + u)).toNat = 48 + u := by rw [UInt8.toNat_ofNat']; omega
      simp only [parseUintM, e]
      rw [if_pos (by omega), if_neg (by omega), if_neg (by omega)]
      congr 1; omega
    · rename_i h
      rw [uintM_app M _ _ _ _ (ih (u / 10) (by omega) (by omega) (by omega))]
      have e : (UInt8.ofNat (48 + u % 10)).toNat = 48 + u % 10 := by rw [UInt8.toNat_ofNat']; omega
      simp only [parseUintM, e]
      rw [if_pos (by omega), if_neg (by omega), if_neg (by omega)]
      congr 1; omega
theorem uintM_pad (M d u : Nat) (h : u ≤ M) (hb : u < 1844674407370955162) : parseUintM M 0 (pad d u) = .ok u := by
  unfold pad
  rw [uintM_app M _ _ _ _ (uintM_zeros M _)]
  exact uintM_digits M u h hb

theorem uint10_app (b : List UInt8) : ∀ (a : List UInt8) (acc x : Nat), parseUint10 acc a = .ok x → parseUint10 acc (a ++ b) = parseUint10 x b
  | [], acc, x, h => by simp only [parseUint10] at h; cases h; rfl
  | c :: t, acc, x, h => by
    rw [List.cons_append]
    simp only [parseUint10] at h ⊢
    split at h
    · rename_i h1
      rw [if_pos h1]
      split at h
      · cases h
      · rename_i h2
        rw [if_neg h2]
        split at h
        · cases h
        · rename_i h3
          rw [if_neg h3]
          exact uint10_app b t _ x h
    · cases h
theorem uint10_zeros : ∀ k, parseUint10 0 (List.replicate k 48) = .ok 0
  | 0 => rfl
  | k + 1 => by
    rw [List.replicate_succ, parseUint10, if_pos (by decide), if_neg (by omega), if_neg (by decide)]
    exact uint10_zeros k
theorem uint10_digits : ∀ u, u < 1844674407370955162 → parseUint10 0 (decDigits u) = .ok u := by
  intro u
  induction u using Nat.strongRecOn with
  | _ u ih =>
    intro hb
    rw [decDigits]
    split
    · rename_i h
      have e : (UInt8.ofNat (48 + u)).toNat = 48 + u := by rw [UInt8.toNat_ofNat']; omega
      simp only [parseUint10, e]
      rw [if_pos (by omega), if_neg (by omega), if_neg (by omega)]
      congr 1; omega
    · rename_i h
      rw [uint10_app _ _ _ _ (ih (u / 10) (by omega) (by omega))]
      have e : (UInt8.ofNat (48 + u % 10)).toNat = 48 + u % 10 := by rw [UInt8.toNat_ofNat']; omega
      simp only [parseUint10, e]
      rw [if_pos (by omega), if_neg (by omega), if_neg (by omega)]
      congr 1; omega
theorem uint10_pad (d u : Nat) (hb : u < 1844674407370955162) : parseUint10 0 (pad d u) = .ok u := by
  unfold pad
  rw [uint10_app _ _ _ _ (uint10_zeros _)]
  exact uint10_digits u hb

/-- The first sign is a digit. -/
theorem dec_head : ∀ u, ∃ c t, decDigits u = c :: t ∧ 48 ≤ c.toNat ∧ c.toNat ≤ 57 := by
  intro u
  induction u using Nat.strongRecOn with
  | _ u ih =>
    rw [decDigits]
    split
    · rename_i h
      exact ⟨_, _, rfl, by rw [UInt8.toNat_ofNat']; omega, by rw [UInt8.toNat_ofNat']; omega⟩
    · rename_i h
      obtain ⟨c, t, e, h1, h2⟩ := ih (u / 10) (by omega)
      exact ⟨c, _, by rw [e]; rfl, h1, h2⟩
theorem pad_head (d u : Nat) : ∃ c t, pad d u = c :: t ∧ 48 ≤ c.toNat ∧ c.toNat ≤ 57 := by
  unfold pad
  obtain ⟨c, t, e, h1, h2⟩ := dec_head u
  cases hk : d - (decDigits u).length with
  | zero => exact ⟨c, t, by rw [e]; rfl, h1, h2⟩
  | succ k => exact ⟨48, _, by rw [List.replicate_succ]; rfl, by decide, by decide⟩

theorem int_pad (d u : Nat) (h : u < 1844674407370955162) : parseIntB 64 (pad d u) = .ok (u : Int) := by
  obtain ⟨c, t, e, h1, h2⟩ := pad_head d u
  have hp := uintM_pad (2 ^ 64 - 1) d u (by omega) h
  rw [e] at hp ⊢
  have a1 : ¬ (c.toNat = 43 ∨ c.toNat = 45) := by omega
  have a2 : ¬ c.toNat = 45 := by omega
  simp only [parseIntB, parseUintB, if_neg a1]
  rw [if_neg (List.cons_ne_nil c t), hp]
  simp only [if_neg a2]
  rw [if_neg (by omega), if_neg (by omega)]
theorem atoi_pad (d u : Nat) (h : u < 1844674407370955162) : atoiAll (pad d u) = .ok (u : Int) := by
  obtain ⟨c, t, e, h1, h2⟩ := pad_head d u
  have hp := uint10_pad d u h
  rw [e] at hp ⊢
  have a1 : ¬ (c.toNat = 43 ∨ c.toNat = 45) := by omega
  have a2 : ¬ c.toNat = 45 := by omega
  simp only [atoiAll, parseMag, if_neg a1]
  rw [if_neg (List.cons_ne_nil c t), hp]
  simp only [if_neg a2]
  rw [if_neg (by omega), if_neg (by omega)]

end Go.Proofs.YtnpedhdonfdbmaaDoor
