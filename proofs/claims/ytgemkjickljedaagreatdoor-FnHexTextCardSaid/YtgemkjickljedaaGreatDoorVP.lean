/- Text of UTF-8 is its code points. Conditions: none. -/
import Derived.Test.YtgemkjickljedaaGreatDoorUQ
import Derived.Lib.ValidU
import Derived.Lib.MapLaws
import Derived.Lib.TrimUEq
import Derived.Lib.QuoteLoop
import GoSem.Conv.StringToRunes
namespace Go.Proofs.YtgemkjickljedaaGreatDoor
open Go.Lib

/-- What is decoded of a text, code point by code point. -/
inductive Rs : List UInt8 → List Nat → Prop
  | nil : Rs [] []
  | cons {l : List UInt8} {c : Nat} {t : List Nat} (hne : l ≠ []) (hd : decodeL l = (c, (enc c).length)) (ho : okc c) (he : l = enc c ++ l.drop (enc c).length) (ht : Rs (l.drop (enc c).length) t) : Rs l (c :: t)

theorem okc_decode (l : List UInt8) : okc (decodeL l).1 := by
  have h := rune_valid (⟨l.toArray⟩ : ByteArray)
  have e : decodeL l = Utf8.decode ⟨l.toArray⟩ 0 := rfl
  rw [← e] at h
  have h' := h
  simp [Lib.validRune] at h'
  unfold okc
  omega

theorem vals_inj : ∀ {l : List UInt8} {zs : List Int}, (zs.map fun z => Value.int .u8 z) = vals l → zs.map (fun x => x.toNat.toUInt8) = l
  | [], [], _ => rfl
  | [], _ :: _, h => by simp [vals] at h
  | _ :: _, [], h => by simp [vals] at h
  | a :: l, z :: zs, h => by
    simp only [vals, List.map_cons, List.cons.injEq, Value.int.injEq, true_and] at h
    obtain ⟨rfl, h2⟩ := h
    simp only [List.map_cons]
    rw [vals_inj (l := l) (zs := zs) (by simpa [vals] using h2)]
    simp
theorem encodeRune_enc {c : Nat} (h : okc c) : encodeRune (c : Int) = enc c := by
  have h1 := runeCells_enc c h
  unfold runeCells at h1
  unfold encodeRune
  exact vals_inj h1

theorem enc_pos (c : Nat) (h : okc c) : 1 ≤ (enc c).length := by
  rw [← encodeRune_enc h]
  unfold encodeRune encodeRuneZ
  repeat' split
  all_goals simp

theorem valid_runes : ∀ (n : Nat) (l : List UInt8), l.length ≤ n → validGoD n l = true → ∃ cs, Rs l cs
  | 0, l, hl, _ => by
    have : l = [] := List.length_eq_zero_iff.1 (by omega)
    subst this; exact ⟨[], .nil⟩
  | n + 1, l, hl, hv => by
    by_cases hne : l = []
    · subst hne; exact ⟨[], .nil⟩
    · unfold validGoD at hv
      rw [if_neg hne] at hv
      by_cases hb : (decodeL l).1 = 65533 ∧ (decodeL l).2 = 1
      · rw [if_pos hb] at hv; cases hv
      · rw [if_neg hb] at hv
        have he := encode_decode l hne hb
        have hok := okc_decode l
        rw [encodeRune_enc hok] at he
        have hle := decodeL_le l hne
        have hlen : (enc (decodeL l).1).length = (decodeL l).2 := by rw [he, List.length_take]; omega
        have hw := decodeL_width l
        obtain ⟨t, ht⟩ := valid_runes n (l.drop (decodeL l).2) (by rw [List.length_drop]; omega) hv
        refine ⟨(decodeL l).1 :: t, .cons hne ?_ hok ?_ ?_⟩
        · rw [hlen]
        · rw [hlen, he, List.take_append_drop]
        · rw [hlen]; exact ht

theorem Rs.encs {l : List UInt8} {cs : List Nat} (h : Rs l cs) : encs cs = l := by
  induction h with
  | nil => rfl
  | cons hne hd ho he ht ih =>
    simp only [YtgemkjickljedaaGreatDoor.encs, List.flatMap_cons] at ih ⊢
    rw [ih]; exact he.symm
theorem Rs.ok {l : List UInt8} {cs : List Nat} (h : Rs l cs) : ∀ c ∈ cs, okc c := by
  induction h with
  | nil => intro c hc; cases hc
  | cons hne hd ho he ht ih =>
    intro c hc
    rcases List.mem_cons.1 hc with rfl | hc
    · exact ho
    · exact ih c hc
theorem Rs.len {l : List UInt8} {cs : List Nat} (h : Rs l cs) : cs.length ≤ l.length := by
  induction h with
  | nil => exact Nat.le_refl _
  | cons hne hd ho he ht ih =>
    have h1 := congrArg List.length he
    have h2 := enc_pos _ ho
    simp only [List.length_append, List.length_drop, List.length_cons] at h1 ih ⊢
    omega

theorem Rs.runes {s : ByteArray} : ∀ (bound i : Nat) (cs : List Nat) (acc : Array Value), Rs (s.data.toList.drop i) cs → (s.data.toList.drop i).length ≤ bound →
    Conv.runesFrom s bound i acc = acc ++ (vals32 cs).toArray := by
  intro bound
  induction bound with
  | zero =>
    intro i cs acc h hb
    have h1 := h.len
    have : cs = [] := List.length_eq_zero_iff.1 (by omega)
    subst this
    simp [Conv.runesFrom, vals32]
  | succ n ih =>
    intro i cs acc h hb
    obtain ⟨L, hL⟩ : ∃ L, s.data.toList.drop i = L := ⟨_, rfl⟩
    rw [hL] at h
    cases h with
    | nil =>
      have : ¬ i < s.size := fun hi => by
        have := congrArg List.length hL
        simp at this; omega
      simp [Conv.runesFrom, vals32, this]
    | @cons _ c t hne hd ho he ht =>
      have hi : i < s.size := by
        rcases Nat.lt_or_ge i s.size with h | h
        · exact h
        · exact absurd (hL.symm.trans (List.drop_eq_nil_of_le (by simpa using h))) hne
      subst hL
      rw [decodeL_drop] at hd
      have hp := enc_pos c ho
      rw [List.drop_drop] at ht
      rw [Conv.runesFrom, if_pos hi, hd]
      simp only
      rw [ih _ t _ ht (by rw [List.length_drop] at hb ⊢; omega)]
      simp [vals32]

/-- A text of UTF-8. -/
theorem valid_text (s : ByteArray) (h : validD s.data.toList = true) : ∃ cs, Rs s.data.toList cs ∧ encs cs = s.data.toList ∧ (∀ c ∈ cs, okc c) ∧ cs.length ≤ s.size ∧ Conv.runesFrom s s.size 0 #[] = (vals32 cs).toArray := by
  obtain ⟨cs, hr⟩ := valid_runes _ _ (Nat.le_refl _) h
  have hl := hr.len
  refine ⟨cs, hr, hr.encs, hr.ok, by simpa using hl, ?_⟩
  have := Rs.runes (s := s) s.size 0 cs #[] (by simpa using hr) (by simp)
  simpa using this

end Go.Proofs.YtgemkjickljedaaGreatDoor
