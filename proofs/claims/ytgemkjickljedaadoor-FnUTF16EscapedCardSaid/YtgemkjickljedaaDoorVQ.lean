/- UTF-16BE of code points is these code points. Conditions: none. -/
import Derived.Test.YtgemkjickljedaaDoorUR
import Derived.Test.YtgemkjickljedaaDoorVP
namespace Go.Proofs.YtgemkjickljedaaDoor
open Go.Lib

theorem un_be2 {u : Nat} (h : u < 65536) : un (UInt8.ofNat (u / 256)) (UInt8.ofNat (u % 256)) = u := by
  unfold un
  rw [UInt8.toNat_ofNat', UInt8.toNat_ofNat', Nat.mod_eq_of_lt (by omega), Nat.mod_eq_of_lt (by omega)]
  omega
theorem be2s_cons (u : Nat) (l : List Nat) : (u :: l).flatMap be2 = UInt8.ofNat (u / 256) :: UInt8.ofNat (u % 256) :: l.flatMap be2 := by simp [be2]
theorem be2s_len (l : List Nat) : (l.flatMap be2).length = 2 * l.length := by
  induction l with
  | nil => rfl
  | cons u t ih => rw [be2s_cons, List.length_cons, List.length_cons, ih, List.length_cons]; omega
theorem u16s_cons (c : Nat) (t : List Nat) : u16s (c :: t) = cunits c ++ u16s t := by simp [u16s]
theorem nar_units : ∀ (cs : List Nat), (∀ c ∈ cs, okc c) → nar ((u16s cs).flatMap be2) = some cs
  | [], _ => by simp [u16s, nar]
  | c :: t, h => by
    have ih := nar_units t fun x hx => h x (List.mem_cons_of_mem _ hx)
    have hc := h c List.mem_cons_self
    rw [u16s_cons]
    by_cases h1 : c < 65536
    · have hb : bmp c := by unfold okc at hc; unfold bmp; omega
      rw [u16_bmp h1, List.singleton_append, be2s_cons, nar_bmp (by rw [un_be2 h1]; exact hb) _ (by rw [be2s_len]; omega), ih, un_be2 h1]
      rfl
    · unfold okc at hc
      have hu : cunits c = [55296 + (c - 65536) / 1024, 56320 + (c - 65536) % 1024] := by simp [cunits, h1]
      have e1 : 55296 + (c - 65536) / 1024 < 65536 := by omega
      have e2 : 56320 + (c - 65536) % 1024 < 65536 := by omega
      rw [hu, List.cons_append, List.singleton_append, be2s_cons, be2s_cons, nar_pair _ (by rw [un_be2 e1]; unfold bmp; omega) (by rw [un_be2 e1, un_be2 e2]; unfold lone; omega), ih, un_be2 e1, un_be2 e2]
      simp only [Option.map_some, Option.some.injEq, List.cons.injEq, and_true]
      unfold pair; omega
theorem wide_len (cs : List Nat) : (wide cs).length = 2 + 2 * (u16s cs).length := by unfold wide; rw [List.length_append, be2s_len]; rfl
theorem narO_wide (cs : List Nat) (h : ∀ c ∈ cs, okc c) : narO (wide cs) = some cs := by
  unfold narO
  rw [if_pos ⟨by simp [wide, marked], by rw [wide_len]; omega⟩]
  exact nar_units cs h
theorem units_enc (cs : List Nat) (h : ∀ c ∈ cs, okc c) : (u16s cs).length ≤ (encs cs).length := by
  induction cs with
  | nil => show ([] : List Nat).length ≤ _; exact Nat.zero_le _
  | cons c t ih =>
    have hc := h c List.mem_cons_self
    have h2 := ih fun x hx => h x (List.mem_cons_of_mem _ hx)
    have h3 : encs (c :: t) = enc c ++ encs t := by simp [encs]
    rw [u16s_cons, h3, List.length_append, List.length_append]
    have : (cunits c).length ≤ (enc c).length := by
      by_cases h1 : c < 65536
      · rw [u16_bmp h1]; exact enc_pos c hc
      · unfold okc at hc
        rw [enc_of (utf8_four h1 (by omega))]
        simp [cunits, h1]
    omega
/-- The code units hold no E000 if the code points do not. -/
theorem unit_edge (cs : List Nat) (ho : ∀ c ∈ cs, okc c) (h : ∀ c ∈ cs, c ≠ 57344) : ∀ u ∈ u16s cs, u ≠ 57344 := by
  intro u hu
  unfold u16s at hu
  obtain ⟨c, hc, hu⟩ := List.mem_flatMap.1 hu
  have hne := h c hc
  have hok := ho c hc
  unfold okc at hok
  unfold cunits at hu
  split at hu
  · simp at hu; omega
  · rename_i h1
    simp at hu
    omega
theorem units_at : ∀ (l : List Nat) (j : Nat) (a b : UInt8), (∀ u ∈ l, u < 65536) → (l.flatMap be2)[2 * j]? = some a → (l.flatMap be2)[2 * j + 1]? = some b → un a b ∈ l
  | [], j, a, b, _, h1, _ => by simp at h1
  | u :: t, 0, a, b, h, h1, h2 => by
    rw [be2s_cons] at h1 h2
    simp at h1 h2
    rw [← h1, ← h2, un_be2 (h u List.mem_cons_self)]
    exact List.mem_cons_self
  | u :: t, j + 1, a, b, h, h1, h2 => by
    rw [be2s_cons] at h1 h2
    rw [show 2 * (j + 1) = 2 * j + 1 + 1 by omega, List.getElem?_cons_succ, List.getElem?_cons_succ] at h1
    rw [show 2 * (j + 1) + 1 = 2 * j + 1 + 1 + 1 by omega, List.getElem?_cons_succ, List.getElem?_cons_succ] at h2
    exact List.mem_cons_of_mem _ (units_at t j a b (fun x hx => h x (List.mem_cons_of_mem _ hx)) h1 h2)
theorem noEdge_wide (cs : List Nat) (ho : ∀ c ∈ cs, okc c) (h : ∀ c ∈ cs, c ≠ 57344) : NoEdge (wide cs) := by
  intro _ i h2 he a b ha hb
  have hlt : ∀ u ∈ u16s cs, u < 65536 := unit_lt cs fun j hj => ho _ (List.getElem_mem hj)
  obtain ⟨j, rfl⟩ : ∃ j, i = 2 * j + 2 := ⟨(i - 2) / 2, by omega⟩
  have e : wide cs = 254 :: 255 :: (u16s cs).flatMap be2 := rfl
  rw [e, List.getElem?_cons_succ, List.getElem?_cons_succ] at ha
  rw [e, show 2 * j + 2 + 1 = 2 * j + 1 + 1 + 1 by omega, List.getElem?_cons_succ, List.getElem?_cons_succ] at hb
  exact unit_edge cs ho h _ (units_at _ j a b hlt ha hb)

end Go.Proofs.YtgemkjickljedaaDoor
