/- What spec.DocText answers. Conditions: at most 4096 bytes. -/
import Derived.Test.YtgemkjickljedaaGreatDoorWD
namespace Go.Proofs.YtgemkjickljedaaGreatDoor
open Go.ChangeShapes Go.WideShapes Go.ChangeAt Go.RowKit

/-- The text of bytes that are signs. -/
def docB (l : List UInt8) : List UInt8 := l.flatMap fun c => bl (Utf8.encode (sign c.toNat))
def noSign (c : UInt8) : Bool := decide (sign c.toNat < 0)
theorem docB_snoc (l : List UInt8) (c : UInt8) : docB (l ++ [c]) = docB l ++ bl (Utf8.encode (sign c.toNat)) := by simp [docB]
theorem enc_size (r : Int) : (Utf8.encode r).size ≤ 4 := by
  unfold Utf8.encode
  simp only
  repeat' split
  all_goals simp [ByteArray.size]
theorem sign_range (n : Nat) (h : n < 256) : -1 ≤ sign n ∧ sign n ≤ 65535 := by
  have : ∀ n : Fin 256, -1 ≤ sign n.val ∧ sign n.val ≤ 65535 := by decide +kernel
  exact this ⟨n, h⟩

set_option maxHeartbeats 1000000 in
set_option maxRecDepth 100000 in
theorem docText_any (s : ByteArray) (w : World) (hs : s.size ≤ 4096) : Calls Tryz.prog 20 #[.string s] w fun e w' => ((e = .returned (.tuple #[.string ⟨#[]⟩, .bool false]) ∧ s.data.toList.any noSign = true) ∨ (e = .returned (.tuple #[.string ⟨(docB s.data.toList).toArray⟩, .bool true]) ∧ s.data.toList.any noSign = false)) ∧ Below w.heap.size w w' := by
  have hlen : s.data.toList.length = s.size := by simp
  have HL := Lib.hid hlen
  have hD := docSign_any
  clear hlen
  go_enter Tryz.func20, Tryz.ntmps20
  go_wp2_with (fail)
  go_loopw [4, 9] (fun ov v wr => ∃ (i : Nat) (S : ByteArray), v = .int .i64 i ∧ ov = .string S ∧ i ≤ s.size ∧ S.size ≤ 4 * i ∧ Hid ((s.data.toList.take i).any noSign = false ∧ S.data.toList = docB (s.data.toList.take i) ∧ Below w.heap.size w wr)) (fun _ v _ => s.size - (intOf v).toNat)
  case atStart => exact ⟨0, ⟨#[]⟩, rfl, rfl, Nat.zero_le _, Nat.le_refl _, rfl, rfl, Below.refl _ _⟩
  case round =>
    obtain ⟨i, S, rfl, rfl, hi, hS, HM⟩ := hrel
    by_cases hlt : i < s.size
    · have hget := get_of hlt
      obtain ⟨c, hc⟩ : ∃ c, s[i] = c := ⟨_, rfl⟩
      rw [hc] at hget
      have HG := Lib.hid hget
      have hDc := hD c
      have hsr := sign_range c.toNat c.toNat_lt
      obtain ⟨v, hv⟩ : ∃ v, sign c.toNat = v := ⟨_, rfl⟩
      rw [hv] at hDc hsr
      have HV := Lib.hid hv
      clear hget hv hD
      by_cases hneg : v < 0
      · have d : decide (v < 0) = true := by simp; omega
        have HR : Hid (s.data.toList.any noSign = true) := any_at HG.out (by unfold noSign; rw [HV.out]; exact d)
        clear hneg
        go_wp2_with (go_at_call 32; refine Calls.mono (by with_reducible exact hDc _) ?_; rintro e w1 ⟨rfl, b1⟩; have B1 := Lib.hid (HM.out.2.2.trans (b1.mono HM.out.2.2.size)); clear b1)
        go_ret2
        exact ⟨.inl ⟨rfl, HR.out⟩, B1.out⟩
      · have d : decide (v < 0) = false := by simp; omega
        have hes := enc_size v
        have HM2 : Hid ((s.data.toList.take (i + 1)).any noSign = false) := any_step HG.out (by unfold noSign; rw [HV.out]; exact d) HM.out.1
        have HD2 : Hid (docB (s.data.toList.take (i + 1)) = docB (s.data.toList.take i) ++ bl (Utf8.encode v)) := by
          obtain ⟨h1, h2⟩ := List.getElem?_eq_some_iff.1 HG.out
          show _ = _
          rw [List.take_succ_eq_append_getElem h1, docB_snoc, h2, HV.out]
        clear hneg
        go_wp2_with (go_at_call 32; refine Calls.mono (by with_reducible exact hDc _) ?_; rintro e w1 ⟨rfl, b1⟩; have B1 := Lib.hid (HM.out.2.2.trans (b1.mono HM.out.2.2.size)); clear b1)
        go_roundw
        case rel => exact ⟨i + 1, S ++ Utf8.encode v, by simp, rfl, by omega, by simp; omega, HM2.out, by rw [HD2.out, ← HM.out.2.1]; simp [bl], B1.out⟩
        case measure => simp [intOf]; omega
    · have HR : Hid (s.data.toList.any noSign = false ∧ S = ⟨(docB s.data.toList).toArray⟩) := by
        have h1 : s.data.toList.take i = s.data.toList := List.take_of_length_le (by rw [HL.out]; omega)
        have h2 := HM.out
        rw [h1] at h2
        exact ⟨h2.1, str_ext h2.2.1⟩
      have HB := Lib.hid HM.out.2.2
      obtain ⟨hr1, rfl⟩ := HR.out
      have HR1 := Lib.hid hr1
      clear HM HR hr1 hS
      go_wp2_with (fail)
      go_ret2
      exact ⟨.inr ⟨rfl, HR1.out⟩, HB.out⟩

end Go.Proofs.YtgemkjickljedaaGreatDoor
