/- What types.Escape answers. Conditions: at most 9000 bytes. -/
import Derived.Test.YtgemkjickljedaaDoorVR
import Derived.Test.YtgemkjickljedaaDoorXU
import Derived.Test.YtgemkjickljedaaDoorXO
import Derived.Shelf.Bytes.String
namespace Go.Proofs.YtgemkjickljedaaDoor
open Go.ChangeShapes Go.WideShapes Go.ChangeAt Go.RowKit

theorem bfw {w0 w : World} {acc : List UInt8} (h : Lit.Bf w0 w acc) (hl : acc.length ≤ 100000) (c : UInt8) (z : Int) (hz : z = (c.toNat : Int)) :
    Calls Tryd.prog 61 #[.pointer (some ⟨w0.heap.size, 0, none⟩), .int .u8 z] w fun e w' => e = .returned .nilIface ∧ Lit.Bf w0 w' (acc ++ [c]) := by
  subst hz; exact h.write hl c
theorem bf_string {w0 w : World} {acc : List UInt8} (h : Lit.Bf w0 w acc) : Calls Tryd.prog 87 #[.pointer (some ⟨w0.heap.size, 0, none⟩)] w fun e w' => e = .returned (.string ⟨acc.toArray⟩) ∧ Below w0.heap.size w0 w' :=
  (Any.Buffer_String Tryd.laysM182 w0.heap.size w0.heap.size acc w h.1).mono fun e w' ⟨h1, n, h2⟩ => ⟨h1, by subst h2; exact below_drewN h.2 n⟩
theorem escs_step {l : List UInt8} {i : Nat} {c : UInt8} {E : List UInt8} (h : l[i]? = some c) (he : Lit.escB c = E) : Lit.escs (l.take (i + 1)) = Lit.escs (l.take i) ++ E := by
  obtain ⟨hi, rfl⟩ := List.getElem?_eq_some_iff.1 h
  rw [List.take_succ_eq_append_getElem hi, Lit.escs_snoc, he]

set_option maxHeartbeats 4000000 in
set_option maxRecDepth 100000 in
theorem esc_any (s : ByteArray) (w : World) (hs : s.size ≤ 9000) :
    Calls Tryd.prog 67 #[.string s] w fun e w' => ∃ b, e = .returned (.tuple #[.pointer (some ⟨b, 0, none⟩), .nilIface]) ∧ w'.cell? ⟨b, 0, none⟩ = some (.string ⟨(Lit.escs s.data.toList).toArray⟩) ∧ Below w.heap.size w w' := by
  have HF : Hid (Lit.Bf w (w.alloc (.cells #[.slice none 0 0, .int .i64 0, .int .i8 0] 76)) []) := Lit.Bf.fresh w
  go_enter Tryd.func67, Tryd.ntmps67
  go_wp2_with (fail)
  go_loopw [5] (fun iv wr => ∃ (i : Nat), iv = .int .i64 i ∧ i ≤ s.size ∧ Hid (Lit.Bf w wr (Lit.escs (s.data.toList.take i)))) (fun iv _ => s.size - (intOf iv).toNat)
  case atStart => exact ⟨0, rfl, Nat.zero_le _, HF.out⟩
  case round =>
    obtain ⟨i, rfl, hi, HB⟩ := hrel
    by_cases hlt : i < s.size
    · have hget := get_of hlt
      obtain ⟨c, hc⟩ : ∃ c, s[i] = c := ⟨_, rfl⟩
      rw [hc] at hget
      have HG := Lib.hid hget
      have hcl := c.toNat_lt
      have HL : Hid ((Lit.escs (s.data.toList.take i)).length ≤ 18000) := by
        have h1 := Lit.escs_len (s.data.toList.take i)
        have h2 : (s.data.toList.take i).length ≤ i := by rw [List.length_take]; omega
        show _ ≤ _
        omega
      clear hget
      by_cases q10 : c.toNat = 10
      · have z10 : ((c.toNat : Int) == 10) = true := by simp; omega
        have HE : Hid (Lit.escs (s.data.toList.take (i + 1)) = (Lit.escs (s.data.toList.take i)) ++ [92] ++ [110]) := by
          have e : c = 10 := (Lit.u8_eq c 10 (by decide)).2 q10
          show _ = _
          rw [escs_step (E := [92, 110]) HG.out (by rw [e]; decide)]; simp
        clear q10
        go_wp2_with (first
          | (go_at_call 61; refine Calls.mono (by with_reducible exact bfw HB.out (by have := HL.out; omega) 92 92 rfl) ?_; rintro e w1 ⟨rfl, h1⟩; have H1 := Lib.hid h1; clear h1)
          | (go_at_call 61; refine Calls.mono (by with_reducible exact bfw H1.out (by have := HL.out; simp; omega) 110 110 rfl) ?_; rintro e w2 ⟨rfl, h2⟩; have H2 := Lib.hid h2; clear h2))
        go_roundw
        case rel => exact ⟨i + 1, by simp, by omega, by show Lit.Bf _ _ _; rw [HE.out]; exact H2.out⟩
        case measure => simp [intOf]; omega
      have z10 : ((c.toNat : Int) == 10) = false := by simp; omega
      by_cases q13 : c.toNat = 13
      · have z13 : ((c.toNat : Int) == 13) = true := by simp; omega
        have HE : Hid (Lit.escs (s.data.toList.take (i + 1)) = (Lit.escs (s.data.toList.take i)) ++ [92] ++ [114]) := by
          have e : c = 13 := (Lit.u8_eq c 13 (by decide)).2 q13
          show _ = _
          rw [escs_step (E := [92, 114]) HG.out (by rw [e]; decide)]; simp
        clear q13 q10
        go_wp2_with (first
          | (go_at_call 61; refine Calls.mono (by with_reducible exact bfw HB.out (by have := HL.out; omega) 92 92 rfl) ?_; rintro e w1 ⟨rfl, h1⟩; have H1 := Lib.hid h1; clear h1)
          | (go_at_call 61; refine Calls.mono (by with_reducible exact bfw H1.out (by have := HL.out; simp; omega) 114 114 rfl) ?_; rintro e w2 ⟨rfl, h2⟩; have H2 := Lib.hid h2; clear h2))
        go_roundw
        case rel => exact ⟨i + 1, by simp, by omega, by show Lit.Bf _ _ _; rw [HE.out]; exact H2.out⟩
        case measure => simp [intOf]; omega
      have z13 : ((c.toNat : Int) == 13) = false := by simp; omega
      by_cases q9 : c.toNat = 9
      · have z9 : ((c.toNat : Int) == 9) = true := by simp; omega
        have HE : Hid (Lit.escs (s.data.toList.take (i + 1)) = (Lit.escs (s.data.toList.take i)) ++ [92] ++ [116]) := by
          have e : c = 9 := (Lit.u8_eq c 9 (by decide)).2 q9
          show _ = _
          rw [escs_step (E := [92, 116]) HG.out (by rw [e]; decide)]; simp
        clear q9 q10 q13
        go_wp2_with (first
          | (go_at_call 61; refine Calls.mono (by with_reducible exact bfw HB.out (by have := HL.out; omega) 92 92 rfl) ?_; rintro e w1 ⟨rfl, h1⟩; have H1 := Lib.hid h1; clear h1)
          | (go_at_call 61; refine Calls.mono (by with_reducible exact bfw H1.out (by have := HL.out; simp; omega) 116 116 rfl) ?_; rintro e w2 ⟨rfl, h2⟩; have H2 := Lib.hid h2; clear h2))
        go_roundw
        case rel => exact ⟨i + 1, by simp, by omega, by show Lit.Bf _ _ _; rw [HE.out]; exact H2.out⟩
        case measure => simp [intOf]; omega
      have z9 : ((c.toNat : Int) == 9) = false := by simp; omega
      by_cases q8 : c.toNat = 8
      · have z8 : ((c.toNat : Int) == 8) = true := by simp; omega
        have HE : Hid (Lit.escs (s.data.toList.take (i + 1)) = (Lit.escs (s.data.toList.take i)) ++ [92] ++ [98]) := by
          have e : c = 8 := (Lit.u8_eq c 8 (by decide)).2 q8
          show _ = _
          rw [escs_step (E := [92, 98]) HG.out (by rw [e]; decide)]; simp
        clear q8 q10 q13 q9
        go_wp2_with (first
          | (go_at_call 61; refine Calls.mono (by with_reducible exact bfw HB.out (by have := HL.out; omega) 92 92 rfl) ?_; rintro e w1 ⟨rfl, h1⟩; have H1 := Lib.hid h1; clear h1)
          | (go_at_call 61; refine Calls.mono (by with_reducible exact bfw H1.out (by have := HL.out; simp; omega) 98 98 rfl) ?_; rintro e w2 ⟨rfl, h2⟩; have H2 := Lib.hid h2; clear h2))
        go_roundw
        case rel => exact ⟨i + 1, by simp, by omega, by show Lit.Bf _ _ _; rw [HE.out]; exact H2.out⟩
        case measure => simp [intOf]; omega
      have z8 : ((c.toNat : Int) == 8) = false := by simp; omega
      by_cases q12 : c.toNat = 12
      · have z12 : ((c.toNat : Int) == 12) = true := by simp; omega
        have HE : Hid (Lit.escs (s.data.toList.take (i + 1)) = (Lit.escs (s.data.toList.take i)) ++ [92] ++ [102]) := by
          have e : c = 12 := (Lit.u8_eq c 12 (by decide)).2 q12
          show _ = _
          rw [escs_step (E := [92, 102]) HG.out (by rw [e]; decide)]; simp
        clear q12 q10 q13 q9 q8
        go_wp2_with (first
          | (go_at_call 61; refine Calls.mono (by with_reducible exact bfw HB.out (by have := HL.out; omega) 92 92 rfl) ?_; rintro e w1 ⟨rfl, h1⟩; have H1 := Lib.hid h1; clear h1)
          | (go_at_call 61; refine Calls.mono (by with_reducible exact bfw H1.out (by have := HL.out; simp; omega) 102 102 rfl) ?_; rintro e w2 ⟨rfl, h2⟩; have H2 := Lib.hid h2; clear h2))
        go_roundw
        case rel => exact ⟨i + 1, by simp, by omega, by show Lit.Bf _ _ _; rw [HE.out]; exact H2.out⟩
        case measure => simp [intOf]; omega
      have z12 : ((c.toNat : Int) == 12) = false := by simp; omega
      by_cases q92 : c.toNat = 92
      · have z92 : ((c.toNat : Int) == 92) = true := by simp; omega
        have HE : Hid (Lit.escs (s.data.toList.take (i + 1)) = (Lit.escs (s.data.toList.take i)) ++ [92] ++ [92]) := by
          have e : c = 92 := (Lit.u8_eq c 92 (by decide)).2 q92
          show _ = _
          rw [escs_step (E := [92, 92]) HG.out (by rw [e]; decide)]; simp
        have HZ : Hid ((c.toNat : Int) = ((92 : UInt8).toNat : Int)) := by show _ = _; rw [q92]; rfl
        clear q92 q10 q13 q9 q8 q12
        go_wp2_with (first
          | (go_at_call 61; refine Calls.mono (by with_reducible exact bfw HB.out (by have := HL.out; omega) 92 92 rfl) ?_; rintro e w1 ⟨rfl, h1⟩; have H1 := Lib.hid h1; clear h1)
          | (go_at_call 61; refine Calls.mono (by with_reducible exact bfw H1.out (by have := HL.out; simp; omega) 92 c.toNat HZ.out) ?_; rintro e w2 ⟨rfl, h2⟩; have H2 := Lib.hid h2; clear h2))
        go_roundw
        case rel => exact ⟨i + 1, by simp, by omega, by show Lit.Bf _ _ _; rw [HE.out]; exact H2.out⟩
        case measure => simp [intOf]; omega
      have z92 : ((c.toNat : Int) == 92) = false := by simp; omega
      by_cases q40 : c.toNat = 40
      · have z40 : ((c.toNat : Int) == 40) = true := by simp; omega
        have HE : Hid (Lit.escs (s.data.toList.take (i + 1)) = (Lit.escs (s.data.toList.take i)) ++ [92] ++ [40]) := by
          have e : c = 40 := (Lit.u8_eq c 40 (by decide)).2 q40
          show _ = _
          rw [escs_step (E := [92, 40]) HG.out (by rw [e]; decide)]; simp
        have HZ : Hid ((c.toNat : Int) = ((40 : UInt8).toNat : Int)) := by show _ = _; rw [q40]; rfl
        clear q40 q10 q13 q9 q8 q12 q92
        go_wp2_with (first
          | (go_at_call 61; refine Calls.mono (by with_reducible exact bfw HB.out (by have := HL.out; omega) 92 92 rfl) ?_; rintro e w1 ⟨rfl, h1⟩; have H1 := Lib.hid h1; clear h1)
          | (go_at_call 61; refine Calls.mono (by with_reducible exact bfw H1.out (by have := HL.out; simp; omega) 40 c.toNat HZ.out) ?_; rintro e w2 ⟨rfl, h2⟩; have H2 := Lib.hid h2; clear h2))
        go_roundw
        case rel => exact ⟨i + 1, by simp, by omega, by show Lit.Bf _ _ _; rw [HE.out]; exact H2.out⟩
        case measure => simp [intOf]; omega
      have z40 : ((c.toNat : Int) == 40) = false := by simp; omega
      by_cases q41 : c.toNat = 41
      · have z41 : ((c.toNat : Int) == 41) = true := by simp; omega
        have HE : Hid (Lit.escs (s.data.toList.take (i + 1)) = (Lit.escs (s.data.toList.take i)) ++ [92] ++ [41]) := by
          have e : c = 41 := (Lit.u8_eq c 41 (by decide)).2 q41
          show _ = _
          rw [escs_step (E := [92, 41]) HG.out (by rw [e]; decide)]; simp
        have HZ : Hid ((c.toNat : Int) = ((41 : UInt8).toNat : Int)) := by show _ = _; rw [q41]; rfl
        clear q41 q10 q13 q9 q8 q12 q92 q40
        go_wp2_with (first
          | (go_at_call 61; refine Calls.mono (by with_reducible exact bfw HB.out (by have := HL.out; omega) 92 92 rfl) ?_; rintro e w1 ⟨rfl, h1⟩; have H1 := Lib.hid h1; clear h1)
          | (go_at_call 61; refine Calls.mono (by with_reducible exact bfw H1.out (by have := HL.out; simp; omega) 41 c.toNat HZ.out) ?_; rintro e w2 ⟨rfl, h2⟩; have H2 := Lib.hid h2; clear h2))
        go_roundw
        case rel => exact ⟨i + 1, by simp, by omega, by show Lit.Bf _ _ _; rw [HE.out]; exact H2.out⟩
        case measure => simp [intOf]; omega
      have z41 : ((c.toNat : Int) == 41) = false := by simp; omega
      have HE : Hid (Lit.escs (s.data.toList.take (i + 1)) = (Lit.escs (s.data.toList.take i)) ++ [c]) := by
        have f : ∀ k (h : k < 256), c.toNat ≠ k → c ≠ UInt8.ofNat k := fun k h hn e => hn ((Lit.u8_eq c k h).1 e)
        have e : Lit.escB c = [c] := by
          have f1 : c ≠ 10 := f 10 (by decide) q10
          have f2 : c ≠ 13 := f 13 (by decide) q13
          have f3 : c ≠ 9 := f 9 (by decide) q9
          have f4 : c ≠ 8 := f 8 (by decide) q8
          have f5 : c ≠ 12 := f 12 (by decide) q12
          unfold Lit.escB
          rw [if_neg f1, if_neg f2, if_neg f3, if_neg f4, if_neg f5, if_neg]
          rintro (h | h | h)
          · exact f 92 (by decide) q92 h
          · exact f 40 (by decide) q40 h
          · exact f 41 (by decide) q41 h
        exact escs_step HG.out e
      clear q10 q13 q9 q8 q12 q92 q40 q41
      go_wp2_with (go_at_call 61; refine Calls.mono (by with_reducible exact bfw HB.out (by have := HL.out; omega) c c.toNat rfl) ?_; rintro e w1 ⟨rfl, h1⟩; have H1 := Lib.hid h1; clear h1)
      go_roundw
      case rel => exact ⟨i + 1, by simp, by omega, by show Lit.Bf _ _ _; rw [HE.out]; exact H1.out⟩
      case measure => simp [intOf]; omega
    · have HB2 : Hid (Lit.Bf w wr (Lit.escs s.data.toList)) := by
        have h1 : s.data.toList.take i = s.data.toList := List.take_of_length_le (by simp; omega)
        have := HB.out
        rwa [h1] at this
      clear HB
      obtain ⟨A, hA⟩ : ∃ A, Lit.escs s.data.toList = A := ⟨_, rfl⟩
      rw [hA] at HB2
      have HA := Lib.hid hA
      clear hA
      go_wp2_with (go_at_call 87; refine Calls.mono (by with_reducible exact bf_string HB2.out) ?_; rintro e w1 ⟨rfl, h1⟩; have H1 := Lib.hid h1; clear h1)
      go_ret2
      exact ⟨w1.heap.size, rfl, by rw [HA.out]; go_simp, by repeat (first | exact H1.out | refine Below.setCell ?_ H1.out.size _ | refine Below.alloc ?_ H1.out.size _)⟩

end Go.Proofs.YtgemkjickljedaaDoor
