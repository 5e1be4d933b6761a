/- What types.EscapedUTF16String, impl.UTF16Escaped and types.StringLiteralToString answer. Conditions: at most 4096 bytes of UTF-8. -/
import Derived.Test.YtgemkjickljedaaDoorVS
namespace Go.Proofs.YtgemkjickljedaaDoor
open Go.ChangeShapes Go.WideShapes Go.ChangeAt Go.RowKit

theorem wide_size (cs : List Nat) (h : (u16s cs).length ≤ 4096) : (⟨(wide cs).toArray⟩ : ByteArray).size ≤ 9000 := by
  have := wide_len cs
  show (wide cs).toArray.size ≤ 9000
  rw [List.size_toArray]; omega

set_option maxRecDepth 100000 in
theorem esc16_any (s : ByteArray) (cs : List Nat) (hr : Conv.runesFrom s s.size 0 #[] = (vals32 cs).toArray) (hok : ∀ c ∈ cs, okc c) (hl : cs.length ≤ 4096) (hu : (u16s cs).length ≤ 4096) (w : World)
    (hV : Calls Tryd.prog 38 #[.string s] w fun e w' => e = .returned (.bool true) ∧ Below w.heap.size w w') :
    Calls Tryd.prog 41 #[.string s] w fun e w' => ∃ b, e = .returned (.tuple #[.pointer (some ⟨b, 0, none⟩), .nilIface]) ∧ w'.cell? ⟨b, 0, none⟩ = some (.string ⟨(Lit.escs (wide cs)).toArray⟩) ∧ Below w.heap.size w w' := by
  have hE := fun w => encStr_any s cs hr (fun j hj => hok _ (List.getElem_mem hj)) hl w
  have hX := fun w => esc_any ⟨(wide cs).toArray⟩ w (wide_size cs hu)
  obtain ⟨X, hX2⟩ : ∃ X, (⟨(wide cs).toArray⟩ : ByteArray) = X := ⟨_, rfl⟩
  have e1 : X.data.toList = wide cs := by rw [← hX2]
  rw [hX2, e1] at hX
  rw [hX2] at hE
  clear hr hok hl hu hX2 e1
  go_enter Tryd.func41, Tryd.ntmps41
  go_wp2_with (first
    | (go_at_call 38; refine Calls.mono (by with_reducible exact hV) ?_; rintro e w1 ⟨rfl, hb1⟩; have HB1 := Lib.hid hb1; clear hb1 hV)
    | (go_at_call 55; refine Calls.mono (by with_reducible exact hE _) ?_; rintro e w2 ⟨rfl, hb2⟩; have HB2 := Lib.hid (HB1.out.trans (hb2.mono HB1.out.size)); clear hb2)
    | (go_at_call 67; refine Calls.mono (by with_reducible exact hX _) ?_; rintro e w3 ⟨b, rfl, hc, hb3⟩; have HB3 := Lib.hid (And.intro hc (HB2.out.trans (hb3.mono HB2.out.size))); clear hb3 hc))
  go_ret2
  exact ⟨b, rfl, HB3.out.1, HB3.out.2⟩

set_option maxRecDepth 100000 in
theorem text_any (b : Nat) (S : ByteArray) (w : World) (h : w.cell? ⟨b, 0, none⟩ = some (.string S)) : Calls Tryd.prog 40 #[.pointer (some ⟨b, 0, none⟩), .nilIface] w fun e w' => e = .returned (.tuple #[.string S, .bool true]) ∧ w' = w := by
  go_enter Tryd.func40, Tryd.ntmps40
  go_wp2
  go_ret2
  exact ⟨rfl, rfl⟩

set_option maxRecDepth 100000 in
theorem u16esc_any (s : ByteArray) (cs : List Nat) (hr : Conv.runesFrom s s.size 0 #[] = (vals32 cs).toArray) (hok : ∀ c ∈ cs, okc c) (hl : cs.length ≤ 4096) (hu : (u16s cs).length ≤ 4096) (w : World)
    (hV : Calls Tryd.prog 38 #[.string s] w fun e w' => e = .returned (.bool true) ∧ Below w.heap.size w w') :
    Calls Tryd.prog 22 #[.string s] w fun e w' => e = .returned (.tuple #[.string ⟨(Lit.escs (wide cs)).toArray⟩, .bool true]) ∧ Below w.heap.size w w' := by
  have hE := esc16_any s cs hr hok hl hu w hV
  have hT := fun b w h => text_any b ⟨(Lit.escs (wide cs)).toArray⟩ w h
  clear hr hok hl hu hV
  generalize (⟨(Lit.escs (wide cs)).toArray⟩ : ByteArray) = X at *
  go_enter Tryd.func22, Tryd.ntmps22
  go_wp2_with (first
    | (go_at_call 41; refine Calls.mono (by with_reducible exact hE) ?_; rintro e w1 ⟨b, rfl, hc, hb1⟩; have HB1 := Lib.hid hb1; clear hb1 hE)
    | (go_at_call 40; refine Calls.mono (by with_reducible exact hT _ _ hc) ?_; rintro e w2 ⟨rfl, rfl⟩))
  go_ret2
  exact ⟨rfl, HB1.out⟩

set_option maxRecDepth 100000 in
theorem value_any (S : ByteArray) (w : World) : Calls Tryd.prog 68 #[.string S] w fun e w' => e = .returned (.string S) ∧ w' = w := by
  go_enter Tryd.func68, Tryd.ntmps68
  go_wp2
  go_ret
  exact ⟨rfl, rfl⟩

set_option maxRecDepth 100000 in
theorem sl2s_any (E : ByteArray) (W : ByteArray) (T : TypeId) (pv : Value) (w : World) (hs : E.size ≤ 20000) (hW : Lit.un .n E.data.toList = W.data.toList) (hn : W.size ≤ 9000) (hbe : be W.data.toList = true) (hE : w.cell? ⟨3, 0, none⟩ = some (.iface T pv)) (hedge : NoEdge W.data.toList) (hb : narB W.data.toList = true) :
    Calls Tryd.prog 43 #[.string E] w fun e w' => e = .returned (.tuple #[.string (narS W.data.toList), .nilIface]) ∧ Below w.heap.size w w' := by
  have l3 := block_lt_of_cell hE
  have hlen : W.data.toList.length = W.size := by simp
  have hpos : 0 < W.size := by
    rcases Nat.eq_zero_or_pos W.size with h | h
    · rw [h] at hlen
      rw [List.length_eq_zero_iff.1 hlen] at hbe
      exact absurd hbe (by decide)
    · exact h
  have hU : Calls Tryd.prog 37 #[.string E] w fun e w' => ∃ g cap, e = .returned (.tuple #[.slice (some ⟨g, 0, none⟩) W.size cap, .nilIface]) ∧ W.size ≤ cap ∧ g < w'.heap.size ∧ (∀ i (h : i < W.size), w'.cell? ⟨g, i, none⟩ = some (.int .u8 W[i].toNat)) ∧ Below w.heap.size w w' :=
    (Lit.unesc_any E w hs).mono fun e w' ⟨v, h1, h2, h3⟩ => by
      rw [hW, hlen] at h2
      rcases h2.2 with ⟨_, h0⟩ | ⟨g, cap, cur, rfl, hB, hgg, hc1, hc2, hc3, hc4⟩
      · omega
      · refine ⟨g, cap, h1, hc1, (h2.lt g rfl).2, fun i hi => ?_, h3⟩
        have := own_cell h2 i (x := .int .u8 W[i].toNat) (by rw [vals, List.getElem?_map, get_of hi]; rfl)
        exact this
  have hB := fun g cap w' h => isbe_any W W.size g cap w' rfl hn h
  rw [hbe] at hB
  have hD : ∀ g cap w', Below w.heap.size w w' → W.size ≤ cap → g < w'.heap.size → (∀ i (h : i < W.size), w'.cell? ⟨g, i, none⟩ = some (.int .u8 W[i].toNat)) → Calls Tryd.prog 58 #[.slice (some ⟨g, 0, none⟩) W.size cap] w' fun e w'' => e = .returned (.tuple #[.string (narS W.data.toList), .nilIface]) ∧ Below w'.heap.size w' w'' := fun g cap w' b h1 h2 h3 =>
    (dec16_any W g W.size cap T pv w' rfl hn h1 h3 ((below_cell b l3).trans hE) h2 hedge).mono fun e w'' ⟨ev, k1, k2, _, k4⟩ => ⟨by rw [k1, k2 hb], k4⟩
  have HD := Lib.hid hD
  have HBE := Lib.hid hB
  clear hD hB hW hbe hE hedge hb hs hlen hpos l3
  generalize narS W.data.toList = S at *
  go_enter Tryd.func43, Tryd.ntmps43
  go_wp2_with (first
    | (go_at_call 37; refine Calls.mono (by with_reducible exact hU) ?_; rintro e w1 ⟨g, cap, rfl, hc1, hg, hcell, hb1⟩; have H1 := Lib.hid (And.intro hc1 (And.intro hg (And.intro hcell hb1))); clear hc1 hg hcell hb1 hU)
    | (go_at_call 68; refine Calls.mono (by with_reducible exact value_any _ _) ?_; rintro e w0 ⟨rfl, rfl⟩)
    | (go_at_call 69; refine Calls.mono (by with_reducible exact HBE.out _ _ _ H1.out.2.2.1) ?_; rintro e w2 ⟨rfl, rfl⟩)
    | (go_at_call 58; refine Calls.mono (by with_reducible exact HD.out _ _ _ H1.out.2.2.2 H1.out.1 H1.out.2.1 H1.out.2.2.1) ?_; rintro e w3 ⟨rfl, hb3⟩; have HB3 := Lib.hid (H1.out.2.2.2.trans (hb3.mono H1.out.2.2.2.size)); clear hb3))
  go_ret2
  exact ⟨rfl, HB3.out⟩

end Go.Proofs.YtgemkjickljedaaDoor
