/- What types.HexLiteralToString answers. Conditions: at most 4096 digits; the listed variables are laid; no code unit E000 behind the mark of UTF-16BE; no reverse solidus elsewhere. -/
import Derived.Test.YtgemkjickljedaaGreatDoorWK
import Derived.Test.YtgemkjickljedaaGreatDoorWH
import Derived.Test.YtgemkjickljedaaGreatDoorHexS
import Derived.Test.YtgemkjickljedaaGreatDoorXU
namespace Go.Proofs.YtgemkjickljedaaGreatDoor
open Go.ChangeShapes Go.WideShapes Go.ChangeAt Go.RowKit

theorem SlB.valid {l : List UInt8} {v : Value} {w : World} (h : SlB l v w) (hl : l.length ≤ 4096) (hT : Lib.Utf8Tabs 0 1 w) : Calls Tryz.prog 39 #[v] w fun e w' => e = .returned (.bool (Lib.validD l)) ∧ Below w.heap.size w w' := by
  rcases h with ⟨rfl, rfl⟩ | ⟨g, o, cap, rfl, hc, hg, h4⟩
  · exact valid_nil w
  · exact valid_any ⟨l.toArray⟩ g o l.length cap w (by show _ = l.toArray.size; simp) (by omega) hc (fun i hi => h4 i _ (by
      have hi2 : i < l.length := by
        have : i < l.toArray.size := hi
        simpa using this
      rw [List.getElem?_eq_getElem hi2]
      rfl)) hg hT

set_option maxRecDepth 100000 in
theorem isbe_nil (w : World) : Calls Tryz.prog 35 #[.slice none 0 0] w fun e w' => e = .returned (.bool false) ∧ w' = w := by
  go_enter Tryz.func35, Tryz.ntmps35
  go_wp2_with (fail)
  go_ret
  exact ⟨rfl, rfl⟩
theorem isbe_own {B : Nat} {l : List UInt8} {v : Value} {w : World} (h : w.ownsRow B 5 1 v l.length (vals l)) (hl : l.length ≤ 4096) : Calls Tryz.prog 35 #[v] w fun e w' => e = .returned (.bool (be l)) ∧ w' = w := by
  rcases h.2 with ⟨rfl, h0⟩ | ⟨g, cap, cur, rfl, hB, hgg, hc1, hc2, hc3, hc4⟩
  · obtain rfl : l = [] := List.eq_nil_of_length_eq_zero h0
    exact isbe_nil w
  · exact isbe_any ⟨l.toArray⟩ l.length g cap w (by show _ = l.toArray.size; simp) (by omega) (fun i hi => own_cell h i (by
      have hi2 : i < l.length := by
        have : i < l.toArray.size := hi
        simpa using this
      rw [vals, List.getElem?_map, List.getElem?_eq_getElem hi2]
      rfl))

/-- The decoder of UTF-16BE, of a row that the call owns. -/
theorem dec16_own {B : Nat} {l : List UInt8} {v : Value} {w : World} {T : TypeId} {pv : Value} (h : w.ownsRow B 5 1 v l.length (vals l)) (hl : l.length ≤ 4096) (hbe : be l = true) (hE : w.cell? ⟨2, 0, none⟩ = some (.iface T pv)) (hedge : NoEdge l) :
    Calls Tryz.prog 36 #[v] w fun e w' => ∃ ev, e = .returned (.tuple #[.string (narS l), ev]) ∧ (narB l = true → ev = .nilIface) ∧ (narB l = false → ∃ T p, ev = .iface T p) ∧ Below w.heap.size w w' := by
  rcases h.2 with ⟨rfl, h0⟩ | ⟨g, cap, cur, rfl, hB, hgg, hc1, hc2, hc3, hc4⟩
  · obtain rfl : l = [] := List.eq_nil_of_length_eq_zero h0
    exact absurd hbe (by decide)
  · exact dec16_any ⟨l.toArray⟩ g l.length cap T pv w (by show _ = l.toArray.size; simp) (by omega) hc1 (fun i hi => own_cell h i (by
      have hi2 : i < l.length := by
        have : i < l.toArray.size := hi
        simpa using this
      rw [vals, List.getElem?_map, List.getElem?_eq_getElem hi2]
      rfl)) hE (h.lt g rfl).2 hedge

set_option maxRecDepth 100000 in
theorem hx_be (s : ByteArray) (l : List UInt8) (ev : Value) (T : TypeId) (pv : Value) (w : World) (hs : s.size ≤ 4096) (hd : Lib.Hx.decode s.data.toList = (l, .ok)) (hl : l.length ≤ 4096) (hbe : be l = true)
    (hE4 : w.cell? ⟨4, 0, none⟩ = some ev) (hE2 : w.cell? ⟨2, 0, none⟩ = some (.iface T pv)) (hedge : NoEdge l) :
    Calls Tryz.prog 23 #[.string s] w fun e w' => ∃ ev, e = .returned (.tuple #[.string (narS l), ev]) ∧ (narB l = true → ev = .nilIface) ∧ (narB l = false → ∃ T p, ev = .iface T p) ∧ Below w.heap.size w w' := by
  have hB1 := bytes_any s w ev hE4 (by omega) l hd
  have HI : Hid (∀ v w1, w1.ownsRow w.heap.size 5 1 v l.length (vals l) → Calls Tryz.prog 35 #[v] w1 fun e w' => e = .returned (.bool true) ∧ w' = w1) := fun v w1 h => by rw [← hbe]; exact isbe_own h hl
  have l2 := block_lt_of_cell hE2
  have HD : Hid (∀ v w1, Below w.heap.size w w1 → w1.ownsRow w.heap.size 5 1 v l.length (vals l) → Calls Tryz.prog 36 #[v] w1 fun e w' => ∃ ev, e = .returned (.tuple #[.string (narS l), ev]) ∧ (narB l = true → ev = .nilIface) ∧ (narB l = false → ∃ T p, ev = .iface T p) ∧ Below w1.heap.size w1 w') :=
    fun v w1 b h => dec16_own h hl hbe ((below_cell b l2).trans hE2) hedge
  clear hE4 hE2 hbe hd hs hl hedge l2
  generalize narS l = S at *
  go_enter Tryz.func23, Tryz.ntmps23
  go_wp2_with (first
    | (go_at_call 34; refine Calls.mono (by with_reducible exact hB1) ?_; rintro e w1 ⟨v1, rfl, hown, b1⟩; have H1 := Lib.hid (And.intro hown b1); clear hown b1 hB1)
    | (go_at_call 35; refine Calls.mono (by with_reducible exact HI.out _ _ H1.out.1) ?_; rintro e w2 ⟨rfl, rfl⟩)
    | (go_at_call 36; refine Calls.mono (by with_reducible exact HD.out _ _ H1.out.2 H1.out.1) ?_; rintro e w3 ⟨ev3, rfl, h31, h32, b3⟩; have H3 := Lib.hid (And.intro h31 (And.intro h32 (H1.out.2.trans (b3.mono H1.out.2.size)))); clear h31 h32 b3))
  go_ret2
  exact ⟨ev3, rfl, H3.out.1, H3.out.2.1, H3.out.2.2⟩

/-- What the reader tells of bytes that are no UTF-16BE. -/
def Told (l : List UInt8) (S : ByteArray) : Prop := (Lib.validD l = true ∧ l.any ctl = false ∧ S = ⟨l.toArray⟩) ∨ ((Lib.validD l = false ∨ l.any ctl = true) ∧ l.any noSign = false ∧ S = ⟨(docB l).toArray⟩)

set_option maxHeartbeats 1000000 in
set_option maxRecDepth 100000 in
theorem hx_tx (s : ByteArray) (l : List UInt8) (ev : Value) (S : ByteArray) (w : World) (hs : s.size ≤ 4096) (hd : Lib.Hx.decode s.data.toList = (l, .ok)) (hl : l.length ≤ 4096) (hbe : be l = false) (h92 : l.any (· == 92) = false) (hS : Told (trm l) S)
    (hE4 : w.cell? ⟨4, 0, none⟩ = some ev) (hT : Lib.Utf8Tabs 0 1 w) (hD : DocTab w) :
    Calls Tryz.prog 23 #[.string s] w fun e w' => e = .returned (.tuple #[.string S, .nilIface]) ∧ Below w.heap.size w w' := by
  have hB1 := bytes_any s w ev hE4 (by omega) l hd
  have HI : Hid (∀ v w1, w1.ownsRow w.heap.size 5 1 v l.length (vals l) → Calls Tryz.prog 35 #[v] w1 fun e w' => e = .returned (.bool false) ∧ w' = w1) := fun v w1 h => by rw [← hbe]; exact isbe_own h hl
  have hlt : (trm l).length ≤ 4096 := by
    unfold trm
    split
    · rw [List.length_drop]; omega
    · exact hl
  obtain ⟨E, hE⟩ : ∃ E : ByteArray, (⟨l.toArray⟩ : ByteArray) = E := ⟨_, rfl⟩
  have hU : ∀ w1, Calls Tryz.prog 37 #[.string E] w1 fun e w' => ∃ v, e = .returned (.tuple #[v, .nilIface]) ∧ SlB l v w' ∧ Below w1.heap.size w1 w' := fun w1 => by
    have e1 : E.data.toList = l := by rw [← hE]
    have h := Lit.unesc_any E w1 (by rw [Lib.size_eq, e1]; omega)
    rw [e1, un_plain l h92] at h
    exact h.mono fun e w' ⟨v, h1, h2, h3⟩ => ⟨v, h1, SlB.of_own h2, h3⟩
  have HC : Hid (∀ v w1, w1.ownsRow w.heap.size 5 1 v l.length (vals l) → (convert 43 9 v).run Tryz.prog w1 = .ok (.string E) w1) := fun v w1 h => by rw [← hE]; exact (SlB.of_own h).conv
  have HTR : Hid (∀ w2 v2, SlB l v2 w2 → ∃ v', SlB (trm l) v' (w2.alloc (.cells #[.int .u8 239, .int .u8 187, .int .u8 191] 5)) ∧ Calls Tryz.prog 38 #[v2, .slice (some ⟨w2.heap.size, 0, none⟩) 3 3] (w2.alloc (.cells #[.int .u8 239, .int .u8 187, .int .u8 191] 5)) fun e w' => e = .returned v' ∧ w' = w2.alloc (.cells #[.int .u8 239, .int .u8 187, .int .u8 191] 5)) :=
    fun w2 v2 h => (h.below ((Below.refl _ _).alloc (Nat.le_refl _) _)).trim w2.heap.size (fun i c hi => by
      match i, hi with
      | 0, hi => simp at hi; subst hi; go_simp
      | 1, hi => simp at hi; subst hi; go_simp
      | 2, hi => simp at hi; subst hi; go_simp)
  have HAL : Hid (∀ w2, Below w.heap.size w w2 → Below w.heap.size w (w2.alloc (.cells #[.int .u8 239, .int .u8 187, .int .u8 191] 5))) := fun w2 b => b.trans (((Below.refl _ _).alloc (Nat.le_refl _) _).mono b.size)
  have HV : Hid (∀ w2 v2, Below w.heap.size w w2 → SlB (trm l) v2 w2 → Calls Tryz.prog 39 #[v2] w2 fun e w' => e = .returned (.bool (Lib.validD (trm l))) ∧ Below w2.heap.size w2 w') := fun w2 v2 b h => h.valid hlt (Utf8Tabs_below hT b)
  have HK : Hid (∀ w2 v2, SlB (trm l) v2 w2 → Calls Tryz.prog 40 #[v2] w2 fun e w' => e = .returned (.bool ((trm l).any ctl)) ∧ w' = w2) := fun w2 v2 h => h.ctl hlt
  have HCV : Hid (∀ w2 v2, SlB (trm l) v2 w2 → (convert 43 9 v2).run Tryz.prog w2 = .ok (.string ⟨(trm l).toArray⟩) w2) := fun w2 v2 h => h.conv
  have HP : Hid ((trm l) ≠ [] → (trm l).any noSign = false → ∀ w2 v2, Below w.heap.size w w2 → SlB (trm l) v2 w2 → Calls Tryz.prog 41 #[v2] w2 fun e w' => e = .returned (.string ⟨(docB (trm l)).toArray⟩) ∧ Below w2.heap.size w2 w') := fun h1 h2 w2 v2 b h => h.pdf hlt h1 h2 (hD.below b)
  clear hE hE4 hT hD hd hbe h92 hl hlt hs
  obtain ⟨m, hm⟩ : ∃ m, trm l = m := ⟨_, rfl⟩
  rw [hm] at HTR HV HK HCV HP hS
  clear hm
  rcases hS with ⟨hv, hc, rfl⟩ | ⟨hvc, hns, rfl⟩
  · rw [hv] at HV
    rw [hc] at HK
    clear HP hv hc
    go_enter Tryz.func23, Tryz.ntmps23
    go_wp2_with (first
      | (go_at_call 34; refine Calls.mono (by with_reducible exact hB1) ?_; rintro e w1 ⟨v1, rfl, hown, b1⟩; have H1 := Lib.hid (And.intro hown b1); have hcv := HC.out _ _ H1.out.1; clear hown b1 hB1)
      | (go_at_call 35; refine Calls.mono (by with_reducible exact HI.out _ _ H1.out.1) ?_; rintro e w2 ⟨rfl, rfl⟩)
      | (go_at_call 37; refine Calls.mono (by with_reducible exact hU _) ?_; rintro e w3 ⟨v3, rfl, s3, b3⟩; obtain ⟨v4, s4, c4⟩ := HTR.out _ _ s3; have B3 := Lib.hid (H1.out.2.trans (b3.mono H1.out.2.size)); have S4 := Lib.hid s4; clear s3 s4 b3 hcv hU)
      | (go_at_call 38; refine Calls.mono (by with_reducible exact c4) ?_; rintro e w5 ⟨rfl, rfl⟩; have B4 := Lib.hid (HAL.out _ B3.out))
      | (go_at_call 39; refine Calls.mono (by with_reducible exact HV.out _ _ B4.out S4.out) ?_; rintro e w6 ⟨rfl, b6⟩; have S6 := Lib.hid (S4.out.below b6); have B6 := Lib.hid (B4.out.trans (b6.mono B4.out.size)); have hcv2 := HCV.out _ _ S6.out; clear b6)
      | (go_at_call 40; refine Calls.mono (by with_reducible exact HK.out _ _ S6.out) ?_; rintro e w7 ⟨rfl, rfl⟩))
    go_ret2
    exact ⟨rfl, B6.out⟩
  · have hne : m ≠ [] := fun e => by
      rw [e] at hvc
      rcases hvc with h | h
      · exact absurd h (by decide)
      · exact absurd h (by decide)
    have HP2 := Lib.hid (HP.out hne hns)
    obtain ⟨V, hV⟩ : ∃ V, Lib.validD m = V := ⟨_, rfl⟩
    obtain ⟨D, hD⟩ : ∃ D, m.any ctl = D := ⟨_, rfl⟩
    rw [hV] at HV hvc
    rw [hD] at HK hvc
    clear HP hV hD hne hns HCV
    cases V
    · clear hvc
      go_enter Tryz.func23, Tryz.ntmps23
      go_wp2_with (first
        | (go_at_call 34; refine Calls.mono (by with_reducible exact hB1) ?_; rintro e w1 ⟨v1, rfl, hown, b1⟩; have H1 := Lib.hid (And.intro hown b1); have hcv := HC.out _ _ H1.out.1; clear hown b1 hB1)
        | (go_at_call 35; refine Calls.mono (by with_reducible exact HI.out _ _ H1.out.1) ?_; rintro e w2 ⟨rfl, rfl⟩)
        | (go_at_call 37; refine Calls.mono (by with_reducible exact hU _) ?_; rintro e w3 ⟨v3, rfl, s3, b3⟩; obtain ⟨v4, s4, c4⟩ := HTR.out _ _ s3; have B3 := Lib.hid (H1.out.2.trans (b3.mono H1.out.2.size)); have S4 := Lib.hid s4; clear s3 s4 b3 hcv hU)
        | (go_at_call 38; refine Calls.mono (by with_reducible exact c4) ?_; rintro e w5 ⟨rfl, rfl⟩; have B4 := Lib.hid (HAL.out _ B3.out))
        | (go_at_call 39; refine Calls.mono (by with_reducible exact HV.out _ _ B4.out S4.out) ?_; rintro e w6 ⟨rfl, b6⟩; have S6 := Lib.hid (S4.out.below b6); have B6 := Lib.hid (B4.out.trans (b6.mono B4.out.size)); clear b6)
        | (go_at_call 41; refine Calls.mono (by with_reducible exact HP2.out _ _ B6.out S6.out) ?_; rintro e w7 ⟨rfl, b7⟩; have B7 := Lib.hid (B6.out.trans (b7.mono B6.out.size)); clear b7))
      go_ret2
      exact ⟨rfl, B7.out⟩
    · obtain rfl : D = true := by rcases hvc with h | h; (cases h); exact h
      clear hvc
      go_enter Tryz.func23, Tryz.ntmps23
      go_wp2_with (first
        | (go_at_call 34; refine Calls.mono (by with_reducible exact hB1) ?_; rintro e w1 ⟨v1, rfl, hown, b1⟩; have H1 := Lib.hid (And.intro hown b1); have hcv := HC.out _ _ H1.out.1; clear hown b1 hB1)
        | (go_at_call 35; refine Calls.mono (by with_reducible exact HI.out _ _ H1.out.1) ?_; rintro e w2 ⟨rfl, rfl⟩)
        | (go_at_call 37; refine Calls.mono (by with_reducible exact hU _) ?_; rintro e w3 ⟨v3, rfl, s3, b3⟩; obtain ⟨v4, s4, c4⟩ := HTR.out _ _ s3; have B3 := Lib.hid (H1.out.2.trans (b3.mono H1.out.2.size)); have S4 := Lib.hid s4; clear s3 s4 b3 hcv hU)
        | (go_at_call 38; refine Calls.mono (by with_reducible exact c4) ?_; rintro e w5 ⟨rfl, rfl⟩; have B4 := Lib.hid (HAL.out _ B3.out))
        | (go_at_call 39; refine Calls.mono (by with_reducible exact HV.out _ _ B4.out S4.out) ?_; rintro e w6 ⟨rfl, b6⟩; have S6 := Lib.hid (S4.out.below b6); have B6 := Lib.hid (B4.out.trans (b6.mono B4.out.size)); clear b6)
        | (go_at_call 40; refine Calls.mono (by with_reducible exact HK.out _ _ S6.out) ?_; rintro e w7 ⟨rfl, rfl⟩)
        | (go_at_call 41; refine Calls.mono (by with_reducible exact HP2.out _ _ B6.out S6.out) ?_; rintro e w7 ⟨rfl, b7⟩; have B7 := Lib.hid (B6.out.trans (b7.mono B6.out.size)); clear b7))
      go_ret2
      exact ⟨rfl, B7.out⟩

end Go.Proofs.YtgemkjickljedaaGreatDoor
