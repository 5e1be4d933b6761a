/- The law FnHex answers true and leaves what was there as it was. Conditions: the variable encoding/hex.ErrLength holds a value. -/
import Derived.Test.YtgemkjickljedaaDoorHexS
namespace Go.Proofs.YtgemkjickljedaaDoor
open Go.ChangeShapes Go.WideShapes Go.ChangeAt Go.RowKit

set_option maxHeartbeats 1000000 in
set_option maxRecDepth 100000 in
theorem law_any (ao : Option Addr) (n c : Nat) (L : List UInt8) (ds : ByteArray) (w : World) (ev : Value) (hE : w.cell? ⟨4, 0, none⟩ = some ev) (hL : L.length = n)
    (hof : n ≤ 4096 → Calls Tryd.prog 8 #[.slice ao n c] w fun e w' => e = .returned (.string ⟨(Lib.Hx.encode L).toArray⟩) ∧ Below w.heap.size w w')
    (hcv : ∀ w', Below w.heap.size w w' → (convert 22 9 (.slice ao n c)).run Tryd.prog w' = .ok (.string ⟨L.toArray⟩) w') :
    Calls Tryd.prog 3 #[.slice ao n c, .string ds] w fun e w' => e = .returned (.bool true) ∧ Below w.heap.size w w' := by
  by_cases h1 : (n : Int) > 2147483647
  · go_enter Tryd.func3, Tryd.ntmps3
    go_wp2
    go_ret
    exact ⟨rfl, Below.refl _ _⟩
  by_cases h2 : (ds.size : Int) > 2147483647
  · go_enter Tryd.func3, Tryd.ntmps3
    go_wp2
    go_ret
    exact ⟨rfl, Below.refl _ _⟩
  by_cases h3 : (n : Int) > 4096
  · go_enter Tryd.func3, Tryd.ntmps3
    go_wp2
    go_ret
    exact ⟨rfl, Below.refl _ _⟩
  by_cases h4 : (ds.size : Int) > 4096
  · go_enter Tryd.func3, Tryd.ntmps3
    go_wp2
    go_ret
    exact ⟨rfl, Below.refl _ _⟩
  have hE' : ∀ w', Below w.heap.size w w' → w'.cell? ⟨4, 0, none⟩ = some ev := fun w' hb => by rw [hb.cell (block_lt_of_cell hE), hE]
  have hof' := hof (by omega)
  obtain ⟨T, hT⟩ : ∃ T : ByteArray, T = ⟨(Lib.Hx.encode L).toArray⟩ := ⟨_, rfl⟩
  obtain ⟨G, hG⟩ : ∃ G : ByteArray, G = ⟨L.toArray⟩ := ⟨_, rfl⟩
  have hTl : T.data.toList = Lib.Hx.encode L := by rw [hT]
  have hTs : T.size = 2 * n := by rw [hT]; show (Lib.Hx.encode L).toArray.size = _; rw [List.size_toArray, Lib.Hx.encode_length, hL]
  have hdec : Lib.Hx.decode T.data.toList = (L, .ok) := by rw [hTl, decode_encode]
  have hsp : ∀ w, Calls Tryd.prog 9 #[.string T] w fun e w' => e = .returned (.tuple #[.string G, .bool true]) ∧ Below w.heap.size w w' := fun w =>
    (specHex_any T w (by omega)).mono fun e w' ⟨out, ok, he, ha, _, hb⟩ => by
      obtain ⟨rfl, ho⟩ := ha (by rw [hTl]; exact encode_hex L)
      refine ⟨?_, hb⟩
      rw [he, ho (by omega), hdec, hG]
  have him := fun w h => implHex_any T w ev h (by omega) L hdec
  rw [← hT] at hof'
  rw [← hG] at hcv
  have hsp2 := fun w => specHex_any ds w (by omega)
  have him2 := fun w h l hd => implHex_any ds w ev h (by omega) l hd
  have hcown : ∀ (G : ByteArray) (L : List UInt8) (w3 w4 : World) (v : Value), G = ⟨L.toArray⟩ → w4.ownsRow w3.heap.size 5 1 v L.length (vals L) → (convert 22 9 v).run Tryd.prog w4 = .ok (.string G) w4 := fun G L w3 w4 v hG h => by rw [hG]; exact conv_own h
  have HE : Hid (∀ w', Below w.heap.size w w' → w'.cell? ⟨4, 0, none⟩ = some ev) := hE'
  have HC : Hid (∀ w', Below w.heap.size w w' → (convert 22 9 (.slice ao n c)).run Tryd.prog w' = .ok (.string G) w') := hcv
  have HO : Hid (∀ (G : ByteArray) (L : List UInt8) (w3 w4 : World) (v : Value), G = ⟨L.toArray⟩ → w4.ownsRow w3.heap.size 5 1 v L.length (vals L) → (convert 22 9 v).run Tryd.prog w4 = .ok (.string G) w4) := hcown
  have HG : Hid (G = ⟨L.toArray⟩) := hG
  have hpar : ∀ x : Nat, ((x : Int).tmod 2 == 1) = decide (x % 2 = 1) := fun x => by
    rw [Int.tmod_eq_emod_of_nonneg (by omega)]
    by_cases h : x % 2 = 1 <;> simp [h] <;> omega
  clear hcv hof hTl hTs hdec hT hG hcown hE' hE
  by_cases hall : AllHex ds.data.toList
  · by_cases hodd : ds.size % 2 = 1
    · have hsp3 : ∀ w, Calls Tryd.prog 9 #[.string ds] w fun e w' => ∃ out, e = .returned (.tuple #[.string out, .bool true]) ∧ Below w.heap.size w w' := fun w =>
        (hsp2 w).mono fun e w' ⟨out, ok, he, ha, _, hb⟩ => by obtain ⟨rfl, _⟩ := ha hall; exact ⟨out, he, hb⟩
      clear hsp2 him2 hall
      go_enter Tryd.func3, Tryd.ntmps3
      go_wp2_with (first
        | (go_at_call 8; refine hof'.mono ?_; rintro e w1 ⟨rfl, b1⟩; have B1 : Hid (Below w.heap.size w w1) := b1; clear b1)
        | (go_at_call 9; refine (hsp _).mono ?_; clear hsp; rintro e w2 ⟨rfl, b2⟩; have B2 : Hid (Below w.heap.size w w2) := B1.out.trans (b2.mono B1.out.size); clear b2)
        | (go_at_call 10; refine (him _ (HE.out _ B2.out)).mono ?_; clear him; rintro e w3 ⟨v, rfl, ho3, b3⟩; have B3 : Hid (Below w.heap.size w w3) := B2.out.trans (b3.mono B2.out.size); have hc3 := HC.out _ B3.out; have hd3 := HO.out _ _ _ _ _ HG.out ho3; clear ho3 b3)
        | (go_at_call 9; refine (hsp3 _).mono ?_; clear hsp3; rintro e w4 ⟨out, rfl, b4⟩; have B4 : Hid (Below w.heap.size w w4) := B3.out.trans (b4.mono B3.out.size); clear b4))
      go_ret
      exact ⟨rfl, B4.out⟩
    · have hev : ds.size % 2 = 0 := by omega
      have hdec2 := decode_is _ hall (by simpa using hev)
      obtain ⟨L2, hL2⟩ : ∃ L2, L2 = decg (fun k => ds.data.toList[k]?.getD 0) (ds.data.toList.length / 2) := ⟨_, rfl⟩
      rw [← hL2] at hdec2
      obtain ⟨G2, hG2⟩ : ∃ G2 : ByteArray, G2 = ⟨L2.toArray⟩ := ⟨_, rfl⟩
      have hsp3 : ∀ w, Calls Tryd.prog 9 #[.string ds] w fun e w' => ∃ out, e = .returned (.tuple #[.string out, .bool true]) ∧ (out = G2 ∧ Below w.heap.size w w') := fun w =>
        (hsp2 w).mono fun e w' ⟨out, ok, he, ha, _, hb⟩ => by
          obtain ⟨rfl, ho⟩ := ha hall
          refine ⟨out, he, ?_, hb⟩
          rw [ho hev, hdec2, hG2]
      have him3 := fun w h => him2 w h L2 hdec2
      have HG2 : Hid (G2 = ⟨L2.toArray⟩) := hG2
      clear hsp2 him2 hall hdec2 hL2 hG2
      go_enter Tryd.func3, Tryd.ntmps3
      go_wp2_with (first
        | (go_at_call 8; refine hof'.mono ?_; rintro e w1 ⟨rfl, b1⟩; have B1 : Hid (Below w.heap.size w w1) := b1; clear b1)
        | (go_at_call 9; refine (hsp _).mono ?_; clear hsp; rintro e w2 ⟨rfl, b2⟩; have B2 : Hid (Below w.heap.size w w2) := B1.out.trans (b2.mono B1.out.size); clear b2)
        | (go_at_call 10; refine (him _ (HE.out _ B2.out)).mono ?_; clear him; rintro e w3 ⟨v, rfl, ho3, b3⟩; have B3 : Hid (Below w.heap.size w w3) := B2.out.trans (b3.mono B2.out.size); have hc3 := HC.out _ B3.out; have hd3 := HO.out _ _ _ _ _ HG.out ho3; clear ho3 b3)
        | (go_at_call 9; refine (hsp3 _).mono ?_; clear hsp3; rintro e w4 ⟨out, rfl, rfl, b4⟩; have B4 : Hid (Below w.heap.size w w4) := B3.out.trans (b4.mono B3.out.size); clear b4)
        | (go_at_call 10; refine (him3 _ (HE.out _ B4.out)).mono ?_; clear him3; rintro e w5 ⟨v5, rfl, ho5, b5⟩; have B5 : Hid (Below w.heap.size w w5) := B4.out.trans (b5.mono B4.out.size); have hd5 := HO.out _ _ _ _ _ HG2.out ho5; clear ho5 b5))
      go_ret
      exact ⟨by simp, B5.out⟩
  · have hsp3 : ∀ w, Calls Tryd.prog 9 #[.string ds] w fun e w' => ∃ out, e = .returned (.tuple #[.string out, .bool false]) ∧ Below w.heap.size w w' := fun w =>
      (hsp2 w).mono fun e w' ⟨out, ok, he, _, ha, hb⟩ => by obtain rfl := ha hall; exact ⟨out, he, hb⟩
    clear hsp2 him2 hall
    go_enter Tryd.func3, Tryd.ntmps3
    go_wp2_with (first
      | (go_at_call 8; refine hof'.mono ?_; rintro e w1 ⟨rfl, b1⟩; have B1 : Hid (Below w.heap.size w w1) := b1; clear b1)
      | (go_at_call 9; refine (hsp _).mono ?_; clear hsp; rintro e w2 ⟨rfl, b2⟩; have B2 : Hid (Below w.heap.size w w2) := B1.out.trans (b2.mono B1.out.size); clear b2)
      | (go_at_call 10; refine (him _ (HE.out _ B2.out)).mono ?_; clear him; rintro e w3 ⟨v, rfl, ho3, b3⟩; have B3 : Hid (Below w.heap.size w w3) := B2.out.trans (b3.mono B2.out.size); have hc3 := HC.out _ B3.out; have hd3 := HO.out _ _ _ _ _ HG.out ho3; clear ho3 b3)
      | (go_at_call 9; refine (hsp3 _).mono ?_; clear hsp3; rintro e w4 ⟨out, rfl, b4⟩; have B4 : Hid (Below w.heap.size w w4) := B3.out.trans (b4.mono B3.out.size); clear b4))
    go_ret
    exact ⟨rfl, B4.out⟩

/-- The law, the slice told as the row tells it. -/
theorem law_hex (a0 : Option Addr) (len0 cap0 : Nat) (z0 : List Int) (ds : ByteArray) (w : World) (ev : Value) (hE : w.cell? ⟨4, 0, none⟩ = some ev)
    (w0 : (a0 = none ∧ len0 = 0 ∧ cap0 = 0 ∧ z0 = []) ∨ ∃ x, a0 = some x ∧ len0 ≤ cap0 ∧ cap0 ≤ maxLen ∧ z0.length = cap0 ∧ (∀ i, i < z0.length → w.cell? (x.add i) = some (.int .u8 (z0.getD i 0))) ∧ ∀ n ∈ z0, (Lit.int .u8 n).wf = true) :
    Calls Tryd.prog 3 #[.slice a0 len0 cap0, .string ds] w fun e w' => e = .returned (.bool true) ∧ Below w.heap.size w w' := by
  rcases w0 with ⟨rfl, rfl, rfl, rfl⟩ | ⟨x, rfl, hlc, hcm, hz, hcell, hwf⟩
  · refine law_any none 0 0 [] ds w ev hE rfl (fun _ => hexOf_none w) (fun w' _ => ?_)
    rw [run_convert_bytes_nil (P := Tryd.prog) w' 22 5 Tryd.underlying22 Tryd.underlying5 0 0 9 Tryd.underlying9]; rfl
  · have hlen : (z0.take len0).length = len0 := by simp; omega
    have hc : ∀ i, i < len0 → w.cell? (x.add i) = some (.int .u8 ((z0.take len0).getD i 0)) := fun i hi => by
      rw [hcell i (by omega)]
      simp [List.getD, hi]
    have hr : ∀ i, i < len0 → 0 ≤ (z0.take len0).getD i 0 ∧ (z0.take len0).getD i 0 < 256 := fun i hi => by
      have h1 : (z0.take len0).getD i 0 ∈ z0 := by
        have : i < z0.length := by omega
        simp [List.getD, hi, List.getElem?_eq_getElem this]
      have := hwf _ h1
      have e1 : IntKind.u8.min = 0 := by decide
      have e2 : IntKind.u8.max = 255 := by decide
      simp only [Lit.wf, e1, e2, Bool.and_eq_true, decide_eq_true_eq] at this
      omega
    refine law_any (some x) len0 cap0 (Lib.bytesOf (z0.take len0)) ds w ev hE (by simp [Lib.bytesOf]; omega) (fun hn => hexOf_any x len0 cap0 _ w hlen hn hr hc) (fun w' hb => ?_)
    exact conv_at w' 22 5 Tryd.underlying22 Tryd.underlying5 x len0 cap0 _ hlen (fun i hi => by rw [hb.cell (block_lt_of_cell (hc i hi)), hc i hi]) 9 Tryd.underlying9

end Go.Proofs.YtgemkjickljedaaDoor
