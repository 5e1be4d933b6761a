/- What spec.TextOf answers. Conditions: at most 4096 bytes; the tables of unicode/utf8 are laid. -/
import Derived.Test.YtgemkjickljedaaGreatDoorWP
import Derived.Test.YtgemkjickljedaaGreatDoorVShelf
import Derived.Lib.QuietBelow
namespace Go.Proofs.YtgemkjickljedaaGreatDoor
open Go.ChangeShapes Go.WideShapes Go.ChangeAt Go.RowKit Go.Sort

/-- The mark of UTF-8 stands ahead. -/
def mk3 (l : List UInt8) : Bool := l.take 3 == [239, 187, 191]
theorem mk3_piece (s : ByteArray) : ((s.extract 0 3).toList == [239, 187, 191]) = mk3 s.data.toList := by
  rw [ByteArray.toList_eq, Lib.extract_data]
  simp [mk3]
theorem mk3_short {l : List UInt8} (h : l.length < 3) : mk3 l = false := by
  unfold mk3
  have : (l.take 3).length ≠ 3 := by rw [List.length_take]; omega
  cases hb : (l.take 3 == [239, 187, 191]) with
  | false => rfl
  | true => rw [eq_of_beq hb] at this; exact absurd rfl this

/-- What is told of a string's bytes. -/
def Txt (l : List UInt8) (T : ByteArray) (B K : Bool) : Prop :=
  (marked l = true → T = narS l ∧ B = narB l ∧ (K = true → l.length % 2 = 0)) ∧
  (marked l = false → mk3 l = true → T = ⟨(l.drop 3).toArray⟩ ∧ B = true ∧ (K = true → Lib.validD l = true ∧ l.any dirty = false)) ∧
  (marked l = false → mk3 l = false → K = true → (Lib.validD l = true → l.any high = false) ∧ l.any noSign = false ∧ T = ⟨(docB l).toArray⟩ ∧ B = true)

set_option maxHeartbeats 1000000 in
set_option maxRecDepth 100000 in
theorem textOf_marked (s : ByteArray) (hs : s.size ≤ 4096) (hm : marked s.data.toList = true) : ∃ T B K, Txt s.data.toList T B K ∧ ∀ w, Lib.Utf8Tabs 0 1 w → Calls Tryz.prog 6 #[.string s] w fun e w' => e = .returned (.tuple #[.string T, .bool B, .bool K]) ∧ Below w.heap.size w w' := by
  have hlen : s.data.toList.length = s.size := by simp
  refine ⟨narS s.data.toList, narB s.data.toList, decide (s.size % 2 = 0), ⟨fun _ => ⟨rfl, rfl, fun h => by rw [hlen]; exact of_decide_eq_true h⟩, fun h => by rw [hm] at h; (cases h), fun h => by rw [hm] at h; (cases h)⟩, ?_⟩
  have hM := fun w => marked_any s w
  have hN := fun w => narrow_any s w hs
  rw [hm] at hM
  have hk : ((s.size : Int) % 2 == 0) = decide (s.size % 2 = 0) := by
    by_cases h : s.size % 2 = 0
    · rw [decide_eq_true h]; simp; omega
    · rw [decide_eq_false h]; simp; omega
  obtain ⟨K, hK⟩ : ∃ K, decide (s.size % 2 = 0) = K := ⟨_, rfl⟩
  rw [hK] at hk ⊢
  generalize narS s.data.toList = T at hN ⊢
  generalize narB s.data.toList = B at hN ⊢
  clear hm hlen hK
  intro w _
  go_enter Tryz.func6, Tryz.ntmps6
  go_wp2_with (first
    | (go_at_call 9; refine Calls.mono (by with_reducible exact hM _) ?_; rintro e w1 ⟨rfl, rfl⟩)
    | (go_at_call 16; refine Calls.mono (by with_reducible exact hN _) ?_; rintro e w2 ⟨rfl, q, rfl⟩))
  go_ret3
  exact ⟨rfl, below_drewN (Below.refl _ _) q⟩

set_option maxHeartbeats 1000000 in
set_option maxRecDepth 100000 in
theorem textOf_mk3 (s : ByteArray) (hs : s.size ≤ 4096) (hm : marked s.data.toList = false) (h3 : mk3 s.data.toList = true) : ∃ T B K, Txt s.data.toList T B K ∧ ∀ w, Lib.Utf8Tabs 0 1 w → Calls Tryz.prog 6 #[.string s] w fun e w' => e = .returned (.tuple #[.string T, .bool B, .bool K]) ∧ Below w.heap.size w w' := by
  have hlen : s.data.toList.length = s.size := by simp
  have hsz : 3 ≤ s.size := by
    rcases Nat.lt_or_ge s.size 3 with h | h
    · rw [mk3_short (by omega)] at h3; cases h3
    · exact h
  have hp := mk3_piece s
  rw [h3] at hp
  refine ⟨s.extract 3 s.size, true, Lib.validD s.data.toList && !s.data.toList.any dirty, ⟨fun h => by rw [hm] at h; (cases h), fun _ _ => ⟨str_ext (by rw [Lib.ext_list]), rfl, fun h => by simpa using h⟩, fun _ h => by rw [h3] at h; cases h⟩, ?_⟩
  have hM := fun w => marked_any s w
  rw [hm] at hM
  intro w hT
  have hV := fun p os => Calls.regrown_of (Tryz.utf8_ValidString s (grow (redrawn w p) os) (by omega) (Utf8Tabs_below hT (below_regrown w p os)))
  have hC := fun p os => Calls.regrown_of ((clean_any s (grow (redrawn w p) os) hs).mono fun e w' ⟨h1, h2⟩ => ⟨h1, by rw [h2]; exact Below.refl _ _⟩)
  obtain ⟨V, hVe⟩ : ∃ V, Lib.validD s.data.toList = V := ⟨_, rfl⟩
  obtain ⟨D, hDe⟩ : ∃ D, s.data.toList.any dirty = D := ⟨_, rfl⟩
  rw [hVe] at hV ⊢
  rw [hDe] at hC ⊢
  have hsz1 : (3 : Int) ≤ (s.size : Int) := by omega
  have hsz2 : decide ((3 : Int) ≤ (s.size : Int)) = true := by simp; omega
  clear hVe hDe hm h3 hT hlen
  cases V
  all_goals
    go_enter Tryz.func6, Tryz.ntmps6
    go_wp2_with (go_at_call 9; refine Calls.mono (by with_reducible exact hM _) ?_; rintro e w1 ⟨rfl, rfl⟩)
    refine wp_region_quiet_below (by kernel_rfl) (by kernel_rfl) ?_
    repeat (quiet_step (first | (with_reducible exact hV _ _) | (with_reducible exact hC _ _)))
    refine wpQuiet_nil ?_
    intro _ hw'
    obtain ⟨⟨dq, osq⟩, hw''⟩ := hw'
    subst hw''
    go_wp2
    go_ret3
    exact ⟨rfl, below_regrown _ dq osq⟩

set_option maxHeartbeats 1000000 in
set_option maxRecDepth 100000 in
theorem textOf_else (s : ByteArray) (hs : s.size ≤ 4096) (hm : marked s.data.toList = false) (h3 : mk3 s.data.toList = false) : ∃ T B K, Txt s.data.toList T B K ∧ ∀ w, Lib.Utf8Tabs 0 1 w → Calls Tryz.prog 6 #[.string s] w fun e w' => e = .returned (.tuple #[.string T, .bool B, .bool K]) ∧ Below w.heap.size w w' := by
  have hp := mk3_piece s
  rw [h3] at hp
  have hM := fun w => marked_any s w
  rw [hm] at hM
  have hV0 := fun w hT => Tryz.utf8_ValidString s w (by omega) hT
  have hA := fun w => ascii_any s w hs
  have hD := fun w => docText_any s w hs
  by_cases hno : Lib.validD s.data.toList = true ∧ s.data.toList.any high = true
  · refine ⟨⟨#[]⟩, false, false, ⟨fun h => by rw [hm] at h; (cases h), fun _ h => by rw [h3] at h; (cases h), fun _ _ h => by cases h⟩, ?_⟩
    rw [hno.1] at hV0
    intro w hT
    have hV := hV0 w hT
    have e1 : s.data.toList.any (fun c => decide (127 < c.toNat)) = true := hno.2
    rw [e1] at hA
    clear hno e1 hm h3 hT hD hV0
    by_cases hsz : 3 ≤ s.size
    · have hsz1 : (3 : Int) ≤ (s.size : Int) := by omega
      have hsz2 : decide ((3 : Int) ≤ (s.size : Int)) = true := by simp; omega
      go_enter Tryz.func6, Tryz.ntmps6
      go_wp2_with (first
        | (go_at_call 9; refine Calls.mono (by with_reducible exact hM _) ?_; rintro e w1 ⟨rfl, rfl⟩)
        | (go_at_call 17; refine Calls.mono (by with_reducible exact hV) ?_; rintro e w2 ⟨rfl, b2⟩; have B2 := Lib.hid b2; clear b2)
        | (go_at_call 19; refine Calls.mono (by with_reducible exact hA _) ?_; rintro e w3 ⟨rfl, rfl⟩))
      go_ret3
      exact ⟨rfl, B2.out⟩
    · have hsz1 : ¬ ((3 : Int) ≤ (s.size : Int)) := by omega
      have hsz2 : decide ((3 : Int) ≤ (s.size : Int)) = false := by simp; omega
      go_enter Tryz.func6, Tryz.ntmps6
      go_wp2_with (first
        | (go_at_call 9; refine Calls.mono (by with_reducible exact hM _) ?_; rintro e w1 ⟨rfl, rfl⟩)
        | (go_at_call 17; refine Calls.mono (by with_reducible exact hV) ?_; rintro e w2 ⟨rfl, b2⟩; have B2 := Lib.hid b2; clear b2)
        | (go_at_call 19; refine Calls.mono (by with_reducible exact hA _) ?_; rintro e w3 ⟨rfl, rfl⟩))
      go_ret3
      exact ⟨rfl, B2.out⟩
  · have hok : Lib.validD s.data.toList = true → s.data.toList.any high = false := fun h => by
      cases h2 : s.data.toList.any high with
      | false => rfl
      | true => exact absurd ⟨h, h2⟩ hno
    obtain ⟨B, T, hB, hD2⟩ : ∃ B T, (B = true → s.data.toList.any noSign = false ∧ T = ⟨(docB s.data.toList).toArray⟩) ∧ ∀ w, Calls Tryz.prog 20 #[.string s] w fun e w' => e = .returned (.tuple #[.string T, .bool B]) ∧ Below w.heap.size w w' := by
      cases hn : s.data.toList.any noSign with
      | true =>
        refine ⟨false, ⟨#[]⟩, fun h => (by cases h), fun w => (hD w).mono fun e w' ⟨h1, h2⟩ => ⟨?_, h2⟩⟩
        rcases h1 with ⟨h1, _⟩ | ⟨_, h1⟩
        · exact h1
        · rw [hn] at h1; cases h1
      | false =>
        refine ⟨true, _, fun _ => ⟨rfl, rfl⟩, fun w => (hD w).mono fun e w' ⟨h1, h2⟩ => ⟨?_, h2⟩⟩
        rcases h1 with ⟨_, h1⟩ | ⟨h1, _⟩
        · rw [hn] at h1; cases h1
        · exact h1
    refine ⟨T, B, B, ⟨fun h => by rw [hm] at h; (cases h), fun _ h => by rw [h3] at h; (cases h), fun _ _ h => ⟨hok, (hB h).1, (hB h).2, h⟩⟩, ?_⟩
    obtain ⟨V, hVe⟩ : ∃ V, Lib.validD s.data.toList = V := ⟨_, rfl⟩
    rw [hVe] at hV0 hok
    intro w hT
    have hV := hV0 w hT
    have hA2 : V = true → ∀ w, Calls Tryz.prog 19 #[.string s] w fun e w' => e = .returned (.bool true) ∧ w' = w := fun h w => by
      have := hA w
      have e1 : s.data.toList.any (fun c => decide (127 < c.toNat)) = false := hok h
      rw [e1] at this
      exact this
    clear hm h3 hT hD hA hno hok hVe hB hV0
    by_cases hsz : 3 ≤ s.size
    · have hsz1 : (3 : Int) ≤ (s.size : Int) := by omega
      have hsz2 : decide ((3 : Int) ≤ (s.size : Int)) = true := by simp; omega
      cases V
      · clear hA2
        go_enter Tryz.func6, Tryz.ntmps6
        go_wp2_with (first
          | (go_at_call 9; refine Calls.mono (by with_reducible exact hM _) ?_; rintro e w1 ⟨rfl, rfl⟩)
          | (go_at_call 17; refine Calls.mono (by with_reducible exact hV) ?_; rintro e w2 ⟨rfl, b2⟩; have B2 := Lib.hid b2; clear b2)
          | (go_at_call 20; refine Calls.mono (by with_reducible exact hD2 _) ?_; rintro e w3 ⟨rfl, b3⟩; have B3 := Lib.hid (B2.out.trans (b3.mono B2.out.size)); clear b3))
        go_ret3
        exact ⟨rfl, B3.out⟩
      · have hA3 := hA2 rfl
        clear hA2
        go_enter Tryz.func6, Tryz.ntmps6
        go_wp2_with (first
          | (go_at_call 9; refine Calls.mono (by with_reducible exact hM _) ?_; rintro e w1 ⟨rfl, rfl⟩)
          | (go_at_call 17; refine Calls.mono (by with_reducible exact hV) ?_; rintro e w2 ⟨rfl, b2⟩; have B2 := Lib.hid b2; clear b2)
          | (go_at_call 19; refine Calls.mono (by with_reducible exact hA3 _) ?_; rintro e w4 ⟨rfl, rfl⟩)
          | (go_at_call 20; refine Calls.mono (by with_reducible exact hD2 _) ?_; rintro e w3 ⟨rfl, b3⟩; have B3 := Lib.hid (B2.out.trans (b3.mono B2.out.size)); clear b3))
        go_ret3
        exact ⟨rfl, B3.out⟩
    · have hsz1 : ¬ ((3 : Int) ≤ (s.size : Int)) := by omega
      have hsz2 : decide ((3 : Int) ≤ (s.size : Int)) = false := by simp; omega
      cases V
      · clear hA2
        go_enter Tryz.func6, Tryz.ntmps6
        go_wp2_with (first
          | (go_at_call 9; refine Calls.mono (by with_reducible exact hM _) ?_; rintro e w1 ⟨rfl, rfl⟩)
          | (go_at_call 17; refine Calls.mono (by with_reducible exact hV) ?_; rintro e w2 ⟨rfl, b2⟩; have B2 := Lib.hid b2; clear b2)
          | (go_at_call 20; refine Calls.mono (by with_reducible exact hD2 _) ?_; rintro e w3 ⟨rfl, b3⟩; have B3 := Lib.hid (B2.out.trans (b3.mono B2.out.size)); clear b3))
        go_ret3
        exact ⟨rfl, B3.out⟩
      · have hA3 := hA2 rfl
        clear hA2
        go_enter Tryz.func6, Tryz.ntmps6
        go_wp2_with (first
          | (go_at_call 9; refine Calls.mono (by with_reducible exact hM _) ?_; rintro e w1 ⟨rfl, rfl⟩)
          | (go_at_call 17; refine Calls.mono (by with_reducible exact hV) ?_; rintro e w2 ⟨rfl, b2⟩; have B2 := Lib.hid b2; clear b2)
          | (go_at_call 19; refine Calls.mono (by with_reducible exact hA3 _) ?_; rintro e w4 ⟨rfl, rfl⟩)
          | (go_at_call 20; refine Calls.mono (by with_reducible exact hD2 _) ?_; rintro e w3 ⟨rfl, b3⟩; have B3 := Lib.hid (B2.out.trans (b3.mono B2.out.size)); clear b3))
        go_ret3
        exact ⟨rfl, B3.out⟩

theorem textOf_any (s : ByteArray) (hs : s.size ≤ 4096) : ∃ T B K, Txt s.data.toList T B K ∧ ∀ w, Lib.Utf8Tabs 0 1 w → Calls Tryz.prog 6 #[.string s] w fun e w' => e = .returned (.tuple #[.string T, .bool B, .bool K]) ∧ Below w.heap.size w w' := by
  cases hm : marked s.data.toList with
  | true => exact textOf_marked s hs hm
  | false =>
    cases h3 : mk3 s.data.toList with
    | true => exact textOf_mk3 s hs hm h3
    | false => exact textOf_else s hs hm h3

end Go.Proofs.YtgemkjickljedaaGreatDoor
