/- What the reader of a literal string and spec.LiteralBytes answer. Conditions: at most 20000 bytes. -/
import Derived.Test.YtgemkjickljedaaDoorXL
namespace Go.Proofs.YtgemkjickljedaaDoor.Lit
open Go.ChangeShapes Go.WideShapes Go.ChangeAt Go.RowKit

theorem new_cell {W : World} {N : Nat} (h : W.heap.size = N) (X : Value) : ∀ j u', [X][j]? = some u' → (W.alloc (.cells #[X] 5)).cell? ((⟨N, 0, none⟩ : Addr).add j) = some u' := by
  subst h; exact cell_one_new _ _ _

/-- As MidL, with the number of the open parentheses. -/
def Mk (l : List UInt8) (k o : Nat) (out : List UInt8) : Prop := MidL l k out ∧ (np false l = true → o = 1 ∧ k ≤ l.length + 1 ∧ np false (l.drop (k - 1)) = true)
theorem Mk.start (l : List UInt8) : Mk l 1 1 [] := ⟨MidL.start l, fun h => ⟨rfl, by omega, by simpa using h⟩⟩
theorem at_end {l : List UInt8} {k : Nat} {c : UInt8} (hc : (l ++ [41])[k - 1]? = some c) (hl : ¬ k - 1 < l.length) : k - 1 = l.length ∧ c = 41 := by
  have h1 : k - 1 = l.length := by
    have := (List.getElem?_eq_some_iff.1 hc).1
    simp at this; omega
  rw [h1, List.getElem?_append_right (Nat.le_refl _)] at hc
  simp at hc
  exact ⟨h1, hc.symm⟩
theorem Mk.plain {l : List UInt8} {k o : Nat} {out : List UInt8} (h : Mk l k o out) (hk : 1 ≤ k) {c : UInt8} (hc : (l ++ [41])[k - 1]? = some c) (h1 : c ≠ 92) (h2 : c ≠ 13) (h3 : c ≠ 40) (h4 : c ≠ 41) : Mk l (k + 1) o (out ++ [c]) := by
  refine ⟨h.1.plain hk hc h1 h2, fun hn => ?_⟩
  obtain ⟨q1, q2, q3⟩ := h.2 hn
  by_cases hl : k - 1 < l.length
  · have hc' : l[k - 1]? = some c := by rwa [List.getElem?_append_left hl] at hc
    rw [drop1' hc', np_n _ h1 (by rintro (h | h | h) <;> contradiction), show k - 1 + 1 = k + 1 - 1 by omega] at q3
    exact ⟨q1, by omega, q3⟩
  · exact absurd (at_end hc hl).2 h4
theorem Mk.par {l : List UInt8} {k o : Nat} {out : List UInt8} (h : Mk l k o out) (hk : 1 ≤ k) {c : UInt8} (hc : (l ++ [41])[k - 1]? = some c) (h1 : c ≠ 92) (h2 : c ≠ 13) (h3 : c = 40 ∨ (c = 41 ∧ o ≠ 1)) (o' : Nat) : Mk l (k + 1) o' (out ++ [c]) := by
  refine ⟨h.1.plain hk hc h1 h2, fun hn => ?_⟩
  obtain ⟨q1, q2, q3⟩ := h.2 hn
  by_cases hl : k - 1 < l.length
  · have hc' : l[k - 1]? = some c := by rwa [List.getElem?_append_left hl] at hc
    rw [drop1' hc', np_no _ (by rcases h3 with h | ⟨h, _⟩; exact .inr (.inl h); exact .inr (.inr h))] at q3
    cases q3
  · rcases h3 with h | ⟨_, h⟩
    · have := (at_end hc hl).2
      rw [h] at this; exact absurd this (by decide)
    · exact absurd q1 h
theorem Mk.cr {l : List UInt8} {k o : Nat} {out : List UInt8} (h : Mk l k o out) (hc : (l ++ [41])[k - 1]? = some 13) (out' : List UInt8) (k' o' : Nat) (hkk : k ≤ k') : Mk l k' o' out' := by
  refine ⟨h.1.cr hc out' k' hkk, fun hn => ?_⟩
  obtain ⟨q1, q2, q3⟩ := h.2 hn
  by_cases hl : k - 1 < l.length
  · have hc' : l[k - 1]? = some 13 := by rwa [List.getElem?_append_left hl] at hc
    rw [drop1' hc', np_no _ (.inl rfl)] at q3
    cases q3
  · exact absurd (at_end hc hl).2 (by decide)
theorem Mk.escape {l : List UInt8} {k o : Nat} {out : List UInt8} (h : Mk l k o out) (hk : 1 ≤ k) (hc : (l ++ [41])[k - 1]? = some 92) :
    Mk l (k + 1 + (esc1 ((l ++ [41]).drop k)).2.2) o (out ++ if (esc1 ((l ++ [41]).drop k)).2.1 = true then [(esc1 ((l ++ [41]).drop k)).1] else []) := by
  refine ⟨h.1.escape hk hc, fun hn => ?_⟩
  obtain ⟨q1, q2, q3⟩ := h.2 hn
  by_cases hl : k - 1 < l.length
  · have hc' : l[k - 1]? = some 92 := by rwa [List.getElem?_append_left hl] at hc
    rw [drop1' hc', np_s, show k - 1 + 1 = k by omega] at q3
    by_cases hn : l.drop k = []
    · rw [hn] at q3; cases q3
    · have hkl : k < l.length := by
        rcases Nat.lt_or_ge k l.length with h | h
        · exact h
        · exact absurd (List.drop_eq_nil_of_le h) hn
      have e : (l ++ [41]).drop k = l.drop k ++ [41] := List.drop_append_of_le_length (by omega)
      rw [e, esc_app _ hn]
      rw [esc_np _ hn, List.drop_drop] at q3
      obtain ⟨_, _, _, q4⟩ := esc_un _ hn
      rw [List.length_drop] at q4
      rw [show k + 1 + (esc1 (l.drop k)).2.2 - 1 = k + (esc1 (l.drop k)).2.2 by omega]
      exact ⟨q1, by omega, q3⟩
  · exact absurd (at_end hc hl).2 (by decide)
theorem Mk.last {l : List UInt8} {k o : Nat} {out : List UInt8} (h : Mk l k o out) (hk : 1 ≤ k) (hc : (l ++ [41])[k - 1]? = some 41) (hn : np false l = true) : k = l.length + 1 := by
  obtain ⟨q1, q2, q3⟩ := h.2 hn
  by_cases hl : k - 1 < l.length
  · have hc' : l[k - 1]? = some 41 := by rwa [List.getElem?_append_left hl] at hc
    rw [drop1' hc', np_no _ (.inr (.inr rfl))] at q3
    cases q3
  · have := (at_end hc hl).1
    omega

/-- What the literal's reader leaves. -/
def LitQ (b : Nat) (s : ByteArray) (w : World) (e : Ending) (w' : World) : Prop :=
  ∃ (S : ByteArray) (k bad : Int), e = .returned (.string S) ∧ w'.cell? ⟨b, 0, none⟩ = some (.string (par s)) ∧ w'.cell? ⟨b, 1, none⟩ = some (.int .i64 k) ∧ w'.cell? ⟨b, 2, none⟩ = some (.int .i64 bad) ∧
    (bad = 0 → k = s.size + 2 → rt false s.data.toList = false → S.data.toList = un .n s.data.toList) ∧ (bad = 0 ∨ bad = 1) ∧ (np false s.data.toList = true → bad = 0 ∧ k = s.size + 2) ∧ Below b w w'

set_option maxHeartbeats 4000000 in
set_option maxRecDepth 100000 in
theorem literal_any (b : Nat) (s : ByteArray) (w : World) (hR : Rl b (par s) 0 w) (hb : b < w.heap.size) (hs : s.size ≤ 20000) :
    Calls Tryd.prog 36 #[.pointer (some ⟨b, 0, none⟩)] w (LitQ b s w) := by
  obtain ⟨i0, hi, hz0, hz1, hz2⟩ := info_parts Tryd.info5
  have hts := par_size s
  have htl := par_list s
  have hln : s.data.toList.length = s.size := by simp
  obtain ⟨t, ht⟩ : ∃ t, par s = t := ⟨_, rfl⟩
  obtain ⟨l, hl⟩ : ∃ l, s.data.toList = l := ⟨_, rfl⟩
  obtain ⟨n, hn⟩ : ∃ n, s.size = n := ⟨_, rfl⟩
  rw [ht] at hts htl hR
  rw [hl] at htl hln
  rw [hn] at hts hln hs
  have HL : Hid (t.data.toList = 40 :: (l ++ [41]) ∧ l.length = n ∧ t.size = n + 2 ∧ par s = t ∧ s.data.toList = l ∧ s.size = n) := ⟨htl, hln, hts, ht, hl, hn⟩
  have hgetK : ∀ k, 1 ≤ k → (hk : k < t.size) → (l ++ [41])[k - 1]? = some t[k] := fun k h1 hk => by
    have := get_of hk
    rw [htl] at this
    obtain ⟨j, rfl⟩ : ∃ j, k = j + 1 := ⟨k - 1, by omega⟩
    simpa using this
  have HG : Hid (∀ k, 1 ≤ k → (hk : k < t.size) → (l ++ [41])[k - 1]? = some t[k]) := hgetK
  have ht0 : 0 < t.size := by omega
  have h40 : (t[0]'ht0).toNat = 40 := by
    have := get_of (s := t) (k := 0) ht0
    rw [htl] at this
    have := Option.some.inj this
    rw [← this]; rfl
  have htn : t.size ≤ 20002 := by omega
  have ht2 : 2 ≤ t.size := by omega
  have hESC := fun (w' : World) (a : Nat) (hr : Rl b t a w') (ha : a < t.size) => escape_any b a t w' hr ha (by omega)
  have HESC : Hid (∀ (w' : World) (a : Nat), Rl b t a w' → a < t.size → Calls Tryd.prog 59 #[.pointer (some ⟨b, 0, none⟩)] w' (EscQ b t a w')) := hESC
  clear hgetK htl hln hts ht hl hn hESC
  unfold LitQ
  go_enter Tryd.func36, Tryd.ntmps36
  go_wp2_with (fail)
  go_loopw [3, 4] (fun v ov wr => ∃ (k o : Nat) (out : List UInt8), ov = .int .i64 o ∧ k ≤ t.size ∧ o ≤ k ∧ out.length ≤ k ∧ ((k = 0 ∧ o = 0) ∨ (1 ≤ k ∧ 1 ≤ o)) ∧ w.heap.size ≤ wr.heap.size ∧ Rl b t (k : Int) wr ∧
      wr.ownsRow w.heap.size 5 1 v out.length (vals out) ∧ Hid ((k = 0 → out = []) ∧ (1 ≤ k → Mk l k o out) ∧ Below b w wr))
    (fun _ _ wr => match wr.cell? ⟨b, 1, none⟩ with | some v => 21000 - (intOf v).toNat | none => 0)
  case atStart => exact ⟨0, 0, [], rfl, Nat.zero_le _, Nat.le_refl _, Nat.le_refl _, .inl ⟨rfl, rfl⟩, Nat.le_refl _, hR, World.ownsRow_nil _ _ _ _, fun _ => rfl, fun h => by omega, Below.refl _ _⟩
  case round =>
    obtain ⟨k, o, out, rfl, hk, hok, hol, hko, hsz, hRw, hown, HM⟩ := hrel
    have HRw := hRw
    obtain ⟨q0, q1, q2, q3, q4, q5, q6⟩ := hRw
    clear hR
    by_cases hlt : k < t.size
    · have d0 : decide ((k : Int) < (t.size : Int)) = true := by simp; omega
      have S1 := fun q => (HRw.drewN q).step ((k : Int) + 1)
      have T1 := fun q => ((Turn.refl b wr).drewN q).trans (S1 q).2
      have hQ1 := q1
      rcases hko with ⟨hk0, ho0⟩ | ⟨hk1, ho1⟩
      · subst hk0
        subst ho0
        have z40 : ((t[0]'ht0).toNat : Int) = 40 := by omega
        go_wp2
        go_quiet (fail)
        go_wp2
        go_quiet (fail)
        go_wp2
        obtain rfl : out = [] := HM.out.1 (by simp)
        exact ⟨⟨1, 1, [], by simp, by omega, Nat.le_refl _, by simp, .inr ⟨by omega, by omega⟩, by simpa using hsz, by simpa using (S1 _).1, own_turn (T1 _) hown hb, fun h => by omega, fun _ => Mk.start l, HM.out.2.2.trans (T1 _).below⟩, by
          have h1 := fun q => (S1 q).1.at_
          simp at h1 hQ1
          simp [h1, hQ1, intOf]⟩
      · have hM := HM.out.2.1 hk1
        have hget := HG.out k hk1 hlt
        obtain ⟨c, hc⟩ : ∃ c, t[k] = c := ⟨_, rfl⟩
        rw [hc] at hget
        have lc := c.toNat_lt
        have hk41 : c.toNat ≠ 41 → k + 1 < t.size := fun h => by
          have h1 := HL.out.2.2.1
          have h2 := HL.out.2.1
          rcases Nat.lt_or_ge (k + 1) t.size with h3 | h3
          · exact h3
          · exfalso
            rw [show k - 1 = l.length by omega, List.getElem?_append_right (Nat.le_refl _)] at hget
            simp at hget
            apply h; rw [← hget]; rfl
        by_cases c40 : c.toNat = 40
        · have z1 : ((c.toNat : Int) == 40) = true := by simp; omega
          have z2 : ((o : Int) + 1 == 1) = false := by simp; omega
          have hMM : Hid (Mk l (k + 1) (o + 1) (out ++ [c])) := hM.par hk1 hget (fun e => by rw [e] at c40; revert c40; decide) (fun e => by rw [e] at c40; revert c40; decide) (.inl ((u8_eq c 40 (by decide)).2 c40)) _
          clear hM hget c40 hk41
          go_wp2
          go_quiet (fail)
          go_wp2
          go_quiet (fail)
          go_wp2_with (at_builtin; refine wpList_append_own _ rfl _ _ 22 rfl w.heap.size 5 i0 (.int .u8 0) 1 1 Tryd.underlying22 hi hz0 hz1 hz2 rfl (by decide) _ _ _ rfl ((own_turn (T1 _) hown hb).alloc _) ⟨wr.heap.size, 0, none⟩ 1 1 [.int .u8 c.toNat] rfl rfl (new_at wr b _ _ _) (by intro u hu; simp at hu; subst hu; rfl) (by unfold maxLen; omega) (by omega) (by simp; omega) ?_)
          intro v' w' hown' hgrow' hnil
          have hRB := Rl.grown ((S1 _).1) hb (by first | exact hsz | simpa using hsz | (simp; omega)) (own_turn (T1 _) hown hb) hgrow'
          have HRB : Hid (Rl b t ((k : Int) + 1) w' ∧ Below b w w' ∧ w.heap.size ≤ w'.heap.size) := ⟨hRB.1, HM.out.2.2.trans ((T1 _).below.trans hRB.2.1), by have := hRB.2.2; simp at this; omega⟩
          clear hRB hgrow' hnil
          go_wp2
          go_roundw
          case rel => exact ⟨k + 1, o + 1, out ++ [c], by first | rfl | simp | (simp; omega), by omega, by omega, by simp; omega, .inr ⟨by omega, by omega⟩, HRB.out.2.2, by have := HRB.out.1; simpa using this, by rw [vals_snoc]; simpa using hown', fun h => by omega, fun _ => hMM.out, HRB.out.2.1⟩
          case measure => rw [HRB.out.1.at_, hQ1]; simp [intOf]; omega
        · have z1 : ((c.toNat : Int) == 40) = false := by simp; omega
          by_cases c41 : c.toNat = 41
          · have z2 : ((c.toNat : Int) == 41) = true := by simp; omega
            have HMM : Hid (o ≠ 1 → Mk l (k + 1) (o - 1) (out ++ [c])) := fun ho => hM.par hk1 hget (fun e => by rw [e] at c41; revert c41; decide) (fun e => by rw [e] at c41; revert c41; decide) (.inr ⟨(u8_eq c 41 (by decide)).2 c41, ho⟩) _
            have HGL : Hid ((l ++ [41])[k - 1]? = some 41) := by rw [(u8_eq c 41 (by decide)).2 c41] at hget; exact hget
            have HM0 : Hid (Mk l k o out) := hM
            clear hM hget c40 c41 hk41
            by_cases ho : o = 1
            · subst ho
              have hcv := fun q => conv_own (own_turn (T1 q) hown hb)
              go_wp2
              go_quiet (fail)
              go_wp2
              go_quiet (fail)
              go_wp2
              go_ret
              refine ⟨_, _, 0, rfl, ?_, (S1 _).1.at_, (S1 _).1.bad, ?_, .inl rfl, ?_, HM.out.2.2.trans (T1 _).below⟩
              · rw [HL.out.2.2.2.1]; exact (S1 _).1.s
              · intro _ hkk hrt
                have e1 : k = l.length + 1 := by have := HL.out.2.1; have := HL.out.2.2.2.2.2; omega
                rw [HL.out.2.2.2.2.1] at hrt ⊢
                have := HM0.out.1
                rw [e1] at this
                rw [this.done hrt]
              · intro hnp
                rw [HL.out.2.2.2.2.1] at hnp
                have h1 := HM0.out.last hk1 HGL.out hnp
                have h2 := HL.out.2.1
                have h3 := HL.out.2.2.2.2.2
                exact ⟨rfl, by omega⟩
            · have z3 : ((o : Int) - 1 == 0) = false := by simp; omega
              have ho2 : ((o : Int) - 1) = ((o - 1 : Nat) : Int) := by omega
              have ho3 : 2 ≤ o := by omega
              have HMM : Hid (Mk l (k + 1) (o - 1) (out ++ [c])) := HMM.out ho
              clear ho
              go_wp2
              go_quiet (fail)
              go_wp2
              go_quiet (fail)
              go_wp2_with (at_builtin; refine wpList_append_own _ rfl _ _ 22 rfl w.heap.size 5 i0 (.int .u8 0) 1 1 Tryd.underlying22 hi hz0 hz1 hz2 rfl (by decide) _ _ _ rfl ((own_turn (T1 _) hown hb).alloc _) ⟨wr.heap.size, 0, none⟩ 1 1 [.int .u8 c.toNat] rfl rfl (new_at wr b _ _ _) (by intro u hu; simp at hu; subst hu; rfl) (by unfold maxLen; omega) (by omega) (by simp; omega) ?_)
              intro v' w' hown' hgrow' hnil
              have hRB := Rl.grown ((S1 _).1) hb (by first | exact hsz | simpa using hsz | (simp; omega)) (own_turn (T1 _) hown hb) hgrow'
              have HRB : Hid (Rl b t ((k : Int) + 1) w' ∧ Below b w w' ∧ w.heap.size ≤ w'.heap.size) := ⟨hRB.1, HM.out.2.2.trans ((T1 _).below.trans hRB.2.1), by have := hRB.2.2; simp at this; omega⟩
              clear hRB hgrow' hnil
              go_wp2
              go_roundw
              case rel => exact ⟨k + 1, o - 1, out ++ [c], by first | rfl | simp | (simp; omega), by omega, by omega, by simp; omega, .inr ⟨by omega, by omega⟩, HRB.out.2.2, by have := HRB.out.1; simpa using this, by rw [vals_snoc]; simpa using hown', fun h => by omega, fun _ => HMM.out, HRB.out.2.1⟩
              case measure => rw [HRB.out.1.at_, hQ1]; simp [intOf]; omega
          · have z2 : ((c.toNat : Int) == 41) = false := by simp; omega
            have hk1n := hk41 c41
            by_cases c13 : c.toNat = 13
            · have z3 : ((c.toNat : Int) == 13) = true := by simp; omega
              have hget13 : (l ++ [41])[k - 1]? = some 13 := by rw [hget, (u8_eq c 13 (by decide)).2 c13]; rfl
              have hMM : Hid (∀ out' k' o', k ≤ k' → Mk l k' o' out') := fun out' k' o' h => hM.cr hget13 out' k' o' h
              have S2 := fun q q' => ((S1 q).1.drewN q').step ((k : Int) + 1 + 1)
              have T2 := fun q q' => ((T1 q).drewN q').trans (S2 q q').2
              have hg1 := get_of hk1n
              obtain ⟨d, hd⟩ : ∃ d, t[k + 1] = d := ⟨_, rfl⟩
              have ld := d.toNat_lt
              have d1 : decide ((k : Int) + 1 < (t.size : Int)) = true := by simp; omega
              have d2 : (k : Int) + 1 < (t.size : Int) := by omega
              clear hM hget hget13 c40 c41 c13 hk41 hg1
              by_cases d10 : d.toNat = 10
              · have z5 : ((d.toNat : Int) == 10) = true := by simp; omega
                clear d10
                go_wp2
                go_quiet (fail)
                go_wp2
                go_quiet (fail)
                go_wp2
                go_quiet (fail)
                go_wp2_with (at_builtin; refine wpList_append_own _ rfl _ _ 22 rfl w.heap.size 5 i0 (.int .u8 0) 1 1 Tryd.underlying22 hi hz0 hz1 hz2 rfl (by decide) _ _ _ rfl ((own_turn (T2 _ _) hown hb).alloc _) ⟨wr.heap.size, 0, none⟩ 1 1 [.int .u8 10] rfl rfl (new_cell (by simp) _) (by intro u hu; simp at hu; subst hu; rfl) (by unfold maxLen; omega) (by omega) (by simp; omega) ?_)
                intro v' w' hown' hgrow' hnil
                have hRB := Rl.grown ((S2 _ _).1) hb (by first | exact hsz | simpa using hsz | (simp; omega)) (own_turn (T2 _ _) hown hb) hgrow'
                have HRB : Hid (Rl b t ((k : Int) + 1 + 1) w' ∧ Below b w w' ∧ w.heap.size ≤ w'.heap.size) := ⟨hRB.1, HM.out.2.2.trans ((T2 _ _).below.trans hRB.2.1), by have := hRB.2.2; simp at this; omega⟩
                clear hRB hgrow' hnil
                go_wp2
                go_roundw
                case rel => exact ⟨k + 1 + 1, o, out ++ [10], by first | rfl | simp | (simp; omega), by omega, by omega, by simp; omega, .inr ⟨by omega, by omega⟩, HRB.out.2.2, by have := HRB.out.1; simpa using this, by rw [vals_snoc]; simpa using hown', fun h => by omega, fun _ => hMM.out _ _ _ (by omega), HRB.out.2.1⟩
                case measure => rw [HRB.out.1.at_, hQ1]; simp [intOf]; omega
              · have z5 : ((d.toNat : Int) == 10) = false := by simp; omega
                clear d10
                go_wp2
                go_quiet (fail)
                go_wp2
                go_quiet (fail)
                go_wp2
                go_quiet (fail)
                go_wp2_with (at_builtin; refine wpList_append_own _ rfl _ _ 22 rfl w.heap.size 5 i0 (.int .u8 0) 1 1 Tryd.underlying22 hi hz0 hz1 hz2 rfl (by decide) _ _ _ rfl ((own_turn ((T1 _).drewN _) hown hb).alloc _) ⟨wr.heap.size, 0, none⟩ 1 1 [.int .u8 10] rfl rfl (new_cell (by simp) _) (by intro u hu; simp at hu; subst hu; rfl) (by unfold maxLen; omega) (by omega) (by simp; omega) ?_)
                intro v' w' hown' hgrow' hnil
                have hRB := Rl.grown ((S1 _).1.drewN _) hb (by first | exact hsz | simpa using hsz | (simp; omega)) (own_turn ((T1 _).drewN _) hown hb) hgrow'
                have HRB : Hid (Rl b t ((k : Int) + 1) w' ∧ Below b w w' ∧ w.heap.size ≤ w'.heap.size) := ⟨hRB.1, HM.out.2.2.trans (((T1 _).drewN _).below.trans hRB.2.1), by have := hRB.2.2; simp at this; omega⟩
                clear hRB hgrow' hnil
                go_wp2
                go_roundw
                case rel => exact ⟨k + 1, o, out ++ [10], by first | rfl | simp | (simp; omega), by omega, by omega, by simp; omega, .inr ⟨by omega, by omega⟩, HRB.out.2.2, by have := HRB.out.1; simpa using this, by rw [vals_snoc]; simpa using hown', fun h => by omega, fun _ => hMM.out _ _ _ (by omega), HRB.out.2.1⟩
                case measure => rw [HRB.out.1.at_, hQ1]; simp [intOf]; omega
            · have z3 : ((c.toNat : Int) == 13) = false := by simp; omega
              by_cases c92 : c.toNat = 92
              · have z4 : ((c.toNat : Int) == 92) = true := by simp; omega
                have hget92 : (l ++ [41])[k - 1]? = some 92 := by rw [hget, (u8_eq c 92 (by decide)).2 c92]; rfl
                have hesc := hM.escape hk1 hget92
                have hdr : t.data.toList.drop (k + 1) = (l ++ [41]).drop k := by rw [HL.out.1, List.drop_succ_cons]
                have hne : (l ++ [41]).drop k ≠ [] := fun e => by
                  have h1 := congrArg List.length e
                  have h2 := HL.out.2.1
                  have h3 := HL.out.2.2.1
                  simp at h1; omega
                have hcnt := (esc_un _ hne).2.2
                have hln2 : ((l ++ [41]).drop k).length + (k + 1) = t.size := by
                  have h2 := HL.out.2.1
                  have h3 := HL.out.2.2.1
                  rw [List.length_drop, List.length_append, List.length_cons, List.length_nil]; omega
                obtain ⟨x, is, cnt, hE⟩ : ∃ x is cnt, esc1 ((l ++ [41]).drop k) = (x, is, cnt) := ⟨_, _, _, rfl⟩
                rw [hE] at hesc hcnt
                simp only at hesc hcnt
                have hC : ∀ w', Rl b t ((k + 1 : Nat) : Int) w' → Calls Tryd.prog 59 #[.pointer (some ⟨b, 0, none⟩)] w' fun e w'' => e = .returned (.tuple #[.int .u8 x.toNat, .bool is]) ∧ Rl b t ((k + 1 + cnt : Nat) : Int) w'' ∧ Turn b w' w'' := fun w' h =>
                  (HESC.out w' (k + 1) h hk1n).mono fun e w'' hq => by
                    unfold EscQ at hq
                    rw [hdr, hE] at hq
                    exact hq
                have S1' := fun q => (by simpa using (S1 q).1 : Rl b t ((k + 1 : Nat) : Int) ((wr.drewN q).setCell ⟨b, 1, none⟩ (.int .i64 ((k : Int) + 1))))
                have HMM : Hid (Mk l (k + 1 + cnt) o (out ++ if is = true then [x] else [])) := hesc
                obtain ⟨hc1, hc2⟩ := hcnt
                have hkc : k + 1 + cnt ≤ t.size := by omega
                have lx := x.toNat_lt
                clear hM hget hget92 c40 c41 c13 c92 hk41 hesc hdr hne hE hln2 hc2
                cases is
                · have hm3 : Mk l (k + 1 + cnt) o out := by have := HMM.out; simpa using this
                  replace HMM : Hid (Mk l (k + 1 + cnt) o out) := hm3
                  clear hm3
                  clear lx
                  go_wp2
                  go_quiet (fail)
                  go_wp2
                  go_quiet (fail)
                  go_wp2_with (go_at_call 59; refine Calls.mono (hC _ (S1' _)) ?_; rintro e w3 ⟨rfl, R3, T3⟩)
                  have T4 := (T1 _).trans T3
                  exact ⟨⟨k + 1 + cnt, o, out, rfl, hkc, by omega, by omega, .inr ⟨by omega, by omega⟩, by rw [T4.size]; exact hsz, R3, own_turn T4 hown hb, fun h => by omega, fun _ => HMM.out, HM.out.2.2.trans T4.below⟩, by rw [R3.at_, hQ1]; simp [intOf]; omega⟩
                · have hm3 : Mk l (k + 1 + cnt) o (out ++ [x]) := by have := HMM.out; simpa using this
                  replace HMM : Hid (Mk l (k + 1 + cnt) o (out ++ [x])) := hm3
                  clear hm3
                  go_wp2
                  go_quiet (fail)
                  go_wp2
                  go_quiet (fail)
                  go_wp2_with (first
                    | (go_at_call 59; refine Calls.mono (hC _ (S1' _)) ?_; rintro e w3 ⟨rfl, R3, T3⟩; have T4 := (T1 _).trans T3; have hsz4 := T4.size)
                    | (at_builtin; refine wpList_append_own _ rfl _ _ 22 rfl w.heap.size 5 i0 (.int .u8 0) 1 1 Tryd.underlying22 hi hz0 hz1 hz2 rfl (by decide) _ _ _ rfl ((own_turn T4 hown hb).alloc _) ⟨wr.heap.size, 0, none⟩ 1 1 [.int .u8 x.toNat] rfl rfl (new_cell hsz4 _) (by intro u hu; simp at hu; subst hu; rfl) (by unfold maxLen; omega) (by omega) (by simp; omega) ?_))
                  intro v' w' hown' hgrow' hnil
                  have hRB := Rl.grown R3 hb (by omega) (own_turn T4 hown hb) hgrow'
                  have HRB : Hid (Rl b t ((k + 1 + cnt : Nat) : Int) w' ∧ Below b w w' ∧ w.heap.size ≤ w'.heap.size) := ⟨hRB.1, HM.out.2.2.trans (T4.below.trans hRB.2.1), by have := hRB.2.2; omega⟩
                  clear hRB hgrow' hnil
                  go_wp2
                  exact ⟨⟨k + 1 + cnt, o, out ++ [x], rfl, hkc, by omega, by simp; omega, .inr ⟨by omega, by omega⟩, HRB.out.2.2, HRB.out.1, by rw [vals_snoc]; simpa using hown', fun h => by omega, fun _ => HMM.out, HRB.out.2.1⟩, by rw [HRB.out.1.at_, hQ1]; simp [intOf]; omega⟩
              · have z4 : ((c.toNat : Int) == 92) = false := by simp; omega
                have hMM : Hid (Mk l (k + 1) o (out ++ [c])) := hM.plain hk1 hget (fun e => by rw [e] at c92; revert c92; decide) (fun e => by rw [e] at c13; revert c13; decide) (fun e => by rw [e] at c40; revert c40; decide) (fun e => by rw [e] at c41; revert c41; decide)
                clear hM hget c40 c41 c13 c92 hk41
                go_wp2
                go_quiet (fail)
                go_wp2
                go_quiet (fail)
                go_wp2_with (at_builtin; refine wpList_append_own _ rfl _ _ 22 rfl w.heap.size 5 i0 (.int .u8 0) 1 1 Tryd.underlying22 hi hz0 hz1 hz2 rfl (by decide) _ _ _ rfl ((own_turn (T1 _) hown hb).alloc _) ⟨wr.heap.size, 0, none⟩ 1 1 [.int .u8 c.toNat] rfl rfl (new_at wr b _ _ _) (by intro u hu; simp at hu; subst hu; rfl) (by unfold maxLen; omega) (by omega) (by simp; omega) ?_)
                intro v' w' hown' hgrow' hnil
                have hRB := Rl.grown ((S1 _).1) hb (by first | exact hsz | simpa using hsz | (simp; omega)) (own_turn (T1 _) hown hb) hgrow'
                have HRB : Hid (Rl b t ((k : Int) + 1) w' ∧ Below b w w' ∧ w.heap.size ≤ w'.heap.size) := ⟨hRB.1, HM.out.2.2.trans ((T1 _).below.trans hRB.2.1), by have := hRB.2.2; simp at this; omega⟩
                clear hRB hgrow' hnil
                go_wp2
                go_roundw
                case rel => exact ⟨k + 1, o, out ++ [c], by first | rfl | simp | (simp; omega), by omega, by omega, by simp; omega, .inr ⟨by omega, by omega⟩, HRB.out.2.2, by have := HRB.out.1; simpa using this, by rw [vals_snoc]; simpa using hown', fun h => by omega, fun _ => hMM.out, HRB.out.2.1⟩
                case measure => rw [HRB.out.1.at_, hQ1]; simp [intOf]; omega
    · have d0 : decide ((k : Int) < (t.size : Int)) = false := by simp; omega
      have hbr : b < wr.heap.size := by omega
      have hF := fun q => fail_any b t (k : Int) ((wr.drewN q).setCell ⟨b, 5, none⟩ (.bool true)) (by go_simp) (by go_simp) (by go_simp) (by go_simp) (by simpa using hbr)
      have hBe := fun q => (below_drewN (Below.refl b wr) q).setCell (p := ⟨b, 5, none⟩) (Nat.le_refl _) (.bool true)
      go_wp2
      go_quiet (fail)
      go_wp2_with (go_at_call 47; refine Calls.mono (by with_reducible exact hF _) ?_; rintro e w3 ⟨v, rfl, g0, g1, g2, g3⟩)
      go_ret
      refine ⟨_, _, 1, rfl, by rw [HL.out.2.2.2.1]; exact g0, g1, g2, fun h => by omega, .inr rfl, fun hnp => ?_, HM.out.2.2.trans ((hBe _).trans g3)⟩
      rw [HL.out.2.2.2.2.1] at hnp
      have h1 := (HM.out.2.1 (by omega)).2 hnp
      have h2 := HL.out.2.1
      have h3 := HL.out.2.2.1
      omega

end Go.Proofs.YtgemkjickljedaaDoor.Lit
