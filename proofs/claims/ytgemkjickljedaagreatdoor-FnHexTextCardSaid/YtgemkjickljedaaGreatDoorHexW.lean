/- What spec.Hex, spec.White and the reader of hexadecimal strings answer. Conditions: sizes up to 8192 bytes. -/
import Derived.Test.YtgemkjickljedaaGreatDoorHexP
import Derived.Test.YtgemkjickljedaaGreatDoorShelf
import Derived.WalkLawsBesides
import Derived.WalkSpells
import Derived.Lib.Hide
import Derived.BigQuiet
import Derived.WalkSmall
import Derived.ArgAppend
namespace Go.Proofs.YtgemkjickljedaaGreatDoor
open Go.ChangeShapes Go.WideShapes Go.ChangeAt Go.RowKit

theorem Tryz.info5 : (Tryz.prog.info? 5).map (fun i => (i.zero, i.size, i.bytes)) = some (some (.int .u8 0), 1, 1) := by kernel_rfl

theorem digit_any (c : UInt8) (w : World) : Calls Tryz.prog 28 #[.int .u8 c.toNat] w fun e w' => e = .returned (.bool (decide (48 ≤ c.toNat ∧ c.toNat ≤ 57))) ∧ w' = w := by
  have hlt := c.toNat_lt
  by_cases h1 : 48 ≤ c.toNat
  · by_cases h2 : c.toNat ≤ 57
    · go_enter Tryz.func28, Tryz.ntmps28
      go_wp2
      go_ret
      exact ⟨by simp [h1, h2]; omega, rfl⟩
    · go_enter Tryz.func28, Tryz.ntmps28
      go_wp2
      go_ret
      exact ⟨by simp [h1, h2]; omega, rfl⟩
  · go_enter Tryz.func28, Tryz.ntmps28
    go_wp2
    go_ret
    exact ⟨by simp, rfl⟩

theorem hex_any (c : UInt8) (w : World) : Calls Tryz.prog 14 #[.int .u8 c.toNat] w fun e w' => e = .returned (.int .i64 (hv c)) ∧ w' = w := by
  have hlt := c.toNat_lt
  have hd := digit_any c w
  unfold hv
  by_cases h1 : 48 ≤ c.toNat ∧ c.toNat ≤ 57
  · rw [decide_eq_true h1] at hd
    rw [if_pos h1]
    obtain ⟨h1, h2⟩ := h1
    go_enter Tryz.func14, Tryz.ntmps14
    go_wp2_with (go_at_call 28; refine hd.mono ?_; rintro e w1 ⟨rfl, rfl⟩)
    go_ret
    exact ⟨by simp <;> omega, rfl⟩
  · rw [decide_eq_false h1] at hd
    rw [if_neg h1]
    by_cases h2 : 97 ≤ c.toNat ∧ c.toNat ≤ 102
    · rw [if_pos h2]
      obtain ⟨h3, h4⟩ := h2
      go_enter Tryz.func14, Tryz.ntmps14
      go_wp2_with (go_at_call 28; refine hd.mono ?_; rintro e w1 ⟨rfl, rfl⟩)
      go_ret
      exact ⟨by simp; omega, rfl⟩
    · rw [if_neg h2]
      by_cases h3 : 65 ≤ c.toNat ∧ c.toNat ≤ 70
      · rw [if_pos h3]
        obtain ⟨h5, h6⟩ := h3
        go_enter Tryz.func14, Tryz.ntmps14
        go_wp2_with (go_at_call 28; refine hd.mono ?_; rintro e w1 ⟨rfl, rfl⟩)
        go_ret
        exact ⟨by simp; omega, rfl⟩
      · rw [if_neg h3]
        rcases (show c.toNat < 65 ∨ (70 < c.toNat ∧ c.toNat < 97) ∨ 102 < c.toNat from by omega) with h | h | h
        all_goals
          go_enter Tryz.func14, Tryz.ntmps14
          go_wp2_with (go_at_call 28; refine hd.mono ?_; rintro e w1 ⟨rfl, rfl⟩)
          go_ret
          exact ⟨rfl, rfl⟩

/-- A digit is no white space. -/
theorem white_digit (c : UInt8) (h : 0 ≤ hv c) (w : World) : Calls Tryz.prog 29 #[.int .u8 c.toNat] w fun e w' => e = .returned (.bool false) ∧ w' = w := by
  have hge : 48 ≤ c.toNat := by
    unfold hv at h
    split at h
    · omega
    · split at h
      · omega
      · split at h
        · omega
        · omega
  go_enter Tryz.func29, Tryz.ntmps29
  go_wp2
  go_ret
  exact ⟨rfl, rfl⟩

/-- A reader of hexadecimal digits: its cells. -/
structure Rd (b : Nat) (t : ByteArray) (at_ bad : Int) (w : World) : Prop where
  s : w.cell? ⟨b, 0, none⟩ = some (.string t)
  at_ : w.cell? ⟨b, 1, none⟩ = some (.int .i64 at_)
  bad : w.cell? ⟨b, 2, none⟩ = some (.int .i64 bad)
  free : w.frozen? ⟨b, 1, none⟩ = false

theorem own_at {wr : World} {B b : Nat} {v : Value} {m : Nat} {xs : List Value} (h : wr.ownsRow B 5 1 v m xs) (hb : b < B) (q : Nat) (u : Value) (o : Obj) :
    (((wr.drewN q).setCell ⟨b, 1, none⟩ u).alloc o).ownsRow B 5 1 v m xs := (ownsRow_setCell_below (w := wr.drewN q) h (a := ⟨b, 1, none⟩) hb u).alloc o
theorem new_at (wr : World) (b q : Nat) (u X : Value) : ∀ j u', [X][j]? = some u' → (((wr.drewN q).setCell ⟨b, 1, none⟩ u).alloc (.cells #[X] 5)).cell? ((⟨wr.heap.size, 0, none⟩ : Addr).add j) = some u' := by
  have := cell_one_new ((wr.drewN q).setCell ⟨b, 1, none⟩ u) X 5
  simpa using this

theorem Rd.step {b : Nat} {t : ByteArray} {x y : Int} {wr : World} (R : Rd b t x 0 wr) (q : Nat) : Rd b t y 0 ((wr.drewN q).setCell ⟨b, 1, none⟩ (.int .i64 y)) ∧ Below b wr ((wr.drewN q).setCell ⟨b, 1, none⟩ (.int .i64 y)) := by
  obtain ⟨c0, c1, c2, c3⟩ := R
  refine ⟨?_, (below_drewN (Below.refl b wr) q).setCell (p := ⟨b, 1, none⟩) (Nat.le_refl _) _⟩
  constructor <;> go_simp <;> assumption

theorem Rd.after {b B : Nat} {t : ByteArray} {x y : Int} {wr w' : World} {v : Value} {m q : Nat} {xs : List Value} {o : Obj} (R : Rd b t x 0 wr) (hb : b < B) (hB : B ≤ wr.heap.size) (hown : wr.ownsRow B 5 1 v m xs)
    (hg : (((wr.drewN q).setCell ⟨b, 1, none⟩ (.int .i64 y)).alloc o).grownBy w' v.ownBlock) : Rd b t y 0 w' ∧ Below b wr w' ∧ wr.heap.size ≤ w'.heap.size := by
  obtain ⟨⟨c0, c1, c2, c3⟩, hbel⟩ := R.step (y := y) q
  have hsz : ((wr.drewN q).setCell ⟨b, 1, none⟩ (.int .i64 y)).heap.size = wr.heap.size := by simp
  have hblk : w'.heap[b]? = ((wr.drewN q).setCell ⟨b, 1, none⟩ (.int .i64 y)).heap[b]? := by
    rw [hg.block b (by simp; omega) (by intro h; have := (hown.lt b h.symm).1; omega), Below.heap_alloc _ _ _ (by rw [hsz]; omega)]
  have hB2 := (hbel.alloc (by rw [hsz]; omega) o).grown hg (by simp; omega) (fun k hk => by have := (hown.lt k hk).1; omega)
  refine ⟨⟨?_, ?_, ?_, ?_⟩, hB2, hB2.size⟩
  · exact (World.cell?_of_block (a := ⟨b, 0, none⟩) hblk).trans c0
  · exact (World.cell?_of_block (a := ⟨b, 1, none⟩) hblk).trans c1
  · exact (World.cell?_of_block (a := ⟨b, 2, none⟩) hblk).trans c2
  · exact (World.frozen?_of_block (a := ⟨b, 1, none⟩) hblk).trans c3

set_option maxHeartbeats 4000000 in
set_option maxRecDepth 100000 in
/-- The reader at digits between < and >: their bytes, and no failure. -/
theorem read_any (b n : Nat) (t : ByteArray) (g : Nat → UInt8) (w : World) (hn : n ≤ 8192) (ht : t.size = n + 2) (hg : ∀ k (h : k < n), t[k + 1]'(by omega) = g k) (hh : ∀ k, k < n → 0 ≤ hv (g k))
    (he : (t[n + 1]'(by omega)).toNat = 62) (hr : Rd b t 0 0 w) (hb : b < w.heap.size) :
    Calls Tryz.prog 15 #[.pointer (some ⟨b, 0, none⟩)] w fun e w' => ∃ out : ByteArray, e = .returned (.string out) ∧ (n % 2 = 0 → out = ⟨(decg g (n / 2)).toArray⟩) ∧ w'.cell? ⟨b, 2, none⟩ = some (.int .i64 0) ∧ w.heap.size ≤ w'.heap.size ∧ Below b w w' := by
  obtain ⟨i0, hi, hz0, hz1, hz2⟩ := info_parts Tryz.info5
  obtain ⟨r0, r1, r2, r3⟩ := hr
  go_enter Tryz.func15, Tryz.ntmps15
  go_wp2_with (fail)
  obtain ⟨w1, hw1⟩ : ∃ w1, w1 = w.setCell ⟨b, 1, none⟩ (.int .i64 1) := ⟨_, rfl⟩
  have q0 : Rd b t 1 0 w1 := by subst hw1; constructor <;> go_simp <;> assumption
  have q1 : Below b w w1 := by subst hw1; exact (Below.refl b w).setCell (p := ⟨b, 1, none⟩) (Nat.le_refl _) _
  rw [← hw1]
  go_loopw [3, 4, 5] (fun v hf od wr => ∃ (k d : Nat), hf = .int .i64 d ∧ od = .bool (decide (k % 2 = 1)) ∧ k ≤ n ∧ d ≤ 15 ∧ (k % 2 = 1 → d = Lib.Hx.v (g (k - 1))) ∧ Rd b t (k + 1) 0 wr ∧
      wr.ownsRow w.heap.size 5 1 v (k / 2) (vals (decg g (k / 2))) ∧ w.heap.size ≤ wr.heap.size ∧ Hid (Below b w wr))
    (fun _ _ _ wr => match wr.cell? ⟨b, 1, none⟩ with | some v => n + 2 - (intOf v).toNat | none => 0)
  case atStart => exact ⟨0, 0, rfl, rfl, Nat.zero_le _, by decide, by simp, q0, World.ownsRow_nil _ _ _ _, by subst hw1; simp, q1⟩
  case round =>
    obtain ⟨k, d, rfl, rfl, hk, hd15, hhk, hR, hown, hsz, HB⟩ := hrel
    have HR := hR
    obtain ⟨c0, c1, c2, c3⟩ := hR
    by_cases hlt : k < n
    · have hgk := hg k hlt
      have hhx := hh k hlt
      obtain ⟨hv1, hv2⟩ := hv_is _ hhx
      have hW := fun w => white_digit (g k) hhx w
      have hH := fun w => hex_any (g k) w
      have h62 : (g k).toNat ≠ 62 := by
        intro h
        unfold hv at hhx
        simp [h] at hhx
      rw [hv1] at hH
      obtain ⟨d1, hd1⟩ : ∃ d1, d1 = Lib.Hx.v (g k) := ⟨_, rfl⟩
      rw [← hd1] at hH hv2
      have HD : Hid (d1 = Lib.Hx.v (g k)) := hd1
      have HK : Hid (k % 2 = 1 → d = Lib.Hx.v (g (k - 1))) := hhk
      clear hd1 hhk hv1 hhx
      by_cases hodd : k % 2 = 1
      · go_wp2
        go_quiet (fail)
        go_wp2
        go_quiet (fail)
        go_wp2_with (first
          | (go_at_call 29; refine (hW _).mono ?_; rintro e w3 ⟨rfl, rfl⟩)
          | (go_at_call 14; refine (hH _).mono ?_; rintro e w3 ⟨rfl, rfl⟩)
          | (at_builtin; refine wpList_append_own _ rfl _ _ 43 rfl w.heap.size 5 i0 (.int .u8 0) 1 1 Tryz.underlying43 hi hz0 hz1 hz2 rfl (by decide) _ _ _ rfl (own_at hown hb _ _ _) ⟨wr.heap.size, 0, none⟩ 1 1 [.int .u8 (d * 16 + d1)] rfl rfl (new_at wr b _ _ _) (by intro u hu; simp at hu; subst hu; rfl) (by unfold maxLen; omega) (by omega) (by simp; omega) ?_))
        intro v' w' hown' hgrow' hnil
        obtain ⟨R2, B2, s2⟩ := HR.after hb hsz hown hgrow'
        have R2' := R2.at_
        clear hgrow' hnil
        go_wp2
        go_roundw
        case rel =>
          refine ⟨k + 1, d, rfl, by simp; omega, by omega, hd15, by omega, by simpa using R2, ?_, by omega, HB.out.trans B2⟩
          rw [show (k + 1) / 2 = k / 2 + 1 by omega, decg_succ, show 2 * (k / 2) = k - 1 by omega, show k - 1 + 1 = k by omega, ← HK.out hodd, ← HD.out]
          have e : vals (decg g (k / 2) ++ [UInt8.ofNat (d * 16 + d1)]) = vals (decg g (k / 2)) ++ [.int .u8 (d * 16 + d1)] := by
            simp [vals]; omega
          rw [e]; exact hown'
        case measure => simp only [c1, R2']; simp [intOf]; omega
      · go_wp2
        go_quiet (fail)
        go_wp2
        go_quiet (fail)
        go_wp2_with (first
          | (go_at_call 29; refine (hW _).mono ?_; rintro e w3 ⟨rfl, rfl⟩)
          | (go_at_call 14; refine (hH _).mono ?_; rintro e w3 ⟨rfl, rfl⟩))
        have H2 := fun q => HR.step (y := (k : Int) + 1 + 1) q
        refine ⟨⟨k + 1, d1, rfl, by simp; omega, by omega, by omega, fun _ => by simpa using HD.out, by simpa using (H2 _).1, ?_, by simp; omega, HB.out.trans (H2 _).2⟩, ?_⟩
        · rw [show (k + 1) / 2 = k / 2 by omega]
          exact ownsRow_setCell_below (w := wr.drewN _) hown (a := ⟨b, 1, none⟩) hb _
        · rw [(H2 _).1.at_]; simp only [c1]; simp [intOf]; omega
    · have hkn : k = n := by omega
      subst hkn
      clear hhk
      by_cases hodd : k % 2 = 1
      · go_wp2
        go_quiet (fail)
        go_wp2
        go_quiet (fail)
        go_wp2_with (first
          | (at_builtin; refine wpList_append_own _ rfl _ _ 43 rfl w.heap.size 5 i0 (.int .u8 0) 1 1 Tryz.underlying43 hi hz0 hz1 hz2 rfl (by decide) _ _ _ rfl (own_at hown hb _ _ _) ⟨wr.heap.size, 0, none⟩ 1 1 [.int .u8 (d * 16)] rfl rfl (new_at wr b _ _ _) (by intro u hu; simp at hu; subst hu; rfl) (by unfold maxLen; omega) (by omega) (by simp; omega) ?_))
        intro v' w' hown' hgrow' hnil
        obtain ⟨R2, B2, s2⟩ := HR.after hb hsz hown hgrow'
        have e : vals (decg g (k / 2) ++ [UInt8.ofNat (d * 16)]) = vals (decg g (k / 2)) ++ [.int .u8 (d * 16)] := by
          simp [vals]; omega
        have hc := conv_own (l := decg g (k / 2) ++ [UInt8.ofNat (d * 16)]) (by rw [e]; simpa [decg_len] using hown')
        go_wp2
        go_ret
        exact ⟨_, rfl, by omega, R2.bad, by omega, HB.out.trans B2⟩
      · have H2 := fun q => HR.step (y := (k : Int) + 1 + 1) q
        have hc := fun q => conv_own (l := decg g (k / 2)) (by rw [decg_len]; exact ownsRow_setCell_below (w := wr.drewN q) hown (a := ⟨b, 1, none⟩) hb (.int .i64 ((k : Int) + 1 + 1)))
        go_wp2
        go_quiet (fail)
        go_wp2
        go_quiet (fail)
        go_wp2
        go_ret
        exact ⟨_, rfl, fun _ => rfl, (H2 _).1.bad, by simp; omega, HB.out.trans (H2 _).2⟩

end Go.Proofs.YtgemkjickljedaaGreatDoor
