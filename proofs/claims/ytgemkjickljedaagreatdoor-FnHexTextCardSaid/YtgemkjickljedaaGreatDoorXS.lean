/- What the small functions of types.Unescape answer. Conditions: none. -/
import Derived.Test.YtgemkjickljedaaGreatDoorXQ
import Derived.Laws.RangeString
namespace Go.Proofs.YtgemkjickljedaaGreatDoor.Lit
open Go.ChangeShapes Go.WideShapes Go.ChangeAt Go.RowKit

set_option maxHeartbeats 1000000 in
theorem idx_oct (D : ByteArray) (hs : D.size = 8) (hat : ∀ k (h : k < D.size), D[k].toNat = 48 + k) (c : UInt8) (w : World) :
    Calls Tryz.prog 66 #[.string D, .int .i32 c.toNat] w fun e w' => ∃ r : Int, e = .returned (.int .i64 r) ∧ decide (0 ≤ r) = oct c ∧ Below w.heap.size w w' := by
  have hc := c.toNat_lt
  have g1 : ((c.toNat : Int) == 65533) = false := by rw [beq_eq_false_iff_ne]; omega
  have g2 : decide ((c.toNat : Int) < 0) = false := by simp
  have g3 : decide (1114111 < (c.toNat : Int)) = false := by simp; omega
  have g4 : decide (55296 ≤ (c.toNat : Int)) = false := by simp; omega
  obtain ⟨z, hz⟩ : ∃ z : Int, z = (c.toNat : Int) := ⟨_, rfl⟩
  obtain ⟨o, ho⟩ : ∃ o, oct c = o := ⟨_, rfl⟩
  have HO : Hid (o = decide (48 ≤ z ∧ z ≤ 55)) := by
    show _ = _
    rw [← ho]; unfold oct; rw [hz]
    rw [decide_eq_decide]; omega
  rw [ho]
  rw [← hz] at g1 g2 g3 g4 ⊢
  have z0 : 0 ≤ z := by omega
  have z1 : z < 256 := by omega
  have HS : Hid (D.size = 8) := hs
  have HA : Hid (∀ k (h : k < D.size), D[k].toNat = 48 + k) := hat
  clear hz ho hc hs hat
  go_enter Tryz.func66, Tryz.ntmps66
  go_wp2_with (fail)
  go_loopw [] (fun wr => ∃ pos : Nat, wr = w.iter D pos ∧ pos ≤ D.size ∧ Hid (∀ j : Nat, j < pos → z ≠ 48 + j)) (fun wr => D.size - wr.iterPos w.heap.size)
  case atStart => exact ⟨0, rfl, Nat.zero_le _, fun j hj => absurd hj (Nat.not_lt_zero _)⟩
  case round =>
    obtain ⟨pos, rfl, hp, HP⟩ := hrel
    by_cases hlt : pos < D.size
    · have hv := HA.out pos hlt
      have h8 := HS.out
      have hn := fun ty => run_next_ascii (P := Tryz.prog) w D pos ty hlt (by omega)
      rw [hv] at hn
      clear hv
      by_cases he : z = 48 + pos
      · have hB : Hid (Below w.heap.size w (w.iter D (pos + 1))) := (Below.refl _ _).alloc (Nat.le_refl _) _
        obtain ⟨wn, hwn⟩ : ∃ wn, w.iter D (pos + 1) = wn := ⟨_, rfl⟩
        rw [hwn] at hn hB
        have d1 : (((48 + pos : Nat) : Int) == z) = true := by rw [beq_iff_eq]; omega
        have HR : Hid (decide (0 ≤ (pos : Int)) = o) := by show _ = _; rw [HO.out, decide_eq_decide]; omega
        clear he
        go_wp2
        go_ret
        exact ⟨pos, rfl, HR.out, hB.out⟩
      · have d1 : (((48 + pos : Nat) : Int) == z) = false := by rw [beq_eq_false_iff_ne]; omega
        have HP2 : Hid (∀ j : Nat, j < pos + 1 → z ≠ 48 + j) := fun j hj => by
          by_cases hjp : j < pos
          · exact HP.out j hjp
          · have : j = pos := by omega
            subst this; omega
        clear he h8
        go_wp2
        go_roundw
        case rel => exact ⟨pos + 1, rfl, by omega, HP2.out⟩
        case measure => simp [World.iterPos, World.iter_heap]; omega
    · have hn := fun ty => run_next_end (P := Tryz.prog) w D pos ty hlt
      have hB : Hid (Below w.heap.size w (w.iter D pos)) := (Below.refl _ _).alloc (Nat.le_refl _) _
      have HR : Hid (false = o) := by
        show _ = _
        rw [HO.out]
        symm
        rw [decide_eq_false_iff_not]
        rintro ⟨h1, h2⟩
        have h8 := HS.out
        exact HP.out (z - 48).toNat (by omega) (by omega)
      obtain ⟨wn, hwn⟩ : ∃ wn, w.iter D pos = wn := ⟨_, rfl⟩
      rw [hwn] at hn hB
      go_wp2
      go_ret
      exact ⟨-1, rfl, HR.out, hB.out⟩

theorem has_oct (c : UInt8) (w : World) : Calls Tryz.prog 50 #[.string ⟨#[48, 49, 50, 51, 52, 53, 54, 55]⟩, .int .i32 c.toNat] w fun e w' => e = .returned (.bool (oct c)) ∧ Below w.heap.size w w' := by
  have hi := idx_oct ⟨#[48, 49, 50, 51, 52, 53, 54, 55]⟩ rfl (by
    intro k h
    have h8 : k < 8 := h
    have : ∀ k (h : k < 8), ((⟨#[48, 49, 50, 51, 52, 53, 54, 55]⟩ : ByteArray)[k]'h).toNat = 48 + k := by decide
    exact this k h8) c w
  obtain ⟨D, hD⟩ : ∃ D : ByteArray, ⟨#[48, 49, 50, 51, 52, 53, 54, 55]⟩ = D := ⟨_, rfl⟩
  rw [hD] at hi ⊢
  clear hD
  go_enter Tryz.func50, Tryz.ntmps50
  go_wp2_with (go_at_call 66; refine Calls.mono (by with_reducible exact hi) ?_; rintro e w1 ⟨r, rfl, hr, hb⟩)
  go_ret
  exact ⟨rfl, hb⟩

theorem regular_any (z : Int) (b : Bool) (w : World) : Calls Tryz.prog 53 #[.int .u8 z, .bool b] w fun e w' => e = .returned (.bool (!(z == 92) && !b)) ∧ w' = w := by
  by_cases h : z = 92
  · subst h
    cases b
    all_goals
      go_enter Tryz.func53, Tryz.ntmps53
      go_wp2
      go_ret
      exact ⟨rfl, rfl⟩
  · have d1 : (z == 92) = false := by rw [beq_eq_false_iff_ne]; omega
    cases b
    all_goals
      go_enter Tryz.func53, Tryz.ntmps53
      go_wp2
      go_ret
      exact ⟨by (simp [d1]; try exact h), rfl⟩

set_option maxHeartbeats 2000000 in
theorem escaped_any (c : UInt8) (w : World) : Calls Tryz.prog 54 #[.int .u8 c.toNat] w fun e w' => e = .returned (.tuple #[.bool (oct c), .int .u8 (escv c).toNat]) ∧ w' = w := by
  by_cases h : c = 110 ∨ c = 114 ∨ c = 116 ∨ c = 98 ∨ c = 102 ∨ c = 40 ∨ c = 41 ∨ c = 48 ∨ c = 49 ∨ c = 50 ∨ c = 51 ∨ c = 52 ∨ c = 53 ∨ c = 54 ∨ c = 55
  · rcases h with rfl | rfl | rfl | rfl | rfl | rfl | rfl | rfl | rfl | rfl | rfl | rfl | rfl | rfl | rfl
    all_goals
      go_enter Tryz.func54, Tryz.ntmps54
      go_wp2
      go_ret2
      exact ⟨rfl, rfl⟩
  · have hk : ∀ k : Nat, k < 256 → c ≠ UInt8.ofNat k → (((c.toNat : Int)) == (k : Int)) = false := by
      intro k hk hne
      rw [beq_eq_false_iff_ne]
      intro e
      exact hne ((u8_eq c k hk).2 (by omega))
    simp only [not_or] at h
    obtain ⟨a1, a2, a3, a4, a5, a6, a7, a8, a9, a10, a11, a12, a13, a14, a15⟩ := h
    have b1 := hk 110 (by decide) a1
    have b2 := hk 114 (by decide) a2
    have b3 := hk 116 (by decide) a3
    have b4 := hk 98 (by decide) a4
    have b5 := hk 102 (by decide) a5
    have b6 := hk 40 (by decide) a6
    have b7 := hk 41 (by decide) a7
    have b8 := hk 48 (by decide) a8
    have b9 := hk 49 (by decide) a9
    have b10 := hk 50 (by decide) a10
    have b11 := hk 51 (by decide) a11
    have b12 := hk 52 (by decide) a12
    have b13 := hk 53 (by decide) a13
    have b14 := hk 54 (by decide) a14
    have b15 := hk 55 (by decide) a15
    have ho : oct c = false := by
      unfold oct
      rw [decide_eq_false_iff_not]
      rintro ⟨h1, h2⟩
      simp only [beq_eq_false_iff_ne] at b8 b9 b10 b11 b12 b13 b14 b15
      omega
    have he : escv c = c := by unfold escv; rw [if_neg a1, if_neg a2, if_neg a3, if_neg a4, if_neg a5]
    rw [ho, he]
    obtain ⟨z, hz⟩ : ∃ z : Int, z = (c.toNat : Int) := ⟨_, rfl⟩
    rw [← hz] at b1 b2 b3 b4 b5 b6 b7 b8 b9 b10 b11 b12 b13 b14 b15 ⊢
    clear hz ho he hk a1 a2 a3 a4 a5 a6 a7 a8 a9 a10 a11 a12 a13 a14 a15
    go_enter Tryz.func54, Tryz.ntmps54
    go_wp2
    go_ret2
    exact ⟨rfl, rfl⟩

end Go.Proofs.YtgemkjickljedaaGreatDoor.Lit
