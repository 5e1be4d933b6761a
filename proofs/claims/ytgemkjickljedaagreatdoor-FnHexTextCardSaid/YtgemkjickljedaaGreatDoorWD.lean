/- What spec.docSign answers. Conditions: none. -/
import Derived.Test.YtgemkjickljedaaGreatDoorWC
namespace Go.Proofs.YtgemkjickljedaaGreatDoor
open Go.ChangeShapes Go.WideShapes Go.ChangeAt Go.RowKit

theorem sign_cell (l : List Int) (j : Nat) (hj : j < l.length) : (l.map fun z => Value.int .i32 z)[j]? = some (.int .i32 (l.getD j 0)) := by
  rw [List.getElem?_map, List.getElem?_eq_getElem hj]
  simp [List.getD, List.getElem?_eq_getElem hj]

set_option maxHeartbeats 1000000 in
set_option maxRecDepth 100000 in
theorem docSign_any (c : UInt8) (w : World) : Calls Tryz.prog 32 #[.int .u8 (c.toNat : Int)] w fun e w' => e = .returned (.int .i32 (sign c.toNat)) ∧ Below w.heap.size w w' := by
  have hS := signs_any w
  have hW : Below w.heap.size w ((w.alloc (.cells #[.int .i32 728, .int .i32 711, .int .i32 710, .int .i32 729, .int .i32 733, .int .i32 731, .int .i32 730, .int .i32 732] 21)).alloc (.cells #[.int .i32 8226, .int .i32 8224, .int .i32 8225, .int .i32 8230, .int .i32 8212, .int .i32 8211, .int .i32 402, .int .i32 8260, .int .i32 8249, .int .i32 8250, .int .i32 8722, .int .i32 8240, .int .i32 8222, .int .i32 8220, .int .i32 8221, .int .i32 8216, .int .i32 8217, .int .i32 8218, .int .i32 8482, .int .i32 64257, .int .i32 64258, .int .i32 321, .int .i32 338, .int .i32 352, .int .i32 376, .int .i32 381, .int .i32 305, .int .i32 322, .int .i32 339, .int .i32 353, .int .i32 382] 21)) := ((Below.refl _ _).alloc (Nat.le_refl _) _).alloc (by simp) _
  have hlow : ∀ j, j < 8 → ((w.alloc (.cells #[.int .i32 728, .int .i32 711, .int .i32 710, .int .i32 729, .int .i32 733, .int .i32 731, .int .i32 730, .int .i32 732] 21)).alloc (.cells #[.int .i32 8226, .int .i32 8224, .int .i32 8225, .int .i32 8230, .int .i32 8212, .int .i32 8211, .int .i32 402, .int .i32 8260, .int .i32 8249, .int .i32 8250, .int .i32 8722, .int .i32 8240, .int .i32 8222, .int .i32 8220, .int .i32 8221, .int .i32 8216, .int .i32 8217, .int .i32 8218, .int .i32 8482, .int .i32 64257, .int .i32 64258, .int .i32 321, .int .i32 338, .int .i32 352, .int .i32 376, .int .i32 381, .int .i32 305, .int .i32 322, .int .i32 339, .int .i32 353, .int .i32 382] 21)).cell? ⟨w.heap.size, j, none⟩ = some (.int .i32 (lowS.getD j 0)) := fun j hj => by
    have h1 := heap_alloc_new w (.cells #[.int .i32 728, .int .i32 711, .int .i32 710, .int .i32 729, .int .i32 733, .int .i32 731, .int .i32 730, .int .i32 732] 21)
    have h2 := (Below.heap_alloc (w.alloc (.cells #[.int .i32 728, .int .i32 711, .int .i32 710, .int .i32 729, .int .i32 733, .int .i32 731, .int .i32 730, .int .i32 732] 21)) (.cells #[.int .i32 8226, .int .i32 8224, .int .i32 8225, .int .i32 8230, .int .i32 8212, .int .i32 8211, .int .i32 402, .int .i32 8260, .int .i32 8249, .int .i32 8250, .int .i32 8722, .int .i32 8240, .int .i32 8222, .int .i32 8220, .int .i32 8221, .int .i32 8216, .int .i32 8217, .int .i32 8218, .int .i32 8482, .int .i32 64257, .int .i32 64258, .int .i32 321, .int .i32 338, .int .i32 352, .int .i32 376, .int .i32 381, .int .i32 305, .int .i32 322, .int .i32 339, .int .i32 353, .int .i32 382] 21) w.heap.size (by simp)).trans h1
    rw [cell_of_row _ _ j _ _ _ h2]
    have h3 := sign_cell lowS j hj
    simpa [lowS] using h3
  have hhigh : ∀ j, j < 31 → ((w.alloc (.cells #[.int .i32 728, .int .i32 711, .int .i32 710, .int .i32 729, .int .i32 733, .int .i32 731, .int .i32 730, .int .i32 732] 21)).alloc (.cells #[.int .i32 8226, .int .i32 8224, .int .i32 8225, .int .i32 8230, .int .i32 8212, .int .i32 8211, .int .i32 402, .int .i32 8260, .int .i32 8249, .int .i32 8250, .int .i32 8722, .int .i32 8240, .int .i32 8222, .int .i32 8220, .int .i32 8221, .int .i32 8216, .int .i32 8217, .int .i32 8218, .int .i32 8482, .int .i32 64257, .int .i32 64258, .int .i32 321, .int .i32 338, .int .i32 352, .int .i32 376, .int .i32 381, .int .i32 305, .int .i32 322, .int .i32 339, .int .i32 353, .int .i32 382] 21)).cell? ⟨w.heap.size + 1, j, none⟩ = some (.int .i32 (highS.getD j 0)) := fun j hj => by
    have h2 := heap_alloc_new (w.alloc (.cells #[.int .i32 728, .int .i32 711, .int .i32 710, .int .i32 729, .int .i32 733, .int .i32 731, .int .i32 730, .int .i32 732] 21)) (.cells #[.int .i32 8226, .int .i32 8224, .int .i32 8225, .int .i32 8230, .int .i32 8212, .int .i32 8211, .int .i32 402, .int .i32 8260, .int .i32 8249, .int .i32 8250, .int .i32 8722, .int .i32 8240, .int .i32 8222, .int .i32 8220, .int .i32 8221, .int .i32 8216, .int .i32 8217, .int .i32 8218, .int .i32 8482, .int .i32 64257, .int .i32 64258, .int .i32 321, .int .i32 338, .int .i32 352, .int .i32 376, .int .i32 381, .int .i32 305, .int .i32 322, .int .i32 339, .int .i32 353, .int .i32 382] 21)
    rw [show (w.alloc (.cells #[.int .i32 728, .int .i32 711, .int .i32 710, .int .i32 729, .int .i32 733, .int .i32 731, .int .i32 730, .int .i32 732] 21)).heap.size = w.heap.size + 1 by simp] at h2
    rw [cell_of_row _ _ j _ _ _ h2]
    have h3 := sign_cell highS j hj
    simpa [highS] using h3
  generalize ((w.alloc (.cells #[.int .i32 728, .int .i32 711, .int .i32 710, .int .i32 729, .int .i32 733, .int .i32 731, .int .i32 730, .int .i32 732] 21)).alloc (.cells #[.int .i32 8226, .int .i32 8224, .int .i32 8225, .int .i32 8230, .int .i32 8212, .int .i32 8211, .int .i32 402, .int .i32 8260, .int .i32 8249, .int .i32 8250, .int .i32 8722, .int .i32 8240, .int .i32 8222, .int .i32 8220, .int .i32 8221, .int .i32 8216, .int .i32 8217, .int .i32 8218, .int .i32 8482, .int .i32 64257, .int .i32 64258, .int .i32 321, .int .i32 338, .int .i32 352, .int .i32 376, .int .i32 381, .int .i32 305, .int .i32 322, .int .i32 339, .int .i32 353, .int .i32 382] 21)) = W at *
  have HW := Lib.hid hW
  clear hW
  have lc := c.toNat_lt
  obtain ⟨n, hn⟩ : ∃ n, c.toNat = n := ⟨_, rfl⟩
  rw [hn] at lc ⊢
  clear hn
  obtain ⟨z, hz⟩ : ∃ z : Int, z = (n : Int) := ⟨_, rfl⟩
  rw [← hz]
  by_cases h0 : n = 9
  · have hs : sign n = z := by unfold sign; rw [if_pos (by omega)]; exact hz.symm
    have b0 : (z == 9) = true := by simp; omega
    have b1 : (z == 10) = false := by simp; omega
    have b2 : (z == 13) = false := by simp; omega
    have b3 : decide (32 ≤ z) = false := by simp; omega
    have b4 : decide (z ≤ 126) = true := by simp; omega
    have b5 : decide (24 ≤ z) = false := by simp; omega
    have b6 : decide (z ≤ 31) = true := by simp; omega
    have b7 : decide (128 ≤ z) = false := by simp; omega
    have b8 : decide (z ≤ 158) = true := by simp; omega
    have b9 : (z == 160) = false := by simp; omega
    have b10 : decide (160 < z) = false := by simp; omega
    have b11 : (z != 173) = true := by simp; omega
    have z0 : 0 ≤ z := by omega
    have z1 : z < 256 := by omega
    rw [hs]
    clear hs hlow hhigh h0 hz lc
    go_enter Tryz.func32, Tryz.ntmps32
    go_wp2_with (go_at_call 44; refine Calls.mono (by with_reducible exact hS) ?_; rintro e w1 ⟨rfl, rfl⟩)
    go_ret
    exact ⟨rfl, HW.out⟩
  by_cases h1 : n = 10
  · have hs : sign n = z := by unfold sign; rw [if_pos (by omega)]; exact hz.symm
    have b0 : (z == 9) = false := by simp; omega
    have b1 : (z == 10) = true := by simp; omega
    have b2 : (z == 13) = false := by simp; omega
    have b3 : decide (32 ≤ z) = false := by simp; omega
    have b4 : decide (z ≤ 126) = true := by simp; omega
    have b5 : decide (24 ≤ z) = false := by simp; omega
    have b6 : decide (z ≤ 31) = true := by simp; omega
    have b7 : decide (128 ≤ z) = false := by simp; omega
    have b8 : decide (z ≤ 158) = true := by simp; omega
    have b9 : (z == 160) = false := by simp; omega
    have b10 : decide (160 < z) = false := by simp; omega
    have b11 : (z != 173) = true := by simp; omega
    have z0 : 0 ≤ z := by omega
    have z1 : z < 256 := by omega
    rw [hs]
    clear hs hlow hhigh h0 h1 hz lc
    go_enter Tryz.func32, Tryz.ntmps32
    go_wp2_with (go_at_call 44; refine Calls.mono (by with_reducible exact hS) ?_; rintro e w1 ⟨rfl, rfl⟩)
    go_ret
    exact ⟨rfl, HW.out⟩
  by_cases h2 : n = 13
  · have hs : sign n = z := by unfold sign; rw [if_pos (by omega)]; exact hz.symm
    have b0 : (z == 9) = false := by simp; omega
    have b1 : (z == 10) = false := by simp; omega
    have b2 : (z == 13) = true := by simp; omega
    have b3 : decide (32 ≤ z) = false := by simp; omega
    have b4 : decide (z ≤ 126) = true := by simp; omega
    have b5 : decide (24 ≤ z) = false := by simp; omega
    have b6 : decide (z ≤ 31) = true := by simp; omega
    have b7 : decide (128 ≤ z) = false := by simp; omega
    have b8 : decide (z ≤ 158) = true := by simp; omega
    have b9 : (z == 160) = false := by simp; omega
    have b10 : decide (160 < z) = false := by simp; omega
    have b11 : (z != 173) = true := by simp; omega
    have z0 : 0 ≤ z := by omega
    have z1 : z < 256 := by omega
    rw [hs]
    clear hs hlow hhigh h0 h1 h2 hz lc
    go_enter Tryz.func32, Tryz.ntmps32
    go_wp2_with (go_at_call 44; refine Calls.mono (by with_reducible exact hS) ?_; rintro e w1 ⟨rfl, rfl⟩)
    go_ret
    exact ⟨rfl, HW.out⟩
  by_cases h3 : 32 ≤ n ∧ n ≤ 126
  · have hs : sign n = z := by unfold sign; rw [if_pos (by omega)]; exact hz.symm
    have b0 : (z == 9) = false := by simp; omega
    have b1 : (z == 10) = false := by simp; omega
    have b2 : (z == 13) = false := by simp; omega
    have b3 : decide (32 ≤ z) = true := by simp; omega
    have b4 : decide (z ≤ 126) = true := by simp; omega
    have b5 : decide (24 ≤ z) = true := by simp; omega
    have b6 : decide (z ≤ 31) = false := by simp; omega
    have b7 : decide (128 ≤ z) = false := by simp; omega
    have b8 : decide (z ≤ 158) = true := by simp; omega
    have b9 : (z == 160) = false := by simp; omega
    have b10 : decide (160 < z) = false := by simp; omega
    have b11 : (z != 173) = true := by simp; omega
    have z0 : 0 ≤ z := by omega
    have z1 : z < 256 := by omega
    rw [hs]
    clear hs hlow hhigh h0 h1 h2 h3 hz lc
    go_enter Tryz.func32, Tryz.ntmps32
    go_wp2_with (go_at_call 44; refine Calls.mono (by with_reducible exact hS) ?_; rintro e w1 ⟨rfl, rfl⟩)
    go_ret
    exact ⟨rfl, HW.out⟩
  by_cases h4 : 24 ≤ n ∧ n ≤ 31
  · obtain ⟨k, hk⟩ : ∃ k, n = k + 24 := ⟨n - 24, by omega⟩
    have hs : sign n = lowS.getD k 0 := by unfold sign; rw [if_neg (by omega), if_pos (by omega), hk]; simp
    have hcell := hlow k (by omega)
    have e1 : z - 24 = (k : Int) := by omega
    have e2 : k < 8 := by omega
    obtain ⟨v, hv⟩ : ∃ v, lowS.getD k 0 = v := ⟨_, rfl⟩
    rw [hv] at hs hcell
    have b0 : (z == 9) = false := by simp; omega
    have b1 : (z == 10) = false := by simp; omega
    have b2 : (z == 13) = false := by simp; omega
    have b3 : decide (32 ≤ z) = false := by simp; omega
    have b4 : decide (z ≤ 126) = true := by simp; omega
    have b5 : decide (24 ≤ z) = true := by simp; omega
    have b6 : decide (z ≤ 31) = true := by simp; omega
    have b7 : decide (128 ≤ z) = false := by simp; omega
    have b8 : decide (z ≤ 158) = true := by simp; omega
    have b9 : (z == 160) = false := by simp; omega
    have b10 : decide (160 < z) = false := by simp; omega
    have b11 : (z != 173) = true := by simp; omega
    have z0 : 0 ≤ z := by omega
    have z1 : z < 256 := by omega
    rw [hs]
    clear hs hlow hhigh h0 h1 h2 h3 h4 hk hv hz lc
    go_enter Tryz.func32, Tryz.ntmps32
    go_wp2_with (go_at_call 44; refine Calls.mono (by with_reducible exact hS) ?_; rintro e w1 ⟨rfl, rfl⟩)
    go_ret
    exact ⟨rfl, HW.out⟩
  by_cases h5 : 128 ≤ n ∧ n ≤ 158
  · obtain ⟨k, hk⟩ : ∃ k, n = k + 128 := ⟨n - 128, by omega⟩
    have hs : sign n = highS.getD k 0 := by unfold sign; rw [if_neg (by omega), if_neg (by omega), if_pos (by omega), hk]; simp
    have hcell := hhigh k (by omega)
    have e1 : z - 128 = (k : Int) := by omega
    have e2 : k < 31 := by omega
    obtain ⟨v, hv⟩ : ∃ v, highS.getD k 0 = v := ⟨_, rfl⟩
    rw [hv] at hs hcell
    have b0 : (z == 9) = false := by simp; omega
    have b1 : (z == 10) = false := by simp; omega
    have b2 : (z == 13) = false := by simp; omega
    have b3 : decide (32 ≤ z) = true := by simp; omega
    have b4 : decide (z ≤ 126) = false := by simp; omega
    have b5 : decide (24 ≤ z) = true := by simp; omega
    have b6 : decide (z ≤ 31) = false := by simp; omega
    have b7 : decide (128 ≤ z) = true := by simp; omega
    have b8 : decide (z ≤ 158) = true := by simp; omega
    have b9 : (z == 160) = false := by simp; omega
    have b10 : decide (160 < z) = false := by simp; omega
    have b11 : (z != 173) = true := by simp; omega
    have z0 : 0 ≤ z := by omega
    have z1 : z < 256 := by omega
    rw [hs]
    clear hs hlow hhigh h0 h1 h2 h3 h4 h5 hk hv hz lc
    go_enter Tryz.func32, Tryz.ntmps32
    go_wp2_with (go_at_call 44; refine Calls.mono (by with_reducible exact hS) ?_; rintro e w1 ⟨rfl, rfl⟩)
    go_ret
    exact ⟨rfl, HW.out⟩
  by_cases h6 : n = 160
  · have hs : sign n = 8364 := by unfold sign; rw [if_neg (by omega), if_neg (by omega), if_neg (by omega), if_pos (by omega)]
    have b0 : (z == 9) = false := by simp; omega
    have b1 : (z == 10) = false := by simp; omega
    have b2 : (z == 13) = false := by simp; omega
    have b3 : decide (32 ≤ z) = true := by simp; omega
    have b4 : decide (z ≤ 126) = false := by simp; omega
    have b5 : decide (24 ≤ z) = true := by simp; omega
    have b6 : decide (z ≤ 31) = false := by simp; omega
    have b7 : decide (128 ≤ z) = true := by simp; omega
    have b8 : decide (z ≤ 158) = false := by simp; omega
    have b9 : (z == 160) = true := by simp; omega
    have b10 : decide (160 < z) = false := by simp; omega
    have b11 : (z != 173) = true := by simp; omega
    have z0 : 0 ≤ z := by omega
    have z1 : z < 256 := by omega
    rw [hs]
    clear hs hlow hhigh h0 h1 h2 h3 h4 h5 h6 hz lc
    go_enter Tryz.func32, Tryz.ntmps32
    go_wp2_with (go_at_call 44; refine Calls.mono (by with_reducible exact hS) ?_; rintro e w1 ⟨rfl, rfl⟩)
    go_ret
    exact ⟨rfl, HW.out⟩
  by_cases h7 : n = 173
  · have hs : sign n = -1 := by unfold sign; rw [if_neg (by omega), if_neg (by omega), if_neg (by omega), if_neg (by omega), if_neg (by omega)]
    have b0 : (z == 9) = false := by simp; omega
    have b1 : (z == 10) = false := by simp; omega
    have b2 : (z == 13) = false := by simp; omega
    have b3 : decide (32 ≤ z) = true := by simp; omega
    have b4 : decide (z ≤ 126) = false := by simp; omega
    have b5 : decide (24 ≤ z) = true := by simp; omega
    have b6 : decide (z ≤ 31) = false := by simp; omega
    have b7 : decide (128 ≤ z) = true := by simp; omega
    have b8 : decide (z ≤ 158) = false := by simp; omega
    have b9 : (z == 160) = false := by simp; omega
    have b10 : decide (160 < z) = true := by simp; omega
    have b11 : (z != 173) = false := by simp; omega
    have z0 : 0 ≤ z := by omega
    have z1 : z < 256 := by omega
    rw [hs]
    clear hs hlow hhigh h0 h1 h2 h3 h4 h5 h6 h7 hz lc
    go_enter Tryz.func32, Tryz.ntmps32
    go_wp2_with (go_at_call 44; refine Calls.mono (by with_reducible exact hS) ?_; rintro e w1 ⟨rfl, rfl⟩)
    go_ret
    exact ⟨rfl, HW.out⟩
  by_cases h8 : 160 < n
  · have hs : sign n = z := by unfold sign; rw [if_neg (by omega), if_neg (by omega), if_neg (by omega), if_neg (by omega), if_pos (by omega)]; exact hz.symm
    have b0 : (z == 9) = false := by simp; omega
    have b1 : (z == 10) = false := by simp; omega
    have b2 : (z == 13) = false := by simp; omega
    have b3 : decide (32 ≤ z) = true := by simp; omega
    have b4 : decide (z ≤ 126) = false := by simp; omega
    have b5 : decide (24 ≤ z) = true := by simp; omega
    have b6 : decide (z ≤ 31) = false := by simp; omega
    have b7 : decide (128 ≤ z) = true := by simp; omega
    have b8 : decide (z ≤ 158) = false := by simp; omega
    have b9 : (z == 160) = false := by simp; omega
    have b10 : decide (160 < z) = true := by simp; omega
    have b11 : (z != 173) = true := by simp; omega
    have z0 : 0 ≤ z := by omega
    have z1 : z < 256 := by omega
    rw [hs]
    clear hs hlow hhigh h0 h1 h2 h3 h4 h5 h6 h7 h8 hz lc
    go_enter Tryz.func32, Tryz.ntmps32
    go_wp2_with (go_at_call 44; refine Calls.mono (by with_reducible exact hS) ?_; rintro e w1 ⟨rfl, rfl⟩)
    go_ret
    exact ⟨rfl, HW.out⟩
  by_cases h9 : n < 24
  · have hs : sign n = -1 := by unfold sign; rw [if_neg (by omega), if_neg (by omega), if_neg (by omega), if_neg (by omega), if_neg (by omega)]
    have b0 : (z == 9) = false := by simp; omega
    have b1 : (z == 10) = false := by simp; omega
    have b2 : (z == 13) = false := by simp; omega
    have b3 : decide (32 ≤ z) = false := by simp; omega
    have b4 : decide (z ≤ 126) = true := by simp; omega
    have b5 : decide (24 ≤ z) = false := by simp; omega
    have b6 : decide (z ≤ 31) = true := by simp; omega
    have b7 : decide (128 ≤ z) = false := by simp; omega
    have b8 : decide (z ≤ 158) = true := by simp; omega
    have b9 : (z == 160) = false := by simp; omega
    have b10 : decide (160 < z) = false := by simp; omega
    have b11 : (z != 173) = true := by simp; omega
    have z0 : 0 ≤ z := by omega
    have z1 : z < 256 := by omega
    rw [hs]
    clear hs hlow hhigh h0 h1 h2 h3 h4 h5 h6 h7 h8 h9 hz lc
    go_enter Tryz.func32, Tryz.ntmps32
    go_wp2_with (go_at_call 44; refine Calls.mono (by with_reducible exact hS) ?_; rintro e w1 ⟨rfl, rfl⟩)
    go_ret
    exact ⟨rfl, HW.out⟩
  by_cases h10 : n = 127
  · have hs : sign n = -1 := by unfold sign; rw [if_neg (by omega), if_neg (by omega), if_neg (by omega), if_neg (by omega), if_neg (by omega)]
    have b0 : (z == 9) = false := by simp; omega
    have b1 : (z == 10) = false := by simp; omega
    have b2 : (z == 13) = false := by simp; omega
    have b3 : decide (32 ≤ z) = true := by simp; omega
    have b4 : decide (z ≤ 126) = false := by simp; omega
    have b5 : decide (24 ≤ z) = true := by simp; omega
    have b6 : decide (z ≤ 31) = false := by simp; omega
    have b7 : decide (128 ≤ z) = false := by simp; omega
    have b8 : decide (z ≤ 158) = true := by simp; omega
    have b9 : (z == 160) = false := by simp; omega
    have b10 : decide (160 < z) = false := by simp; omega
    have b11 : (z != 173) = true := by simp; omega
    have z0 : 0 ≤ z := by omega
    have z1 : z < 256 := by omega
    rw [hs]
    clear hs hlow hhigh h0 h1 h2 h3 h4 h5 h6 h7 h8 h9 h10 hz lc
    go_enter Tryz.func32, Tryz.ntmps32
    go_wp2_with (go_at_call 44; refine Calls.mono (by with_reducible exact hS) ?_; rintro e w1 ⟨rfl, rfl⟩)
    go_ret
    exact ⟨rfl, HW.out⟩
  have hs : sign n = -1 := by unfold sign; rw [if_neg (by omega), if_neg (by omega), if_neg (by omega), if_neg (by omega), if_neg (by omega)]
  have b0 : (z == 9) = false := by simp; omega
  have b1 : (z == 10) = false := by simp; omega
  have b2 : (z == 13) = false := by simp; omega
  have b3 : decide (32 ≤ z) = true := by simp; omega
  have b4 : decide (z ≤ 126) = false := by simp; omega
  have b5 : decide (24 ≤ z) = true := by simp; omega
  have b6 : decide (z ≤ 31) = false := by simp; omega
  have b7 : decide (128 ≤ z) = true := by simp; omega
  have b8 : decide (z ≤ 158) = false := by simp; omega
  have b9 : (z == 160) = false := by simp; omega
  have b10 : decide (160 < z) = false := by simp; omega
  have b11 : (z != 173) = true := by simp; omega
  have z0 : 0 ≤ z := by omega
  have z1 : z < 256 := by omega
  rw [hs]
  clear hs hlow hhigh h0 h1 h2 h3 h4 h5 h6 h7 h8 h9 h10 hz lc
  go_enter Tryz.func32, Tryz.ntmps32
  go_wp2_with (go_at_call 44; refine Calls.mono (by with_reducible exact hS) ?_; rintro e w1 ⟨rfl, rfl⟩)
  go_ret
  exact ⟨rfl, HW.out⟩

end Go.Proofs.YtgemkjickljedaaGreatDoor
