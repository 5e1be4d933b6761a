/- The law FnObjectStream answers true. Conditions: the errors of package strconv are there. -/
import Derived.Test.YtnpedhdonfdbmaaDoorOM
namespace Go.Proofs.YtnpedhdonfdbmaaDoor
open Go.ChangeShapes Go.WideShapes Go.ChangeAt Go.RowKit Go.Sort

attribute [local go_sem] run_store_float

set_option maxHeartbeats 2000000 in
set_option maxRecDepth 100000 in
theorem os_core (hd rs : ByteArray) (c : Nat) (hc1 : 1 ≤ c) (hc2 : c ≤ 1000) (hsz : hd.size + rs.size ≤ 4096) (T3 T4 : TypeId) (p3 p4 : Value) (w : World) (h3 : w.cell? ⟨3, 0, none⟩ = some (.iface T3 p3)) (h4 : w.cell? ⟨4, 0, none⟩ = some (.iface T4 p4)) :
    Calls Tryd.prog 4 #[.int .i64 c, .string hd, .string rs] w fun e w' => e = .returned (.bool true) ∧ Below w.heap.size w w' := by
  have hP := prolog_any hd c hc2 (by omega) T3 T4 p3 p4 w h3 h4
  have d1 : decide (2147483647 < (hd.size : Int)) = false := by simp; omega
  have d2 : decide (2147483647 < (rs.size : Int)) = false := by simp; omega
  have d3 : decide ((c : Int) < 1) = false := by simp; omega
  have d4 : decide (1000 < (c : Int)) = false := by simp; omega
  have d5 : decide (4096 < (hd.size : Int) + (rs.size : Int)) = false := by simp; omega
  have d6 : (hd.size : Int) + (rs.size : Int) ≤ 4096 := by omega
  have HI := fun n w => int_obj n w
  have ht : (hd ++ rs).size ≤ 4096 := by rw [ByteArray.size_append]; omega
  have HC : Hid (1 ≤ (c : Int) ∧ (c : Int) ≤ 1000 ∧ 0 ≤ (hd.size : Int) ∧ (hd.size : Int) ≤ 4096) := ⟨by omega, by omega, by omega, by omega⟩
  obtain ⟨t, hT⟩ : ∃ t, hd ++ rs = t := ⟨_, rfl⟩
  rw [hT] at ht
  have HT := Lib.hid ht
  clear h3 h4 hc1 hc2 hsz ht
  go_enter Tryd.func4, Tryd.ntmps4
  go_wp2_with (fail)
  refine Calls.mono (by with_reducible exact hP) ?_
  rintro e w1 ⟨p, m, k, y, is, rfl, hb1⟩
  have B1 := Lib.hid hb1
  clear hb1 hP
  cases is
  · go_wp2_with (fail)
    go_ret
    exact ⟨rfl, B1.out⟩
  · by_cases hm : m = c
    · have q1 : ((m : Int) != (c : Int)) = false := by simp; omega
      clear hm
      go_wp2_with (fail)
      refine Calls.mono (by with_reducible exact HI _ _) ?_
      rintro e w2 ⟨rfl, rfl⟩
      go_wp2_with (fail)
      refine Calls.mono (by with_reducible exact HI _ _) ?_
      rintro e w3 ⟨rfl, rfl⟩
      have e5 : (((((w1.alloc (.cells #[.string ⟨#[70, 105, 114, 115, 116]⟩, .string ⟨#[78]⟩, .string ⟨#[84, 121, 112, 101]⟩] 9)).alloc (.cells #[.int .i64 2, .int .i64 (hd.size : Int), .int .i64 0, .float .f64 0, .string ⟨#[]⟩, .slice none 0 0, .slice none 0 0] 36)).alloc (.cells #[.int .i64 2, .int .i64 (c : Int), .int .i64 0, .float .f64 0, .string ⟨#[]⟩, .slice none 0 0, .slice none 0 0] 36)).alloc (.cells #[.int .i64 2, .int .i64 (hd.size : Int), .int .i64 0, .float .f64 0, .string ⟨#[]⟩, .slice none 0 0, .slice none 0 0, .int .i64 2, .int .i64 (c : Int), .int .i64 0, .float .f64 0, .string ⟨#[]⟩, .slice none 0 0, .slice none 0 0, .int .i64 6, .int .i64 0, .int .i64 0, .float .f64 0, .string ⟨#[79, 98, 106, 83, 116, 109]⟩, .slice none 0 0, .slice none 0 0] 36)).alloc (.cells #[.int .i64 8, .int .i64 0, .int .i64 0, .float .f64 0, .string ⟨#[]⟩, .slice (some ⟨w1.heap.size, 0, none⟩) 3 3, .slice (some ⟨w1.heap.size + 1 + 1 + 1, 0, none⟩) 3 3] 36)).heap.size = w1.heap.size + 1 + 1 + 1 + 1 + 1 := by simp
      have b5 : Below w1.heap.size w1 (((((w1.alloc (.cells #[.string ⟨#[70, 105, 114, 115, 116]⟩, .string ⟨#[78]⟩, .string ⟨#[84, 121, 112, 101]⟩] 9)).alloc (.cells #[.int .i64 2, .int .i64 (hd.size : Int), .int .i64 0, .float .f64 0, .string ⟨#[]⟩, .slice none 0 0, .slice none 0 0] 36)).alloc (.cells #[.int .i64 2, .int .i64 (c : Int), .int .i64 0, .float .f64 0, .string ⟨#[]⟩, .slice none 0 0, .slice none 0 0] 36)).alloc (.cells #[.int .i64 2, .int .i64 (hd.size : Int), .int .i64 0, .float .f64 0, .string ⟨#[]⟩, .slice none 0 0, .slice none 0 0, .int .i64 2, .int .i64 (c : Int), .int .i64 0, .float .f64 0, .string ⟨#[]⟩, .slice none 0 0, .slice none 0 0, .int .i64 6, .int .i64 0, .int .i64 0, .float .f64 0, .string ⟨#[79, 98, 106, 83, 116, 109]⟩, .slice none 0 0, .slice none 0 0] 36)).alloc (.cells #[.int .i64 8, .int .i64 0, .int .i64 0, .float .f64 0, .string ⟨#[]⟩, .slice (some ⟨w1.heap.size, 0, none⟩) 3 3, .slice (some ⟨w1.heap.size + 1 + 1 + 1, 0, none⟩) 3 3] 36)) := below_al (below_al (below_al (below_al (below_al (Below.refl _ _) _) _) _) _) _
      have k0 : (((((w1.alloc (.cells #[.string ⟨#[70, 105, 114, 115, 116]⟩, .string ⟨#[78]⟩, .string ⟨#[84, 121, 112, 101]⟩] 9)).alloc (.cells #[.int .i64 2, .int .i64 (hd.size : Int), .int .i64 0, .float .f64 0, .string ⟨#[]⟩, .slice none 0 0, .slice none 0 0] 36)).alloc (.cells #[.int .i64 2, .int .i64 (c : Int), .int .i64 0, .float .f64 0, .string ⟨#[]⟩, .slice none 0 0, .slice none 0 0] 36)).alloc (.cells #[.int .i64 2, .int .i64 (hd.size : Int), .int .i64 0, .float .f64 0, .string ⟨#[]⟩, .slice none 0 0, .slice none 0 0, .int .i64 2, .int .i64 (c : Int), .int .i64 0, .float .f64 0, .string ⟨#[]⟩, .slice none 0 0, .slice none 0 0, .int .i64 6, .int .i64 0, .int .i64 0, .float .f64 0, .string ⟨#[79, 98, 106, 83, 116, 109]⟩, .slice none 0 0, .slice none 0 0] 36)).alloc (.cells #[.int .i64 8, .int .i64 0, .int .i64 0, .float .f64 0, .string ⟨#[]⟩, .slice (some ⟨w1.heap.size, 0, none⟩) 3 3, .slice (some ⟨w1.heap.size + 1 + 1 + 1, 0, none⟩) 3 3] 36)).cell? ⟨w1.heap.size, 0, none⟩ = some (.string ⟨#[70, 105, 114, 115, 116]⟩) := by go_simp
      have k1 : (((((w1.alloc (.cells #[.string ⟨#[70, 105, 114, 115, 116]⟩, .string ⟨#[78]⟩, .string ⟨#[84, 121, 112, 101]⟩] 9)).alloc (.cells #[.int .i64 2, .int .i64 (hd.size : Int), .int .i64 0, .float .f64 0, .string ⟨#[]⟩, .slice none 0 0, .slice none 0 0] 36)).alloc (.cells #[.int .i64 2, .int .i64 (c : Int), .int .i64 0, .float .f64 0, .string ⟨#[]⟩, .slice none 0 0, .slice none 0 0] 36)).alloc (.cells #[.int .i64 2, .int .i64 (hd.size : Int), .int .i64 0, .float .f64 0, .string ⟨#[]⟩, .slice none 0 0, .slice none 0 0, .int .i64 2, .int .i64 (c : Int), .int .i64 0, .float .f64 0, .string ⟨#[]⟩, .slice none 0 0, .slice none 0 0, .int .i64 6, .int .i64 0, .int .i64 0, .float .f64 0, .string ⟨#[79, 98, 106, 83, 116, 109]⟩, .slice none 0 0, .slice none 0 0] 36)).alloc (.cells #[.int .i64 8, .int .i64 0, .int .i64 0, .float .f64 0, .string ⟨#[]⟩, .slice (some ⟨w1.heap.size, 0, none⟩) 3 3, .slice (some ⟨w1.heap.size + 1 + 1 + 1, 0, none⟩) 3 3] 36)).cell? ⟨w1.heap.size, 1, none⟩ = some (.string ⟨#[78]⟩) := by go_simp
      have k2 : (((((w1.alloc (.cells #[.string ⟨#[70, 105, 114, 115, 116]⟩, .string ⟨#[78]⟩, .string ⟨#[84, 121, 112, 101]⟩] 9)).alloc (.cells #[.int .i64 2, .int .i64 (hd.size : Int), .int .i64 0, .float .f64 0, .string ⟨#[]⟩, .slice none 0 0, .slice none 0 0] 36)).alloc (.cells #[.int .i64 2, .int .i64 (c : Int), .int .i64 0, .float .f64 0, .string ⟨#[]⟩, .slice none 0 0, .slice none 0 0] 36)).alloc (.cells #[.int .i64 2, .int .i64 (hd.size : Int), .int .i64 0, .float .f64 0, .string ⟨#[]⟩, .slice none 0 0, .slice none 0 0, .int .i64 2, .int .i64 (c : Int), .int .i64 0, .float .f64 0, .string ⟨#[]⟩, .slice none 0 0, .slice none 0 0, .int .i64 6, .int .i64 0, .int .i64 0, .float .f64 0, .string ⟨#[79, 98, 106, 83, 116, 109]⟩, .slice none 0 0, .slice none 0 0] 36)).alloc (.cells #[.int .i64 8, .int .i64 0, .int .i64 0, .float .f64 0, .string ⟨#[]⟩, .slice (some ⟨w1.heap.size, 0, none⟩) 3 3, .slice (some ⟨w1.heap.size + 1 + 1 + 1, 0, none⟩) 3 3] 36)).cell? ⟨w1.heap.size, 2, none⟩ = some (.string ⟨#[84, 121, 112, 101]⟩) := by go_simp
      have kb : (((((w1.alloc (.cells #[.string ⟨#[70, 105, 114, 115, 116]⟩, .string ⟨#[78]⟩, .string ⟨#[84, 121, 112, 101]⟩] 9)).alloc (.cells #[.int .i64 2, .int .i64 (hd.size : Int), .int .i64 0, .float .f64 0, .string ⟨#[]⟩, .slice none 0 0, .slice none 0 0] 36)).alloc (.cells #[.int .i64 2, .int .i64 (c : Int), .int .i64 0, .float .f64 0, .string ⟨#[]⟩, .slice none 0 0, .slice none 0 0] 36)).alloc (.cells #[.int .i64 2, .int .i64 (hd.size : Int), .int .i64 0, .float .f64 0, .string ⟨#[]⟩, .slice none 0 0, .slice none 0 0, .int .i64 2, .int .i64 (c : Int), .int .i64 0, .float .f64 0, .string ⟨#[]⟩, .slice none 0 0, .slice none 0 0, .int .i64 6, .int .i64 0, .int .i64 0, .float .f64 0, .string ⟨#[79, 98, 106, 83, 116, 109]⟩, .slice none 0 0, .slice none 0 0] 36)).alloc (.cells #[.int .i64 8, .int .i64 0, .int .i64 0, .float .f64 0, .string ⟨#[]⟩, .slice (some ⟨w1.heap.size, 0, none⟩) 3 3, .slice (some ⟨w1.heap.size + 1 + 1 + 1, 0, none⟩) 3 3] 36)).heap[w1.heap.size + 1 + 1 + 1]? = some (.cells (objOc hd.size c) 36 (0, 0)) := by
        have h := heap_alloc_new (((w1.alloc (.cells #[.string ⟨#[70, 105, 114, 115, 116]⟩, .string ⟨#[78]⟩, .string ⟨#[84, 121, 112, 101]⟩] 9)).alloc (.cells #[.int .i64 2, .int .i64 (hd.size : Int), .int .i64 0, .float .f64 0, .string ⟨#[]⟩, .slice none 0 0, .slice none 0 0] 36)).alloc (.cells #[.int .i64 2, .int .i64 (c : Int), .int .i64 0, .float .f64 0, .string ⟨#[]⟩, .slice none 0 0, .slice none 0 0] 36)) (.cells #[.int .i64 2, .int .i64 (hd.size : Int), .int .i64 0, .float .f64 0, .string ⟨#[]⟩, .slice none 0 0, .slice none 0 0, .int .i64 2, .int .i64 (c : Int), .int .i64 0, .float .f64 0, .string ⟨#[]⟩, .slice none 0 0, .slice none 0 0, .int .i64 6, .int .i64 0, .int .i64 0, .float .f64 0, .string ⟨#[79, 98, 106, 83, 116, 109]⟩, .slice none 0 0, .slice none 0 0] 36)
        rw [show (((w1.alloc (.cells #[.string ⟨#[70, 105, 114, 115, 116]⟩, .string ⟨#[78]⟩, .string ⟨#[84, 121, 112, 101]⟩] 9)).alloc (.cells #[.int .i64 2, .int .i64 (hd.size : Int), .int .i64 0, .float .f64 0, .string ⟨#[]⟩, .slice none 0 0, .slice none 0 0] 36)).alloc (.cells #[.int .i64 2, .int .i64 (c : Int), .int .i64 0, .float .f64 0, .string ⟨#[]⟩, .slice none 0 0, .slice none 0 0] 36)).heap.size = w1.heap.size + 1 + 1 + 1 by simp] at h
        exact (Below.heap_alloc _ _ _ (by simp)).trans h
      have kc : ∀ j, j < 21 → (((((w1.alloc (.cells #[.string ⟨#[70, 105, 114, 115, 116]⟩, .string ⟨#[78]⟩, .string ⟨#[84, 121, 112, 101]⟩] 9)).alloc (.cells #[.int .i64 2, .int .i64 (hd.size : Int), .int .i64 0, .float .f64 0, .string ⟨#[]⟩, .slice none 0 0, .slice none 0 0] 36)).alloc (.cells #[.int .i64 2, .int .i64 (c : Int), .int .i64 0, .float .f64 0, .string ⟨#[]⟩, .slice none 0 0, .slice none 0 0] 36)).alloc (.cells #[.int .i64 2, .int .i64 (hd.size : Int), .int .i64 0, .float .f64 0, .string ⟨#[]⟩, .slice none 0 0, .slice none 0 0, .int .i64 2, .int .i64 (c : Int), .int .i64 0, .float .f64 0, .string ⟨#[]⟩, .slice none 0 0, .slice none 0 0, .int .i64 6, .int .i64 0, .int .i64 0, .float .f64 0, .string ⟨#[79, 98, 106, 83, 116, 109]⟩, .slice none 0 0, .slice none 0 0] 36)).alloc (.cells #[.int .i64 8, .int .i64 0, .int .i64 0, .float .f64 0, .string ⟨#[]⟩, .slice (some ⟨w1.heap.size, 0, none⟩) 3 3, .slice (some ⟨w1.heap.size + 1 + 1 + 1, 0, none⟩) 3 3] 36)).cell? ⟨w1.heap.size + 1 + 1 + 1, j, none⟩ = some ((objOc hd.size c).getD j undef) := fun j hj => by
        rw [cell_of_row _ _ j _ _ _ kb, Array.getElem?_eq_getElem (by simpa [objOc] using hj)]
        simp [Array.getD, objOc, hj]
      have hD := obj_dict hd.size c _ _ _ k0 k1 k2 kc
      obtain ⟨cap, w0, hcv, hlt, hb0, hnw⟩ := bytes_of t (((((w1.alloc (.cells #[.string ⟨#[70, 105, 114, 115, 116]⟩, .string ⟨#[78]⟩, .string ⟨#[84, 121, 112, 101]⟩] 9)).alloc (.cells #[.int .i64 2, .int .i64 (hd.size : Int), .int .i64 0, .float .f64 0, .string ⟨#[]⟩, .slice none 0 0, .slice none 0 0] 36)).alloc (.cells #[.int .i64 2, .int .i64 (c : Int), .int .i64 0, .float .f64 0, .string ⟨#[]⟩, .slice none 0 0, .slice none 0 0] 36)).alloc (.cells #[.int .i64 2, .int .i64 (hd.size : Int), .int .i64 0, .float .f64 0, .string ⟨#[]⟩, .slice none 0 0, .slice none 0 0, .int .i64 2, .int .i64 (c : Int), .int .i64 0, .float .f64 0, .string ⟨#[]⟩, .slice none 0 0, .slice none 0 0, .int .i64 6, .int .i64 0, .int .i64 0, .float .f64 0, .string ⟨#[79, 98, 106, 83, 116, 109]⟩, .slice none 0 0, .slice none 0 0] 36)).alloc (.cells #[.int .i64 8, .int .i64 0, .int .i64 0, .float .f64 0, .string ⟨#[]⟩, .slice (some ⟨w1.heap.size, 0, none⟩) 3 3, .slice (some ⟨w1.heap.size + 1 + 1 + 1, 0, none⟩) 3 3] 36))
      have hO := os10 w0 w1.heap.size (w1.heap.size + 1 + 1 + 1) 3 3 (objEs hd.size c) 3 0 1 c hd.size _ t.size cap _ (by simp) hlt hnw (by intro u hu; obtain ⟨_, _, rfl⟩ := List.mem_map.1 hu; rfl) HT.out (hD.below hb0) (obj_first _ _) (obj_n _ _) HC.out.1 HC.out.2.1 HC.out.2.2.1 HC.out.2.2.2
      rw [e5] at hcv hO
      have B0 := Lib.hid (B1.out.trans ((b5.trans (hb0.mono b5.size)).mono B1.out.size))
      have z1 : ((c : Int) == (c : Int)) = true := by simp
      have z2 : ((hd.size : Int) == (hd.size : Int)) = true := by simp
      clear e5 b5 k0 k1 k2 kb kc hD hb0 hnw hlt
      go_wp2_with (fail)
      refine Calls.mono (by with_reducible exact hO) ?_
      rintro e w4 ⟨v, rfl, hb4⟩
      have B4 := Lib.hid (B0.out.trans (hb4.mono B0.out.size))
      clear hb4 hO hcv
      go_wp2_with (fail)
      go_ret
      exact ⟨rfl, B4.out⟩
    · have q1 : ((m : Int) != (c : Int)) = true := by simp; omega
      clear hm
      go_wp2_with (fail)
      go_ret
      exact ⟨rfl, B1.out⟩

end Go.Proofs.YtnpedhdonfdbmaaDoor
