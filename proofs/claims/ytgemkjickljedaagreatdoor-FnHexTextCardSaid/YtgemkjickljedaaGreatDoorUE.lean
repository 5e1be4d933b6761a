/- What utf16.decode and utf16.Decode answer of code units that are code points. Conditions: at most 9000 code units. -/
import Derived.Test.YtgemkjickljedaaGreatDoorUD
import Derived.Laws.MakeOwn
import Derived.Laws.OwnMore
namespace Go.Proofs.YtgemkjickljedaaGreatDoor
open Go.ChangeShapes Go.WideShapes Go.ChangeAt Go.RowKit

theorem vals16_at {l : List Nat} {i : Nat} {x : Nat} (h : l[i]? = some x) : (vals16 l)[i]? = some (.int .u16 (x : Int)) := by
  unfold vals16; rw [List.getElem?_map, h]; rfl
theorem vals32_at {l : List Nat} {i : Nat} {x : Nat} (h : l[i]? = some x) : (vals32 l)[i]? = some (.int .i32 (x : Int)) := by
  unfold vals32; rw [List.getElem?_map, h]; rfl

set_option maxHeartbeats 4000000 in
set_option maxRecDepth 100000 in
theorem decode_any (out : List Nat) (hok : ∀ j (h : j < out.length), okc out[j]) (n g cap B0 B : Nat) (bv : Value) (w : World) (hn : n = (u16s out).length) (hlen : n ≤ 9000)
    (hs : w.ownsRow B0 67 1 (.slice (some ⟨g, 0, none⟩) n cap) n (vals16 (u16s out))) (hb : w.ownsRow B 21 1 bv 0 []) (hbn : bv ≠ .slice none 0 0) (hB : B ≤ w.heap.size) :
    Calls Tryz.prog 64 #[.slice (some ⟨g, 0, none⟩) n cap, bv] w fun e w' => ∃ v, e = .returned v ∧ v ≠ .slice none 0 0 ∧ w'.ownsRow B 21 1 v out.length (vals32 out) ∧ Below B w w' := by
  obtain ⟨i0, hi, hz0, hz1, hz2⟩ := info_parts Tryz.info21
  have hmany := u16s_many out
  have HOK : Hid (∀ j (h : j < out.length), okc out[j]) := hok
  have HN : Hid (n = (u16s out).length) := hn
  have hml : out.length ≤ n := by omega
  clear hok hn hmany
  go_enter Tryz.func64, Tryz.ntmps64
  go_wp2_with (fail)
  go_loopw [1, 5] (fun v iv wr => ∃ (j P : Nat), iv = .int .i64 P ∧ Hid (P = (u16s (out.take j)).length) ∧ j ≤ out.length ∧ P ≤ n ∧ B ≤ wr.heap.size ∧ wr.ownsRow B 21 1 v j (vals32 (out.take j)) ∧ v ≠ .slice none 0 0 ∧
      Hid (wr.ownsRow B0 67 1 (.slice (some ⟨g, 0, none⟩) n cap) n (vals16 (u16s out)) ∧ Below B w wr))
    (fun _ iv _ => n - (intOf iv).toNat)
  case atStart => exact ⟨0, 0, rfl, rfl, Nat.zero_le _, Nat.zero_le _, hB, hb, hbn, hs, Below.refl _ _⟩
  case round =>
    obtain ⟨j, P, rfl, hP, hj, hPn, hsz, hown, hnn, HR⟩ := hrel
    by_cases hlt : j < out.length
    · have hc := HOK.out j hlt
      have hat := u16s_at out j hlt
      have hsome := u16_some out[j]
      have hle := u16s_le out j hlt
      have hnext := u16s_len out j hlt
      have hv := vals32_snoc (out.take j) out[j]
      rw [← take_snoc hlt] at hv
      obtain ⟨c, hcc⟩ : ∃ c, out[j] = c := ⟨_, rfl⟩
      rw [hcc] at hc hat hsome hle hnext hv
      rw [← hP.out] at hat hle hnext
      rw [← HN.out] at hle
      by_cases hbig : c < 65536
      · have hu := u16_bmp hbig
        have h0 := hat 0 (by rw [hu]; simp)
        simp only [hu, List.getElem_cons_zero, Nat.add_zero, List.length_cons, List.length_nil] at h0 hnext hle
        have hcell : wr.cell? ⟨g, P, none⟩ = some (.int .u16 (c : Int)) := own_cell HR.out.1 P (vals16_at h0)
        have hsplit : c < 55296 ∨ (¬ c < 55296 ∧ 57344 ≤ c) := by unfold okc at hc; omega
        have hPlt : P < n := by omega
        have HP := hP.out
        have H2 : Hid (P + 1 = (u16s (out.take (j + 1))).length ∧ vals32 (out.take (j + 1)) = vals32 (out.take j) ++ [.int .i32 (c : Int)]) := ⟨by omega, hv⟩
        clear hat hsome hnext hv h0 hu hle hc hcc HP
        rcases hsplit with hx | ⟨hx, hy⟩
        · obtain ⟨z, hz⟩ : ∃ z : Int, z = (c : Int) := ⟨_, rfl⟩
          rw [← hz] at hcell H2
          have d1 : decide (z < 55296) = true := by simp; omega
          have d2 : Value.int .i32 (wrap32 z) = .int .i32 z := by congr 1; unfold wrap32; omega
          clear hx hbig hz
          go_wp2_with (at_builtin; refine wpList_append_own _ rfl _ _ 66 rfl B 21 i0 (.int .i32 0) 1 4 Tryz.underlying66 hi hz0 hz1 hz2 rfl (by decide) _ _ _ rfl (hown.alloc _) ⟨wr.heap.size, 0, none⟩ 1 1 [.int .i32 z] rfl rfl (cell_one_new _ _ _) (by intro u hu; simp at hu; subst hu; rfl) (by unfold maxLen; omega) (by omega) (by simp; omega) ?_)
          intro v' w' hown' hgrow' hnil
          have hnn' : v' ≠ .slice none 0 0 := fun h => hnil h
          have hB := (HR.out.2.alloc hsz (.cells #[.int .i32 z] 21)).grown hgrow' (by simp; omega) (fun k hk => (hown.lt k hk).1)
          have hS := (HR.out.1.alloc (.cells #[.int .i32 z] 21)).kept hgrow' (own_apart (HR.out.1.alloc (.cells #[.int .i32 z] 21)) (hown.alloc _) (by decide))
          have hw' := hB.size
          have HB : Hid (w'.ownsRow B0 67 1 (.slice (some ⟨g, 0, none⟩) n cap) n (vals16 (u16s out)) ∧ Below B w w') := ⟨hS, hB⟩
          clear hB hgrow' hnil hS
          go_wp2
          go_roundw
          case rel => exact ⟨j + 1, P + 1, by simp, H2.out.1, by omega, by omega, by omega, by rw [H2.out.2]; exact hown', hnn', HB.out⟩
          case measure => simp [intOf]; omega
        · obtain ⟨z, hz⟩ : ∃ z : Int, z = (c : Int) := ⟨_, rfl⟩
          rw [← hz] at hcell H2
          have d1 : decide (z < 55296) = false := by simp; omega
          have d2 : Value.int .i32 (wrap32 z) = .int .i32 z := by congr 1; unfold wrap32; omega
          have d3 : decide (57344 ≤ z) = true := by simp; omega
          clear hy
          clear hx hbig hz
          go_wp2_with (at_builtin; refine wpList_append_own _ rfl _ _ 66 rfl B 21 i0 (.int .i32 0) 1 4 Tryz.underlying66 hi hz0 hz1 hz2 rfl (by decide) _ _ _ rfl (hown.alloc _) ⟨wr.heap.size, 0, none⟩ 1 1 [.int .i32 z] rfl rfl (cell_one_new _ _ _) (by intro u hu; simp at hu; subst hu; rfl) (by unfold maxLen; omega) (by omega) (by simp; omega) ?_)
          intro v' w' hown' hgrow' hnil
          have hnn' : v' ≠ .slice none 0 0 := fun h => hnil h
          have hB := (HR.out.2.alloc hsz (.cells #[.int .i32 z] 21)).grown hgrow' (by simp; omega) (fun k hk => (hown.lt k hk).1)
          have hS := (HR.out.1.alloc (.cells #[.int .i32 z] 21)).kept hgrow' (own_apart (HR.out.1.alloc (.cells #[.int .i32 z] 21)) (hown.alloc _) (by decide))
          have hw' := hB.size
          have HB : Hid (w'.ownsRow B0 67 1 (.slice (some ⟨g, 0, none⟩) n cap) n (vals16 (u16s out)) ∧ Below B w w') := ⟨hS, hB⟩
          clear hB hgrow' hnil hS
          go_wp2
          go_roundw
          case rel => exact ⟨j + 1, P + 1, by simp, H2.out.1, by omega, by omega, by omega, by rw [H2.out.2]; exact hown', hnn', HB.out⟩
          case measure => simp [intOf]; omega
      · obtain ⟨a, b, hu, ha, hb2, hab⟩ : ∃ a b, cunits c = [a, b] ∧ (55296 ≤ a ∧ a < 56320) ∧ (56320 ≤ b ∧ b < 57344) ∧ pair a b = c := by
          unfold okc at hc
          refine ⟨55296 + (c - 65536) / 1024, 56320 + (c - 65536) % 1024, by rw [cunits, if_neg hbig], by omega, by omega, ?_⟩
          unfold pair; omega
        have h0 := hat 0 (by rw [hu]; simp)
        have h1 := hat 1 (by rw [hu]; simp)
        simp only [hu, List.getElem_cons_zero, List.getElem_cons_succ, Nat.add_zero, List.length_cons, List.length_nil] at h0 h1 hnext hle
        have hcell : wr.cell? ⟨g, P, none⟩ = some (.int .u16 (a : Int)) := own_cell HR.out.1 P (vals16_at h0)
        have hcell1 : wr.cell? ⟨g, P + 1, none⟩ = some (.int .u16 (b : Int)) := own_cell HR.out.1 (P + 1) (vals16_at h1)
        have hPlt : P + 1 < n := by omega
        have HP := hP.out
        have H2 : Hid (P + 2 = (u16s (out.take (j + 1))).length ∧ vals32 (out.take (j + 1)) = vals32 (out.take j) ++ [.int .i32 (c : Int)]) := ⟨by omega, hv⟩
        have hD := fun w => decodeRune_any a b ha hb2 w
        rw [hab] at hD
        clear hat hsome hnext hv h0 h1 hu hle hc hcc hab HP hbig
        obtain ⟨z, hz⟩ : ∃ z : Int, z = (c : Int) := ⟨_, rfl⟩
        obtain ⟨x, hx⟩ : ∃ x : Int, x = (a : Int) := ⟨_, rfl⟩
        obtain ⟨y, hy⟩ : ∃ y : Int, y = (b : Int) := ⟨_, rfl⟩
        rw [← hz] at hD H2
        rw [← hx] at hcell hD
        rw [← hy] at hcell1 hD
        have d1 : decide (x < 55296) = false := by simp; omega
        have d2 : decide (57344 ≤ x) = false := by simp; omega
        have d3 : decide (55296 ≤ x) = true := by simp; omega
        have d4 : decide (x < 56320) = true := by simp; omega
        have d5 : decide (56320 ≤ y) = true := by simp; omega
        have d6 : decide (y < 57344) = true := by simp; omega
        have d7 : Value.int .i32 (wrap32 x) = .int .i32 x := by congr 1; unfold wrap32; omega
        have d8 : Value.int .i32 (wrap32 y) = .int .i32 y := by congr 1; unfold wrap32; omega
        clear ha hb2 hx hy hz
        have y1 : ((P : Int) + 1) < (n : Int) := by omega
        have y2 : (n : Int) ≤ 9000 := by omega
        have y3 : 0 ≤ (P : Int) + 1 := by omega
        go_wp2_with (first
          | (go_at_call 71; refine Calls.mono (by with_reducible exact hD _) ?_; rintro e w3 ⟨rfl, rfl⟩)
          | (at_builtin; refine wpList_append_own _ rfl _ _ 66 rfl B 21 i0 (.int .i32 0) 1 4 Tryz.underlying66 hi hz0 hz1 hz2 rfl (by decide) _ _ _ rfl (hown.alloc _) ⟨w3.heap.size, 0, none⟩ 1 1 [.int .i32 z] rfl rfl (cell_one_new _ _ _) (by intro u hu; simp at hu; subst hu; rfl) (by unfold maxLen; omega) (by omega) (by simp; omega) ?_))
        intro v' w' hown' hgrow' hnil
        have hnn' : v' ≠ .slice none 0 0 := fun h => hnil h
        have hB := (HR.out.2.alloc hsz (.cells #[.int .i32 z] 21)).grown hgrow' (by simp; omega) (fun k hk => (hown.lt k hk).1)
        have hS := (HR.out.1.alloc (.cells #[.int .i32 z] 21)).kept hgrow' (own_apart (HR.out.1.alloc (.cells #[.int .i32 z] 21)) (hown.alloc _) (by decide))
        have hw' := hB.size
        have HB : Hid (w'.ownsRow B0 67 1 (.slice (some ⟨g, 0, none⟩) n cap) n (vals16 (u16s out)) ∧ Below B w w') := ⟨hS, hB⟩
        clear hB hgrow' hnil hS
        go_wp2
        go_roundw
        case rel => exact ⟨j + 1, P + 2, by simp; omega, H2.out.1, by omega, by omega, by omega, by rw [H2.out.2]; exact hown', hnn', HB.out⟩
        case measure => simp [intOf]; omega
    · have hje : j = out.length := by omega
      have HP := hP.out
      have HN2 := HN.out
      have hPe : P = n := by rw [HN2, HP, hje, u16s_all]
      subst hje
      clear HP HN2
      subst hPe
      rw [List.take_length] at hown
      go_wp2
      go_ret
      exact ⟨_, rfl, hnn, hown, HR.out.2⟩

end Go.Proofs.YtgemkjickljedaaGreatDoor
