/- What the readers of a slice of bytes answer, wherever the bytes lie, nil too. Conditions: at most 4096 bytes. -/
import Derived.Test.YtgemkjickljedaaGreatDoorWI
import Derived.Test.YtgemkjickljedaaGreatDoorWJ
import Derived.Test.YtgemkjickljedaaGreatDoorUL
namespace Go.Proofs.YtgemkjickljedaaGreatDoor
open Go.ChangeShapes Go.WideShapes Go.ChangeAt Go.RowKit

/-- The bytes l lie behind v. -/
def SlB (l : List UInt8) (v : Value) (w : World) : Prop := (l = [] ∧ v = .slice none 0 0) ∨
  ∃ g o cap, v = .slice (some ⟨g, o, none⟩) l.length cap ∧ l.length ≤ cap ∧ g < w.heap.size ∧ ∀ i c, l[i]? = some c → w.cell? ⟨g, o + i, none⟩ = some (.int .u8 c.toNat)
theorem SlB.of_own {B : Nat} {l : List UInt8} {v : Value} {w : World} (h : w.ownsRow B 5 1 v l.length (vals l)) : SlB l v w := by
  rcases h.2 with ⟨rfl, h0⟩ | ⟨g, cap, cur, rfl, hB, hgg, hc1, hc2, hc3, hc4⟩
  · exact .inl ⟨List.eq_nil_of_length_eq_zero h0, rfl⟩
  · exact .inr ⟨g, 0, cap, rfl, hc1, (h.lt g rfl).2, fun i c hi => by rw [Nat.zero_add]; exact own_cell h i (by rw [vals, List.getElem?_map, hi]; rfl)⟩
theorem SlB.below {l : List UInt8} {v : Value} {w w' : World} (h : SlB l v w) (b : Below w.heap.size w w') : SlB l v w' := by
  rcases h with h | ⟨g, o, cap, h1, h2, h3, h4⟩
  · exact .inl h
  · exact .inr ⟨g, o, cap, h1, h2, Nat.lt_of_lt_of_le h3 b.size, fun i c hi => (below_cell b (a := ⟨g, o + i, none⟩) h3).trans (h4 i c hi)⟩
theorem getD_of {l : List UInt8} {w : World} {g o n : Nat} (hn : n = l.length) (h4 : ∀ i c, l[i]? = some c → w.cell? ⟨g, o + i, none⟩ = some (.int .u8 c.toNat)) (i : Nat) (hi : i < n) : w.cell? ⟨g, o + i, none⟩ = some (.int .u8 ((nums l).getD i 0)) := by
  have hl : i < l.length := by omega
  rw [h4 i _ (List.getElem?_eq_getElem hl), nums_getD, List.getElem?_eq_getElem hl]
  rfl
theorem SlB.conv {l : List UInt8} {v : Value} {w : World} (h : SlB l v w) : (convert 43 9 v).run Tryz.prog w = .ok (.string ⟨l.toArray⟩) w := by
  rcases h with ⟨rfl, rfl⟩ | ⟨g, o, cap, rfl, h2, h3, h4⟩
  · have := run_convert_bytes_nil (P := Tryz.prog) w 43 5 Tryz.underlying43 Tryz.underlying5 0 0 9 Tryz.underlying9
    rw [this]; rfl
  · have := conv_at w 43 5 Tryz.underlying43 Tryz.underlying5 ⟨g, o, none⟩ l.length cap (nums l) (by simp [nums]) (fun i hi => by
      rw [Addr.add_lit]
      exact getD_of rfl h4 i hi) 9 Tryz.underlying9
    rw [this, str_nums]

theorem bytesOf_nums (l : List UInt8) : Lib.bytesOf (nums l) = l := by
  unfold Lib.bytesOf nums
  rw [List.map_map]
  have : ((fun n : Int => UInt8.ofNat n.toNat) ∘ fun b : UInt8 => (b.toNat : Int)) = id := by funext b; simp
  rw [this]; simp
theorem mk3_prefix (l : List UInt8) : Lib.hasPrefix l [239, 187, 191] = mk3 l := by
  unfold Lib.hasPrefix mk3
  match l with
  | [] => rfl
  | [a] => simp [List.isPrefixOf]
  | [a, b] => simp [List.isPrefixOf]
  | a :: b :: c :: t =>
    show ((239 : UInt8) == a && ((187 : UInt8) == b && ((191 : UInt8) == c && true))) = (a == 239 && (b == 187 && (c == 191 && true)))
    rw [BEq.comm (a := (239 : UInt8)), BEq.comm (a := (187 : UInt8)), BEq.comm (a := (191 : UInt8))]

/-- What stands behind the mark of UTF-8, if it is there. -/
def trm (l : List UInt8) : List UInt8 := if mk3 l = true then l.drop 3 else l
theorem SlB.trim {l : List UInt8} {v : Value} {w : World} (h : SlB l v w) (b : Nat) (hb : ∀ i c, ([239, 187, 191] : List UInt8)[i]? = some c → w.cell? ⟨b, 0 + i, none⟩ = some (.int .u8 c.toNat)) :
    ∃ v', SlB (trm l) v' w ∧ Calls Tryz.prog 38 #[v, .slice (some ⟨b, 0, none⟩) 3 3] w fun e w' => e = .returned v' ∧ w' = w := by
  have h2 : Lib.BytesIn w (some ⟨b, 0, none⟩) 3 (nums [239, 187, 191]) := fun _ => ⟨b, 0, rfl, fun i hi => getD_of (l := [239, 187, 191]) rfl hb i hi⟩
  rcases h with ⟨rfl, rfl⟩ | ⟨g, o, cap, rfl, hc, hg, h4⟩
  · exact ⟨.slice none 0 0, .inl ⟨rfl, rfl⟩, Tryz.bytes_TrimPrefix_all none (some ⟨b, 0, none⟩) 0 0 3 3 [] (nums [239, 187, 191]) w rfl rfl (Nat.le_refl _) (Lib.BytesIn.nil _ _ _) h2⟩
  · have h1 : Lib.BytesIn w (some ⟨g, o, none⟩) l.length (nums l) := fun _ => ⟨g, o, rfl, fun i hi => getD_of rfl h4 i hi⟩
    have hk := Tryz.bytes_TrimPrefix_all (some ⟨g, o, none⟩) (some ⟨b, 0, none⟩) l.length cap 3 3 (nums l) (nums [239, 187, 191]) w (by simp [nums]) rfl hc h1 h2
    refine ⟨_, ?_, hk⟩
    show SlB (trm l) (Lib.bytesTrimPrefix g o l.length cap (nums l) (nums [239, 187, 191])) w
    unfold Lib.bytesTrimPrefix
    rw [bytesOf_nums, bytesOf_nums, mk3_prefix]
    unfold trm
    by_cases hm : mk3 l = true
    · rw [if_pos hm, if_pos hm]
      have hl3 : 3 ≤ l.length := by
        rcases Nat.lt_or_ge l.length 3 with hh | hh
        · rw [mk3_short hh] at hm; cases hm
        · exact hh
      show SlB (l.drop 3) (Lib.sliceFrom g o l.length cap 3) w
      unfold Lib.sliceFrom
      by_cases hcap : cap = 3
      · rw [if_pos hcap]
        refine .inr ⟨g, o, cap - 3, by rw [List.length_drop], by rw [List.length_drop]; omega, hg, fun i c hi => ?_⟩
        have : (l.drop 3).length = 0 := by rw [List.length_drop]; omega
        rw [List.length_eq_zero_iff.1 this] at hi
        cases hi
      · rw [if_neg hcap]
        refine .inr ⟨g, o + 3, cap - 3, by rw [List.length_drop], by rw [List.length_drop]; omega, hg, fun i c hi => ?_⟩
        rw [List.getElem?_drop] at hi
        rw [Nat.add_assoc]
        exact h4 (3 + i) c hi
    · rw [if_neg hm, if_neg hm]
      exact .inr ⟨g, o, cap, rfl, hc, hg, h4⟩

set_option maxRecDepth 100000 in
theorem ctl_nil (w : World) : Calls Tryz.prog 40 #[.slice none 0 0] w fun e w' => e = .returned (.bool false) ∧ w' = w := by
  go_enter Tryz.func40, Tryz.ntmps40
  go_wp2_with (fail)
  go_loop [7] (fun v => v = .int .i64 0) (fun _ => 0)
  case atStart => rfl
  case round =>
    obtain rfl := hrel
    go_wp2_with (fail)
    go_ret
    exact ⟨rfl, rfl⟩
theorem SlB.ctl {l : List UInt8} {v : Value} {w : World} (h : SlB l v w) (hl : l.length ≤ 4096) : Calls Tryz.prog 40 #[v] w fun e w' => e = .returned (.bool (l.any Go.Proofs.YtgemkjickljedaaGreatDoor.ctl)) ∧ w' = w := by
  rcases h with ⟨rfl, rfl⟩ | ⟨g, o, cap, rfl, hc, hg, h4⟩
  · exact ctl_nil w
  · exact ctl_any l g o l.length cap w rfl hl h4
theorem SlB.pdf {l : List UInt8} {v : Value} {w : World} (h : SlB l v w) (hl : l.length ≤ 4096) (hne : l ≠ []) (hsg : l.any noSign = false) (hD : DocTab w) : Calls Tryz.prog 41 #[v] w fun e w' => e = .returned (.string ⟨(docB l).toArray⟩) ∧ Below w.heap.size w w' := by
  rcases h with ⟨rfl, rfl⟩ | ⟨g, o, cap, rfl, hc, hg, h4⟩
  · exact absurd rfl hne
  · exact pdf_any l g o l.length cap w rfl hl hsg hD h4 hg
set_option maxRecDepth 100000 in
theorem valid_nil (w : World) : Calls Tryz.prog 39 #[.slice none 0 0] w fun e w' => e = .returned (.bool true) ∧ Below w.heap.size w w' := by
  go_enter Tryz.func39, Tryz.ntmps39
  go_wp2_with (fail)
  go_loopw [0] (fun v wr => v = .slice none 0 0 ∧ wr = w) (fun _ _ => 0)
  case atStart => exact ⟨rfl, rfl⟩
  case round =>
    obtain ⟨rfl, rfl⟩ := hrel
    go_wp2_with (fail)
    go_ret
    exact ⟨rfl, Below.refl _ _⟩

end Go.Proofs.YtgemkjickljedaaGreatDoor
