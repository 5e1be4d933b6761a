/- The law FnDecodeEntry answers true, if spec.EntryText answers the line of the entry. Conditions: that answer is told ahead. -/
import Derived.Test.YtnpedhdonfdbmaaDoorEX
import Derived.Lib.QuietBelow
namespace Go.Proofs.YtnpedhdonfdbmaaDoor
open Go.ChangeShapes Go.WideShapes Go.ChangeAt Go.RowKit Go.Sort

theorem cut_list (s : ByteArray) (f i : Nat) : (s.extract f i).data.toList = (s.data.toList.drop f).take (i - f) := by
  simp [ByteArray.data_extract, List.take_drop]
theorem cuts_of (A B k : ByteArray) (hA : A.size = 10) (hB : B.size = 5) (hk : k.size = 1) :
    (A ++ ⟨#[32]⟩ ++ B ++ ⟨#[32]⟩ ++ k ++ ⟨#[32, 13]⟩ : ByteArray).size = 20 ∧ (A ++ ⟨#[32]⟩ ++ B ++ ⟨#[32]⟩ ++ k ++ ⟨#[32, 13]⟩ : ByteArray).extract 0 10 = A ∧ (A ++ ⟨#[32]⟩ ++ B ++ ⟨#[32]⟩ ++ k ++ ⟨#[32, 13]⟩ : ByteArray).extract 11 16 = B ∧ (A ++ ⟨#[32]⟩ ++ B ++ ⟨#[32]⟩ ++ k ++ ⟨#[32, 13]⟩ : ByteArray).extract 17 18 = k := by
  have hl : (A ++ ⟨#[32]⟩ ++ B ++ ⟨#[32]⟩ ++ k ++ ⟨#[32, 13]⟩ : ByteArray).data.toList = A.data.toList ++ (32 :: (B.data.toList ++ (32 :: (k.data.toList ++ [32, 13])))) := by simp
  have lA : A.data.toList.length = 10 := by simpa using hA
  have lB : B.data.toList.length = 5 := by simpa using hB
  have lk : k.data.toList.length = 1 := by simpa using hk
  refine ⟨?_, str_ext ?_, str_ext ?_, str_ext ?_⟩
  · show (A ++ ⟨#[32]⟩ ++ B ++ ⟨#[32]⟩ ++ k ++ ⟨#[32, 13]⟩ : ByteArray).data.size = 20
    rw [← Array.length_toList, hl]
    simp only [List.length_append, List.length_cons, List.length_nil, lA, lB, lk]
  · rw [cut_list, hl, List.drop_zero, List.take_append_of_le_length (by omega), List.take_of_length_le (by omega)]
  · rw [cut_list, hl, List.drop_append, List.drop_eq_nil_of_le (by omega), lA]
    show ((B.data.toList ++ _).take 5) = _
    rw [List.take_append_of_le_length (by omega), List.take_of_length_le (by omega)]
  · rw [cut_list, hl, List.drop_append, List.drop_eq_nil_of_le (by omega), lA]
    show (((B.data.toList ++ _).drop 6).take 1) = _
    rw [List.drop_append, List.drop_eq_nil_of_le (by omega), lB]
    show ((k.data.toList ++ _).take 1) = _
    rw [List.take_append_of_le_length (by omega), List.take_of_length_le (by omega)]

set_option maxRecDepth 100000 in
set_option maxHeartbeats 2000000 in
theorem law_core (o n : Nat) (fr : Bool) (K : ByteArray) (hK : (fr = true ∧ K = ⟨#[102]⟩) ∨ (fr = false ∧ K = ⟨#[110]⟩)) (w : World) (ho : o < 10 ^ 10) (hn : n < 65536)
    (hE : Calls Tryd.prog 6 #[.agg #[.int .i64 0, .bool fr, .bool false, .int .i64 o, .int .i64 n, .bool false, .bool false, .int .i64 0, .int .i64 0], .int .i64 0] w fun e w' => e = .returned (.string (lineS o n K)) ∧ Below w.heap.size w w') :
    Calls Tryd.prog 3 #[.int .i64 o, .int .i64 n, .bool fr] w fun e w' => e = .returned (.bool true) ∧ Below w.heap.size w w' := by
  have hD := fun w => decodeEntry_any o n K (by rcases hK with ⟨_, h⟩ | ⟨_, h⟩ <;> simp [h]) w ho (by omega)
  have hcut := cuts_of (PS 10 o) (PS 5 n) K (PS_size ho (by decide)) (PS_size (show n < 10 ^ 5 by omega) (by decide)) (by rcases hK with ⟨_, h⟩ | ⟨_, h⟩ <;> (rw [h]; rfl))
  change (lineS o n K).size = 20 ∧ (lineS o n K).extract 0 10 = _ ∧ (lineS o n K).extract 11 16 = _ ∧ (lineS o n K).extract 17 18 = _ at hcut
  obtain ⟨L, hL⟩ : ∃ L, lineS o n K = L := ⟨_, rfl⟩
  obtain ⟨A, hA⟩ : ∃ A, PS 10 o = A := ⟨_, rfl⟩
  obtain ⟨B, hB⟩ : ∃ B, PS 5 n = B := ⟨_, rfl⟩
  rw [hL] at hcut hE
  rw [hA, hB] at hcut hD
  obtain ⟨hs, x1, x2, x3⟩ := hcut
  have g1 : decide ((o : Int) < 0) = false := by simp
  have g2 : decide (9999999999 < (o : Int)) = false := by simp; omega
  have g3 : decide ((n : Int) < 0) = false := by simp
  have g4 : decide (65535 < (n : Int)) = false := by simp; omega
  have q1 : ((o : Int) == (o : Int)) = true := by simp
  have q2 : ((n : Int) == (n : Int)) = true := by simp
  clear hL hA hB ho hn
  rcases hK with ⟨rfl, rfl⟩ | ⟨rfl, rfl⟩
  all_goals
    go_enter Tryd.func3, Tryd.ntmps3
    go_wp2_with (go_at_call 6; refine Calls.mono (by with_reducible exact hE) ?_; rintro e w1 ⟨rfl, b1⟩)
    have cD := fun p os => Calls.regrown_of (hD (grow (redrawn w1 p) os))
    clear hE hD
    refine wp_region_quiet_below (by kernel_rfl) (by kernel_rfl) ?_
    repeat (quiet_step (with_reducible exact cD _ _))
    refine wpQuiet_nil ?_
    intro _ hw'
    obtain ⟨⟨dq, osq⟩, hw''⟩ := hw'
    subst hw''
    go_wp2
    go_ret
    exact ⟨rfl, b1.trans ((below_regrown w1 dq osq).mono b1.size)⟩

end Go.Proofs.YtnpedhdonfdbmaaDoor
