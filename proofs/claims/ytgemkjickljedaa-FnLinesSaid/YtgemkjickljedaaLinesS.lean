/- What spec.Lines answers. Conditions: sizes up to 4096 bytes. -/
import Derived.Test.YtgemkjickljedaaLinesW
namespace Go.Proofs.Ytgemkjickljedaa
open Go.ChangeShapes Go.WideShapes Go.ChangeAt Go.RowKit

def strs (ts : List ByteArray) : List Value := ts.map Value.string
def lists (ts : List ByteArray) : List (List UInt8) := ts.map fun t => t.data.toList

/-- What the loop keeps. -/
structure Cut (s : ByteArray) (B : Nat) (f i : Nat) (ts : List ByteArray) (v : Value) (w wr : World) : Prop where
  fi : f ≤ i
  le : i ≤ s.size
  chain : Chain s.data.toList 0 (lists ts) f
  noend : NoEnd s.data.toList f i
  own : wr.ownsRow B 9 1 v ts.length (strs ts)
  below : Below B w wr

theorem get_of {s : ByteArray} {k : Nat} (h : k < s.size) : s.data.toList[k]? = some s[k] := by
  rw [List.getElem?_eq_getElem (by simpa using h), Array.getElem_toList]; rfl

theorem ex_toList (s : ByteArray) (f i : Nat) (_h : i ≤ s.size) : (s.extract f i).data.toList = (s.data.toList.drop f).take (i - f) := by
  simp [ByteArray.data_extract, List.take_drop]

theorem u8_of {c : UInt8} {n : Nat} (hn : n < 256) (h : c.toNat = n) : c = UInt8.ofNat n := by
  apply UInt8.toNat_inj.1
  rw [h, UInt8.toNat_ofNat']
  omega

theorem get_is {s : ByteArray} {k : Nat} (h : k < s.size) {n : Nat} (hn : n < 256) (e : s[k].toNat = n) : s.data.toList[k]? = some (UInt8.ofNat n) := by
  rw [get_of h, u8_of hn e]
theorem get_not {s : ByteArray} {k : Nat} (h : k < s.size) {n : Nat} (hn : n < 256) (e : s[k].toNat ≠ n) : s.data.toList[k]? ≠ some (UInt8.ofNat n) := by
  rw [get_of h]
  intro h1
  simp only [Option.some.injEq] at h1
  rw [h1, UInt8.toNat_ofNat'] at e
  omega

theorem Cut.next {s : ByteArray} {B f i : Nat} {ts : List ByteArray} {v : Value} {w wr : World} (C : Cut s B f i ts v w wr) (hlt : f < s.size) {m : Nat}
    (h : (i = s.size ∧ m = i) ∨ (s.data.toList[i]? = some 10 ∧ m = i + 1) ∨ (s.data.toList[i]? = some 13 ∧ s.data.toList[i+1]? ≠ some 10 ∧ m = i + 1) ∨ (s.data.toList[i]? = some 13 ∧ s.data.toList[i+1]? = some 10 ∧ m = i + 2)) :
    Chain s.data.toList 0 (lists (ts ++ [s.extract f i])) m := by
  have : lists (ts ++ [s.extract f i]) = lists ts ++ [(s.extract f i).data.toList] := by simp [lists]
  rw [this]
  refine C.chain.snoc ⟨i, C.fi, by simpa using C.le, by simpa using hlt, C.noend, ex_toList s f i C.le, ?_⟩
  simpa using h

theorem strs_snoc (ts : List ByteArray) (t : ByteArray) : strs (ts ++ [t]) = strs ts ++ [.string t] := by simp [strs]

set_option maxHeartbeats 2000000 in
theorem spec_any (s : ByteArray) (w : World) (hs : s.size ≤ 4096) :
    Calls Try.prog 4 #[.string s] w fun e w' => ∃ v ts, e = .returned v ∧ w'.ownsRow w.heap.size 9 1 v ts.length (strs ts) ∧ Chain s.data.toList 0 (lists ts) s.size ∧ Below w.heap.size w w' := by
  obtain ⟨i0, hi, hz0, hz1, hz2⟩ := info_parts Try.info9
  go_enter Try.func4, Try.ntmps4
  go_wp2_with (fail)
  go_loopw [3, 4, 5] (fun v fv iv wr => ∃ (f i : Nat) (ts : List ByteArray), fv = .int .i64 f ∧ iv = .int .i64 i ∧ f ≤ i ∧ i ≤ s.size ∧ ts.length ≤ f ∧ w.heap.size ≤ wr.heap.size ∧ wr.ownsRow w.heap.size 9 1 v ts.length (strs ts) ∧ Hid (Cut s w.heap.size f i ts v w wr))
    (fun _ _ iv _ => s.size - (RowKit.intOf iv).toNat)
  case atStart => exact ⟨0, 0, [], rfl, rfl, Nat.le_refl _, Nat.zero_le _, Nat.le_refl _, Nat.le_refl _, World.ownsRow_nil _ _ _ _, ⟨Nat.le_refl _, Nat.zero_le _, rfl, NoEnd.refl _ _, World.ownsRow_nil _ _ _ _, Below.refl _ _⟩⟩
  case round =>
    obtain ⟨f, i, ts, rfl, rfl, hfi, his, htf, hsz, hown, HC⟩ := hrel
    by_cases hlt : i < s.size
    · by_cases h10 : s[i].toNat = 10
      · have g := get_is hlt (by decide) h10
        go_wp2_with (at_builtin; refine wpList_append_own _ rfl _ _ 23 rfl w.heap.size 9 i0 (.string ByteArray.empty) 1 16 Try.underlying23 hi hz0 hz1 hz2 rfl (by decide) _ _ _ rfl (hown.alloc _) ⟨wr.heap.size, 0, none⟩ 1 1 [.string (s.extract f i)] rfl rfl (cell_one_new _ _ _) (by intro u hu; simp at hu; subst hu; rfl) (by unfold maxLen; omega) (by omega) (by simp; omega) ?_)
        intro v' w' hown' hgrow' hnil
        have hB := (HC.out.below.alloc (by omega) (.cells #[.string (s.extract f i)] 9)).grown hgrow' (by simp; omega) (fun j hj => (hown.lt j hj).1)
        have HB : Hid (Below w.heap.size w w') := hB
        have hw' := hB.size
        clear hB hgrow' hnil
        go_wp2
        go_roundw
        case rel =>
          refine ⟨i + 1, i + 1, ts ++ [s.extract f i], by simp, by simp, Nat.le_refl _, by omega, by simp; omega, hw', by rw [strs_snoc]; simpa using hown', ?_⟩
          exact ⟨Nat.le_refl _, by omega, HC.out.next (by omega) (.inr (.inl ⟨g, rfl⟩)), NoEnd.refl _ _, by rw [strs_snoc]; simpa using hown', HB.out⟩
        case measure => simp [RowKit.intOf]; omega
      · by_cases h13 : s[i].toNat = 13
        · have g := get_is hlt (by decide) h13
          by_cases h2 : i + 1 < s.size
          · by_cases hn : s[i+1].toNat = 10
            · have g2 := get_is h2 (by decide) hn
              go_wp2_with (at_builtin; refine wpList_append_own _ rfl _ _ 23 rfl w.heap.size 9 i0 (.string ByteArray.empty) 1 16 Try.underlying23 hi hz0 hz1 hz2 rfl (by decide) _ _ _ rfl (hown.alloc _) ⟨wr.heap.size, 0, none⟩ 1 1 [.string (s.extract f i)] rfl rfl (cell_one_new _ _ _) (by intro u hu; simp at hu; subst hu; rfl) (by unfold maxLen; omega) (by omega) (by simp; omega) ?_)
              intro v' w' hown' hgrow' hnil
              have hB := (HC.out.below.alloc (by omega) (.cells #[.string (s.extract f i)] 9)).grown hgrow' (by simp; omega) (fun j hj => (hown.lt j hj).1)
              have HB : Hid (Below w.heap.size w w') := hB
              have hw' := hB.size
              clear hB hgrow' hnil
              go_wp2
              go_roundw
              case rel =>
                refine ⟨i + 2, i + 2, ts ++ [s.extract f i], by simp; omega, by simp; omega, Nat.le_refl _, by omega, by simp; omega, hw', by rw [strs_snoc]; simpa using hown', ?_⟩
                exact ⟨Nat.le_refl _, by omega, HC.out.next (by omega) (.inr (.inr (.inr ⟨g, g2, rfl⟩))), NoEnd.refl _ _, by rw [strs_snoc]; simpa using hown', HB.out⟩
              case measure => simp [RowKit.intOf]; omega
            · have g2 := get_not h2 (by decide) hn
              go_wp2_with (at_builtin; refine wpList_append_own _ rfl _ _ 23 rfl w.heap.size 9 i0 (.string ByteArray.empty) 1 16 Try.underlying23 hi hz0 hz1 hz2 rfl (by decide) _ _ _ rfl (hown.alloc _) ⟨wr.heap.size, 0, none⟩ 1 1 [.string (s.extract f i)] rfl rfl (cell_one_new _ _ _) (by intro u hu; simp at hu; subst hu; rfl) (by unfold maxLen; omega) (by omega) (by simp; omega) ?_)
              intro v' w' hown' hgrow' hnil
              have hB := (HC.out.below.alloc (by omega) (.cells #[.string (s.extract f i)] 9)).grown hgrow' (by simp; omega) (fun j hj => (hown.lt j hj).1)
              have HB : Hid (Below w.heap.size w w') := hB
              have hw' := hB.size
              clear hB hgrow' hnil
              go_wp2
              go_roundw
              case rel =>
                refine ⟨i + 1, i + 1, ts ++ [s.extract f i], by simp, by simp, Nat.le_refl _, by omega, by simp; omega, hw', by rw [strs_snoc]; simpa using hown', ?_⟩
                exact ⟨Nat.le_refl _, by omega, HC.out.next (by omega) (.inr (.inr (.inl ⟨g, g2, rfl⟩))), NoEnd.refl _ _, by rw [strs_snoc]; simpa using hown', HB.out⟩
              case measure => simp [RowKit.intOf]; omega
          · have g2 : s.data.toList[i+1]? ≠ some 10 := by rw [List.getElem?_eq_none (by simp; omega)]; simp
            go_wp2_with (at_builtin; refine wpList_append_own _ rfl _ _ 23 rfl w.heap.size 9 i0 (.string ByteArray.empty) 1 16 Try.underlying23 hi hz0 hz1 hz2 rfl (by decide) _ _ _ rfl (hown.alloc _) ⟨wr.heap.size, 0, none⟩ 1 1 [.string (s.extract f i)] rfl rfl (cell_one_new _ _ _) (by intro u hu; simp at hu; subst hu; rfl) (by unfold maxLen; omega) (by omega) (by simp; omega) ?_)
            intro v' w' hown' hgrow' hnil
            have hB := (HC.out.below.alloc (by omega) (.cells #[.string (s.extract f i)] 9)).grown hgrow' (by simp; omega) (fun j hj => (hown.lt j hj).1)
            have HB : Hid (Below w.heap.size w w') := hB
            have hw' := hB.size
            clear hB hgrow' hnil
            go_wp2
            go_roundw
            case rel =>
              refine ⟨i + 1, i + 1, ts ++ [s.extract f i], by simp, by simp, Nat.le_refl _, by omega, by simp; omega, hw', by rw [strs_snoc]; simpa using hown', ?_⟩
              exact ⟨Nat.le_refl _, by omega, HC.out.next (by omega) (.inr (.inr (.inl ⟨g, g2, rfl⟩))), NoEnd.refl _ _, by rw [strs_snoc]; simpa using hown', HB.out⟩
            case measure => simp [RowKit.intOf]; omega
        · have g1 := get_not hlt (by decide) h10
          have g2 := get_not hlt (by decide) h13
          have z : (((s[i].toNat : Int) != 10) && ((s[i].toNat : Int) != 13)) = true := by simp; omega
          have z10 : ((s[i].toNat : Int) != 10) = true := by simp; omega
          have z13 : ((s[i].toNat : Int) != 13) = true := by simp; omega
          go_wp2
          go_roundw
          case rel => exact ⟨f, i + 1, ts, rfl, by simp, by omega, by omega, htf, hsz, hown, ⟨by omega, by omega, HC.out.chain, HC.out.noend.succ g2 g1, HC.out.own, HC.out.below⟩⟩
          case measure => simp [RowKit.intOf]; omega
    · have hie : i = s.size := by omega
      by_cases hf : f < s.size
      · go_wp2_with (at_builtin; refine wpList_append_own _ rfl _ _ 23 rfl w.heap.size 9 i0 (.string ByteArray.empty) 1 16 Try.underlying23 hi hz0 hz1 hz2 rfl (by decide) _ _ _ rfl (hown.alloc _) ⟨wr.heap.size, 0, none⟩ 1 1 [.string (s.extract f s.size)] rfl rfl (cell_one_new _ _ _) (by intro u hu; simp at hu; subst hu; rfl) (by unfold maxLen; omega) (by omega) (by simp; omega) ?_)
        intro v' w' hown' hgrow' hnil
        have hB := (HC.out.below.alloc (by omega) (.cells #[.string (s.extract f s.size)] 9)).grown hgrow' (by simp; omega) (fun j hj => (hown.lt j hj).1)
        have HB : Hid (Below w.heap.size w w') := hB
        clear hB hgrow' hnil
        go_wp2
        go_ret
        have := HC.out.next hf (.inl ⟨hie, rfl⟩)
        rw [hie] at this
        exact ⟨_, ts ++ [s.extract f s.size], rfl, by rw [strs_snoc]; simpa using hown', this, HB.out⟩
      · have hfe : f = s.size := by omega
        go_wp2
        go_ret
        exact ⟨_, ts, rfl, hown, hfe ▸ HC.out.chain, HC.out.below⟩

end Go.Proofs.Ytgemkjickljedaa
