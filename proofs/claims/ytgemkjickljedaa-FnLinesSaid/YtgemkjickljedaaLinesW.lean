/- What the functions that cut data into lines answer. Conditions: sizes up to 4096 bytes. -/
import Derived.Test.YtgemkjickljedaaLine
import Derived.Test.YtgemkjickljedaaRows
import Derived.Test.YtgemkjickljedaaShelf
import Derived.WalkKit
import Derived.WalkLawsBesides
import Derived.WalkSpells
import Derived.ProofKit
import Derived.Below
import Derived.Lib.Hide
import Derived.ArgAppend
import Derived.BigQuiet
import Derived.WalkSmall
namespace Go.Proofs.Ytgemkjickljedaa
open Go.ChangeShapes Go.WideShapes Go.ChangeAt Go.RowKit Go.Lib

theorem Try.info9 : (Try.prog.info? 9).map (fun i => (i.zero, i.size, i.bytes)) = some (some (.string ByteArray.empty), 1, 16) := by kernel_rfl
theorem Try.info5 : (Try.prog.info? 5).map (fun i => (i.zero, i.size, i.bytes)) = some (some (.int .u8 0), 1, 1) := by kernel_rfl

theorem bytesOf_ne {xs : List Int} (h : xs ≠ []) : bytesOf xs ≠ [] := by cases xs <;> simp_all [bytesOf]

set_option maxHeartbeats 1000000 in
theorem scan_any (b o n c : Nat) (xs : List Int) (w : World) (hx : xs.length = n) (hne : xs ≠ []) (hnc : n ≤ c) (hn : n ≤ 4096) (hc : ∀ i, i < n → w.cell? ⟨b, o + i, none⟩ = some (.int .u8 (xs.getD i 0))) :
    Calls Try.prog 6 #[.slice (some ⟨b, o, none⟩) n c, .bool true] w fun e w' => ∃ i m : Nat, e = .returned (.tuple #[.int .i64 m, .slice (some ⟨b, o, none⟩) i c, .nilIface]) ∧
      Line (bytesOf xs) 0 ((bytesOf xs).take i) m ∧ i ≤ n ∧ m ≤ n ∧ Below w.heap.size w w' := by
  have hlen : (bytesOf xs).length = n := by simp [bytesOf, hx]
  have hpos : 0 < n := by cases xs with | nil => exact absurd rfl hne | cons _ _ => simp at hx; omega
  have h13 := Try.bytes_IndexByte b o n c xs 13 w hx hc
  have h10 := Try.bytes_IndexByte b o n c xs 10 w hx hc
  obtain ⟨cr, hcr⟩ : ∃ cr, Lib.indexByte (Lib.bytesOf xs) (13 : Int).toNat.toUInt8 = cr := ⟨_, rfl⟩
  obtain ⟨lf, hlf⟩ : ∃ lf, Lib.indexByte (Lib.bytesOf xs) (10 : Int).toNat.toUInt8 = lf := ⟨_, rfl⟩
  obtain ⟨i, m, hline, hi, hm, hcase⟩ := line_of (bytesOf_ne hne) hcr hlf
  rw [hcr] at h13
  rw [hlf] at h10
  have HL : Hid (Line (bytesOf xs) 0 ((bytesOf xs).take i) m) := hline
  rw [hlen] at hi hm hcase
  clear hline hcr hlf hlen hne hc hx
  rcases hcase with ⟨rfl, rfl, rfl, rfl⟩ | ⟨rfl, h1, rfl, rfl⟩ | ⟨h1, rfl, rfl, rfl⟩ | ⟨h0, h1, h2, h3, rfl, rfl⟩ | ⟨h0, h1, h2, h3, rfl, rfl⟩ | ⟨h0, h1, h2, rfl, rfl⟩
  all_goals
    go_enter Try.func6, Try.ntmps6
    go_wp2_with (first
      | (go_at_call 8; refine h13.mono ?_; rintro e w1 ⟨rfl, rfl⟩)
      | (go_at_call 8; refine h10.mono ?_; rintro e w1 ⟨rfl, rfl⟩))
  all_goals (try (go_quiet (fail)))
  all_goals (try go_wp2)
  all_goals
    go_ret3
    exact ⟨_, _, rfl, HL.out, hi, hm, by repeat (first | exact Below.refl _ _ | refine below_drewN ?_ _ | refine Below.drew ?_)⟩

set_option maxHeartbeats 1000000 in
/-- The first line of data that are there. -/
theorem impl_any (a : Addr) (n c : Nat) (xs : List Int) (w : World) (hx : xs.length = n) (hne : xs ≠ []) (hn : n ≤ 4096) (hc : ∀ i, i < n → w.cell? (a.add i) = some (.int .u8 (xs.getD i 0))) :
    Calls Try.prog 5 #[.slice (some a) n c, .bool true, .bool false] w fun e w' => ∃ g i m k : Nat, e = .returned (.tuple #[.int .i64 m, .slice (some ⟨g, 0, none⟩) i k, .bool true]) ∧
      Line (bytesOf xs) 0 ((bytesOf xs).take i) m ∧ i ≤ n ∧ m ≤ n ∧ (∀ j, j < i → w'.cell? ⟨g, j, none⟩ = some (.int .u8 (xs.getD j 0))) ∧ Below w.heap.size w w' := by
  obtain ⟨i0, hi, hz0, hz1, hz2⟩ := info_parts Try.info5
  have hpos : 0 < n := by cases xs with | nil => exact absurd rfl hne | cons _ _ => simp at hx; omega
  go_enter Try.func5, Try.ntmps5
  have hb := fun w' (hg : w.grownBy w' none) => (Below.refl w.heap.size w).grown hg (Nat.le_refl _) (fun k h => by cases h)
  have hcells : ∀ j u, (xs.map (Value.int .u8))[j]? = some u → (w.alloc (.cells #[] 5)).cell? (a.add j) = some u := by
    intro j u hu
    rw [List.getElem?_map] at hu
    have hj : j < xs.length := by
      rcases Nat.lt_or_ge j xs.length with h | h
      · exact h
      · rw [List.getElem?_eq_none h] at hu; simp at hu
    rw [List.getElem?_eq_getElem hj] at hu
    simp only [Option.map_some, Option.some.injEq] at hu
    subst hu
    have h1 := hc j (by omega)
    rw [World.cell?_alloc_lt _ _ _ (block_lt_of_cell h1), h1]
    simp [List.getD, List.getElem?_eq_getElem hj]
  go_wp2_with (at_builtin; refine wpList_append_grows _ rfl _ _ 22 rfl 5 i0 (.int .u8 0) 1 1 Try.underlying22 hi hz0 hz1 hz2 rfl (by decide) (some ⟨w.heap.size, 0, none⟩) 0 0 [] rfl (fun h => by cases h) rfl (by intro b _ j u hu; simp at hu) a n c (xs.map (Value.int .u8)) rfl (by simp [hx]) hcells (by intro u hu; simp at hu; obtain ⟨q, _, rfl⟩ := hu; rfl) (by omega) (by unfold maxLen; omega) (by omega) ?_)
  intro v w1 hown hgrow
  have hB := ((Below.refl w.heap.size w).alloc (Nat.le_refl _) (.cells #[] 5)).grown hgrow (by simp) (fun k h => by cases h)
  obtain ⟨hl, hcase⟩ := hown
  rcases hcase with ⟨_, h0⟩ | ⟨g, cap, cur, rfl, hg, hheap, hncap, hcm, hcs, htake⟩
  · omega
  have hcell : ∀ i, i < n → w1.cell? ⟨g, i, none⟩ = some (.int .u8 (xs.getD i 0)) := by
    intro i hi
    have hi' : i < xs.length := by omega
    rw [cell_of_row _ g i cur 5 (0, 0) hheap]
    have h2 : (cur.toList.take (n * 1))[i]? = (List.map (Value.int IntKind.u8) xs)[i]? := by rw [htake]
    rw [List.getElem?_take, if_pos (by omega), List.getElem?_map, List.getElem?_eq_getElem hi'] at h2
    simpa [List.getD, List.getElem?_eq_getElem hi'] using h2
  have HB : Hid (Below w.heap.size w w1) := hB
  have HC : Hid (∀ i, i < n → w1.cell? ⟨g, i, none⟩ = some (.int .u8 (xs.getD i 0))) := hcell
  have hs := scan_any g 0 n cap xs w1 hx hne (by omega) hn (by simpa using hcell)
  clear hcells hc hheap hcell hB
  go_wp2_with (go_at_call 6; refine hs.mono ?_; rintro e w2 ⟨i, m, rfl, hline, hi, hm, hb⟩)
  go_ret3
  refine ⟨g, i, m, cap, by simp, hline, hi, hm, ?_, HB.out.trans (hb.mono HB.out.size)⟩
  intro j hj
  have h1 := HC.out j (by omega)
  rw [hb.cell (block_lt_of_cell h1), h1]

end Go.Proofs.Ytgemkjickljedaa
