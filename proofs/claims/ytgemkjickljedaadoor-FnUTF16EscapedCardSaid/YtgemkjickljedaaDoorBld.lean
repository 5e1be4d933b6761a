/- What the writing methods of strings.Builder do at this program's numbers. Conditions: lengths below 2^47. -/
import Derived.Test.YtgemkjickljedaaDoorHexW
import Derived.Test.YtgemkjickljedaaDoorShelf
import Derived.Lib.Builder
import Derived.Lib.AppendStr
import Derived.Lib.Walk
import Derived.Laws.Externs
import Derived.WalkLawsBesides
import Derived.WalkSpells
import Derived.ArgAppend
import Derived.WalkSmall
namespace Go.Proofs.YtgemkjickljedaaDoor
open Go.ChangeShapes Go.WideShapes Go.ChangeAt Go.RowKit


theorem sizeB : (Tryd.prog.info? 64).map (·.size) = some 2 := by kernel_rfl
theorem liesB : liesAt Tryd.prog Tryd.prog.depth 64 (2 / Tryd.prog.cellsOf 64) 0 64 1 = true := by kernel_rfl

set_option maxHeartbeats 1000000 in
set_option maxRecDepth 100000 in
theorem check_used (b : Nat) (w : World) (h0 : w.cell? ⟨b, 0, none⟩ = some (.pointer (some ⟨b, 0, none⟩))) :
    Calls Tryd.prog 78 #[.pointer (some ⟨b, 0, none⟩)] w fun e w' => e = .returned (.tuple #[]) ∧ w' = w := by
  obtain ⟨j, hj, _⟩ := Option.map_eq_some_iff.1 sizeB
  go_enter Tryd.func78, Tryd.ntmps78
  go_wp2
  rw [Lib.run_neq_ptr_same w _ Tryd.underlying62 hj]
  go_wp2
  go_end0
  exact ⟨rfl, rfl⟩

set_option maxHeartbeats 1000000 in
set_option maxRecDepth 100000 in
theorem check_fresh (b : Nat) (w : World) (h0 : w.cell? ⟨b, 0, none⟩ = some (.pointer none)) (hsh : w.shape? b = some (64, 2)) (hfz : w.frozen? ⟨b, 0, none⟩ = false) :
    Calls Tryd.prog 78 #[.pointer (some ⟨b, 0, none⟩)] w fun e w' => e = .returned (.tuple #[]) ∧ w' = w.setCell ⟨b, 0, none⟩ (.pointer (some ⟨b, 0, none⟩)) := by
  obtain ⟨j, hj, hjs⟩ := Option.map_eq_some_iff.1 sizeB
  go_enter Tryd.func78, Tryd.ntmps78
  go_wp2
  rw [Lib.run_to_unsafe w ⟨b, 0, none⟩ Tryd.underlying62 Tryd.underlying115 hj (by rw [hjs]; decide) hsh (Nat.zero_lt_succ 1)]
  simp only [Result.andThen]
  rw [Oper.upon_value]
  go_wp2
  rw [run_callFunc_extern Tryd.func91 (by kernel_rfl) (by kernel_rfl) (by kernel_rfl) (e := Extern.AbiNoEscape.same) (by kernel_rfl)]
  rw [Lib.run_noEscape]
  simp only [Result.andThen]
  rw [Oper.upon_value]
  go_wp2
  rw [Lib.run_from_unsafe w ⟨b, 0, none⟩ Tryd.underlying115 Tryd.underlying62 hj hsh liesB]
  simp only [Result.andThen]
  rw [Oper.upon_value]
  go_wp2
  go_end0
  exact ⟨rfl, rfl⟩

theorem check_any (B b : Nat) (bs : List Value) (w : World) (h : Lib.IsBuilder 64 5 B b bs w) :
    Calls Tryd.prog 78 #[.pointer (some ⟨b, 0, none⟩)] w fun e w' => e = .returned (.tuple #[]) ∧ Lib.BuilderAt 64 5 B b (.pointer (some ⟨b, 0, none⟩)) bs w' ∧ Below B w w' ∧ (∀ k, k ≠ b → w'.heap[k]? = w.heap[k]?) ∧ w'.cell? ⟨b, 1, none⟩ = w.cell? ⟨b, 1, none⟩ := by
  rcases h with h | h
  · refine (check_fresh b w h.cell0 h.shape h.frozen0).mono ?_
    rintro e w' ⟨rfl, rfl⟩
    exact ⟨rfl, h.used _, (Below.refl B w).setCell (p := ⟨b, 0, none⟩) h.1 _, fun k hk => Below.heap_setCell _ _ _ _ hk, by go_simp⟩
  · refine (check_used b w h.cell0).mono ?_
    rintro e w' ⟨rfl, rfl⟩
    exact ⟨rfl, h, Below.refl B _, fun _ _ => rfl, rfl⟩

/-- Behind an append to the buffer. -/
theorem built {b : Nat} {v : Value} {w1 wa w2 : World} (hbk : w1.heap[b]? = some (.cells #[.pointer (some ⟨b, 0, none⟩), v] 64 (0, 0))) (hne : v.ownBlock ≠ some b)
    (ha : wa.heap[b]? = w1.heap[b]?) (hl : w1.heap.size ≤ wa.heap.size) (hgrow : wa.grownBy w2 v.ownBlock) :
    w2.heap[b]? = some (.cells #[.pointer (some ⟨b, 0, none⟩), v] 64 (0, 0)) ∧ w2.cell? ⟨b, 0, none⟩ = some (.pointer (some ⟨b, 0, none⟩)) ∧ w2.cell? ⟨b, 1, none⟩ = some v ∧ w2.frozen? ⟨b, 1, none⟩ = false := by
  have hlt : b < w1.heap.size := (Array.getElem?_eq_some_iff.1 hbk).1
  have hb2 : w2.heap[b]? = some (.cells #[.pointer (some ⟨b, 0, none⟩), v] 64 (0, 0)) := by
    rw [hgrow.block b (by omega) (fun e => hne e.symm), ha]
    exact hbk
  exact ⟨hb2, by rw [Lib.cell_of_heap hb2]; rfl, by rw [Lib.cell_of_heap hb2]; rfl, Lib.frozen_of_heap hb2 1⟩

/-- Blocks that are neither the builder nor its buffer stand as they stood. -/
def Kept (b : Nat) (w w' : World) : Prop := ∀ v k, w.cell? ⟨b, 1, none⟩ = some v → k < w.heap.size → k ≠ b → v.ownBlock ≠ some k → w'.heap[k]? = w.heap[k]?

theorem own_is {w : World} {B : Nat} {v : Value} {n : Nat} {xs : List Value} (h : w.ownsRow B 5 1 v n xs) : ∃ ao n' cap, v = .slice ao n' cap := by
  rcases h.2 with ⟨hv, _⟩ | ⟨g, cap, cur, hv, _⟩
  · exact ⟨_, _, _, hv⟩
  · exact ⟨_, _, _, hv⟩

theorem kept_of {b : Nat} {v u : Value} {w w1 wa w2 : World} (cv : w.cell? ⟨b, 1, none⟩ = some v) (hk1 : ∀ k, k ≠ b → w1.heap[k]? = w.heap[k]?) (hs : w.heap.size ≤ w1.heap.size) (ha : ∀ k, k < w1.heap.size → wa.heap[k]? = w1.heap[k]?)
    (hl : w1.heap.size ≤ wa.heap.size) (hg : wa.grownBy w2 v.ownBlock) : Kept b w (w2.setCell ⟨b, 1, none⟩ u) := by
  intro v0 k hv0 hk hkb hko
  rw [cv] at hv0
  cases hv0
  rw [Below.heap_setCell _ _ _ _ hkb, hg.block k (by omega) (fun e => hko e.symm), ha k (by omega), hk1 k hkb]

set_option maxHeartbeats 1000000 in
theorem writeByte_any (B b : Nat) (bs : List Value) (c : Int) (w : World) (h : Lib.IsBuilder 64 5 B b bs w) (hlen : bs.length + 1 ≤ 140737488355328) (hBw : B ≤ w.heap.size) :
    Calls Tryd.prog 51 #[.pointer (some ⟨b, 0, none⟩), .int .u8 c] w fun e w' => e = .returned .nilIface ∧ Lib.IsBuilder 64 5 B b (bs ++ [.int .u8 c]) w' ∧ Below B w w' ∧ Kept b w w' := by
  obtain ⟨i0, hi, hz0, hz1, hz2⟩ := info_parts Tryd.info5
  go_enter Tryd.func51, Tryd.ntmps51
  go_wp2_with (go_at_call 78; refine (check_any B b bs _ h).mono ?_)
  rintro e w1 ⟨rfl, h1, hb1, hk1, hv1⟩
  obtain ⟨hB, v, hbk, hown, hne⟩ := h1
  have c0 : w1.cell? ⟨b, 0, none⟩ = some (.pointer (some ⟨b, 0, none⟩)) := by rw [Lib.cell_of_heap hbk]; rfl
  have c1 : w1.cell? ⟨b, 1, none⟩ = some v := by rw [Lib.cell_of_heap hbk]; rfl
  have cv : w.cell? ⟨b, 1, none⟩ = some v := by rw [← hv1, c1]
  have hs1 := hb1.size
  have hlt : b < w1.heap.size := (Array.getElem?_eq_some_iff.1 hbk).1
  go_wp2_with (at_builtin; refine wpList_append_own _ rfl _ _ 22 rfl B 5 i0 (.int .u8 0) 1 1 Tryd.underlying22 hi hz0 hz1 hz2 rfl (by decide) _ _ _ rfl (hown.alloc _) ⟨w1.heap.size, 0, none⟩ 1 1 [.int .u8 c] rfl rfl (cell_one_new _ _ _) (by intro u hu; simp at hu; subst hu; rfl) (by unfold maxLen; omega) (by omega) (by simp; omega) ?_)
  intro v' w2 hown' hgrow _
  obtain ⟨hb2, d0, d1, f1⟩ := built hbk hne (Lib.alloc_old w1 _ b hlt) (by simp) hgrow
  obtain ⟨ao, n', cap, rfl⟩ := own_is hown'
  have hput := Lib.BuilderAt.put (T := 64) (e := 5) hB hb2 (bs' := bs ++ [.int .u8 c]) (by simpa using hown') (by decide)
  have hbel := ((hb1.alloc (by omega) (.cells #[.int .u8 c] 5)).grown hgrow (by simp; omega) (fun k hk => (hown.lt k hk).1)).setCell (p := ⟨b, 1, none⟩) hB (.slice ao n' cap)
  have hkept : Kept b w (w2.setCell ⟨b, 1, none⟩ (.slice ao n' cap)) := kept_of cv hk1 hs1 (fun k hk => Lib.alloc_old w1 _ k hk) (by simp) hgrow
  have HH : Hid (Lib.BuilderAt 64 5 B b (.pointer (some ⟨b, 0, none⟩)) (bs ++ [.int .u8 c]) (w2.setCell ⟨b, 1, none⟩ (.slice ao n' cap)) ∧ Below B w (w2.setCell ⟨b, 1, none⟩ (.slice ao n' cap)) ∧ Kept b w (w2.setCell ⟨b, 1, none⟩ (.slice ao n' cap))) := ⟨hput, hbel, hkept⟩
  clear hown hown' hgrow hkept hput hbel
  go_wp2
  go_ret
  exact ⟨rfl, .inr HH.out.1, HH.out.2⟩

set_option maxHeartbeats 1000000 in
theorem writeString_any (B b : Nat) (bs : List Value) (s : ByteArray) (w : World) (h : Lib.IsBuilder 64 5 B b bs w) (hlen : bs.length + s.size ≤ 140737488355328) (hBw : B ≤ w.heap.size) :
    Calls Tryd.prog 52 #[.pointer (some ⟨b, 0, none⟩), .string s] w fun e w' => e = .returned (.tuple #[.int .i64 s.size, .nilIface]) ∧ Lib.IsBuilder 64 5 B b (bs ++ Lib.strCells s) w' ∧ Below B w w' ∧ Kept b w w' := by
  obtain ⟨i0, hi, hz0, hz1, hz2⟩ := info_parts Tryd.info5
  go_enter Tryd.func52, Tryd.ntmps52
  go_wp2_with (go_at_call 78; refine (check_any B b bs _ h).mono ?_)
  rintro e w1 ⟨rfl, h1, hb1, hk1, hv1⟩
  obtain ⟨hB, v, hbk, hown, hne⟩ := h1
  have c0 : w1.cell? ⟨b, 0, none⟩ = some (.pointer (some ⟨b, 0, none⟩)) := by rw [Lib.cell_of_heap hbk]; rfl
  have c1 : w1.cell? ⟨b, 1, none⟩ = some v := by rw [Lib.cell_of_heap hbk]; rfl
  have cv : w.cell? ⟨b, 1, none⟩ = some v := by rw [← hv1, c1]
  have hs1 := hb1.size
  go_wp2_with (at_builtin; refine Lib.wpList_append_own_string _ rfl _ _ 22 9 rfl B 5 i0 Tryd.underlying22 Tryd.underlying9 hi hz0 hz1 hz2 _ _ _ rfl hown s rfl (by unfold maxLen; omega) (by omega) (by omega) ?_)
  intro v' w2 hown' hgrow _
  obtain ⟨hb2, d0, d1, f1⟩ := built hbk hne rfl (Nat.le_refl _) hgrow
  obtain ⟨ao, n', cap, rfl⟩ := own_is hown'
  have hput := Lib.BuilderAt.put (T := 64) (e := 5) hB hb2 (bs' := bs ++ Lib.strCells s) (by simpa [Lib.strCells_length] using hown') (by decide)
  have hbel := (hb1.grown hgrow (by omega) (fun k hk => (hown.lt k hk).1)).setCell (p := ⟨b, 1, none⟩) hB (.slice ao n' cap)
  have hkept : Kept b w (w2.setCell ⟨b, 1, none⟩ (.slice ao n' cap)) := kept_of cv hk1 hs1 (fun k hk => rfl) (Nat.le_refl _) hgrow
  have HH : Hid (Lib.BuilderAt 64 5 B b (.pointer (some ⟨b, 0, none⟩)) (bs ++ Lib.strCells s) (w2.setCell ⟨b, 1, none⟩ (.slice ao n' cap)) ∧ Below B w (w2.setCell ⟨b, 1, none⟩ (.slice ao n' cap)) ∧ Kept b w (w2.setCell ⟨b, 1, none⟩ (.slice ao n' cap))) := ⟨hput, hbel, hkept⟩
  clear hown hown' hgrow hkept hput hbel
  go_wp2
  go_ret2
  exact ⟨rfl, .inr HH.out.1, HH.out.2⟩

set_option maxHeartbeats 1000000 in
theorem write_any (B b : Nat) (bs : List Value) (ad : Addr) (m c : Nat) (news : List Value) (w : World) (h : Lib.IsBuilder 64 5 B b bs w) (hm : news.length = m) (h1c : ∀ u ∈ news, u.oneCell' = true)
    (hn : ∀ j u, news[j]? = some u → w.cell? (ad.add j) = some u) (hnb : ad.block ≠ b) (hlen : bs.length + m ≤ 140737488355328) (hBw : B ≤ w.heap.size) :
    Calls Tryd.prog 53 #[.pointer (some ⟨b, 0, none⟩), .slice (some ad) m c] w fun e w' => e = .returned (.tuple #[.int .i64 m, .nilIface]) ∧ Lib.IsBuilder 64 5 B b (bs ++ news) w' ∧ Below B w w' ∧ Kept b w w' := by
  obtain ⟨i0, hi, hz0, hz1, hz2⟩ := info_parts Tryd.info5
  go_enter Tryd.func53, Tryd.ntmps53
  go_wp2_with (go_at_call 78; refine (check_any B b bs _ h).mono ?_)
  rintro e w1 ⟨rfl, h1, hb1, hk1, hv1⟩
  obtain ⟨hB, v, hbk, hown, hne⟩ := h1
  have c0 : w1.cell? ⟨b, 0, none⟩ = some (.pointer (some ⟨b, 0, none⟩)) := by rw [Lib.cell_of_heap hbk]; rfl
  have c1 : w1.cell? ⟨b, 1, none⟩ = some v := by rw [Lib.cell_of_heap hbk]; rfl
  have cv : w.cell? ⟨b, 1, none⟩ = some v := by rw [← hv1, c1]
  have hs1 := hb1.size
  have hn1 : ∀ j u, news[j]? = some u → w1.cell? (ad.add j) = some u := fun j u hj => by
    have := hn j u hj
    rwa [← World.cell?_of_block (w := w) (w' := w1) (a := ad.add j) (hk1 _ (by unfold Addr.add; split <;> exact hnb))] at this
  go_wp2_with (at_builtin; refine wpList_append_own _ rfl _ _ 22 rfl B 5 i0 (.int .u8 0) 1 1 Tryd.underlying22 hi hz0 hz1 hz2 rfl (by decide) _ _ _ rfl hown ad m c news rfl (by omega) hn1 h1c (by unfold maxLen; omega) (by omega) (by omega) ?_)
  intro v' w2 hown' hgrow _
  obtain ⟨hb2, d0, d1, f1⟩ := built hbk hne rfl (Nat.le_refl _) hgrow
  obtain ⟨ao, n', cap, rfl⟩ := own_is hown'
  have hput := Lib.BuilderAt.put (T := 64) (e := 5) hB hb2 (bs' := bs ++ news) (by simpa [hm] using hown') (by decide)
  have hbel := (hb1.grown hgrow (by omega) (fun k hk => (hown.lt k hk).1)).setCell (p := ⟨b, 1, none⟩) hB (.slice ao n' cap)
  have hkept : Kept b w (w2.setCell ⟨b, 1, none⟩ (.slice ao n' cap)) := kept_of cv hk1 hs1 (fun k hk => rfl) (Nat.le_refl _) hgrow
  have HH : Hid (Lib.BuilderAt 64 5 B b (.pointer (some ⟨b, 0, none⟩)) (bs ++ news) (w2.setCell ⟨b, 1, none⟩ (.slice ao n' cap)) ∧ Below B w (w2.setCell ⟨b, 1, none⟩ (.slice ao n' cap)) ∧ Kept b w (w2.setCell ⟨b, 1, none⟩ (.slice ao n' cap))) := ⟨hput, hbel, hkept⟩
  clear hown hown' hgrow hkept hput hbel hn hn1 h1c
  go_wp2
  go_ret2
  exact ⟨rfl, .inr HH.out.1, HH.out.2⟩

theorem new_any (s : ByteArray) (w : World) : Calls Tryd.prog 50 #[.string s] w fun e w' => e = .returned (.iface 93 (.pointer (some ⟨w.heap.size, 0, none⟩))) ∧ Below w.heap.size w w' := by
  go_enter Tryd.func50, Tryd.ntmps50
  go_wp2
  go_ret
  exact ⟨rfl, (Below.refl _ _).alloc (Nat.le_refl _) _⟩

end Go.Proofs.YtgemkjickljedaaDoor
