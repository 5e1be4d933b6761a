/- The law FnLines answers true and leaves what was there as it was. Conditions: none. -/
import Derived.Test.YtgemkjickljedaaLinesS
import Derived.Laws.BytesArg
import Derived.Laws.BytesString
import Derived.Shelf.Bytes.SlSmallAll
namespace Go.Proofs.Ytgemkjickljedaa
open Go.ChangeShapes Go.WideShapes Go.ChangeAt Go.RowKit

/-- string(b), the bytes' cells at whatever address. -/
theorem conv_at (w : World) (src e : TypeId) (hs : Try.prog.underlying src = some (.slice e)) (he : Try.prog.underlying e = some (.int .u8)) (a : Addr) (n c : Nat) (xs : List Int) (hx : xs.length = n)
    (hc : ∀ i, i < n → w.cell? (a.add i) = some (.int .u8 (xs.getD i 0))) (dst : TypeId) (hd : Try.prog.underlying dst = some .string) :
    (convert src dst (.slice (some a) n c)).run Try.prog w = .ok (.string (strOfNums xs)) w := by
  have hl : (loadCells a n).run Try.prog w = .ok (xs.map (Value.int .u8)).toArray w := by
    have := run_loadCells_list (P := Try.prog) w a (xs.map (Value.int .u8)) (fun j v hj => by
      have hjl : j < xs.length := by
        rcases Nat.lt_or_ge j xs.length with h | h
        · exact h
        · simp [List.getElem?_eq_none (show (xs.map (Value.int .u8)).length ≤ j by simpa using h)] at hj
      rw [hc j (by omega)]
      simp [List.getElem?_eq_getElem hjl] at hj
      subst hj
      simp [List.getD, List.getElem?_eq_getElem hjl])
    simpa [hx] using this
  rw [run_convert_bytes_string w src dst e _ n c hs he hd, run_bytesToString w _ n c xs hl, foldl_push_bytes]
  simp [strOfNums, ByteArray.empty, ByteArray.emptyWithCapacity]
  rfl

/-- What the law is told of its bytes. -/
def Row8 (w : World) (a : Addr) (n : Nat) (xs : List Int) : Prop := xs.length = n ∧ ∀ i, i < n → w.cell? (a.add i) = some (.int .u8 (xs.getD i 0))

theorem own_slice {w : World} {B : Nat} {v : Value} {ts : List ByteArray} (h : w.ownsRow B 9 1 v ts.length (strs ts)) :
    ∃ ao cap, v = .slice ao ts.length cap ∧ (0 < ts.length → ∃ g, ao = some ⟨g, 0, none⟩ ∧ ∀ i (hi : i < ts.length), w.cell? ⟨g, i, none⟩ = some (.string ts[i])) := by
  rcases h.2 with ⟨rfl, h0⟩ | ⟨g, cap, cur, rfl, hg, hheap, hncap, hcm, hcs, htake⟩
  · exact ⟨none, 0, by rw [h0], fun h => by omega⟩
  · refine ⟨_, _, rfl, fun _ => ⟨g, rfl, fun i hi => ?_⟩⟩
    rw [cell_of_row _ g i cur 9 (0, 0) hheap]
    have h2 : (cur.toList.take (ts.length * 1))[i]? = (strs ts)[i]? := by rw [htake]
    rw [List.getElem?_take, if_pos (by omega), strs, List.getElem?_map, List.getElem?_eq_getElem hi] at h2
    simpa using h2

theorem str_ext {a b : ByteArray} (h : a.data.toList = b.data.toList) : a = b := by
  cases a; cases b; simp_all

theorem lists_drop {ts : List ByteArray} {k : Nat} (h : k < ts.length) : lists (ts.drop k) = ts[k].data.toList :: lists (ts.drop (k + 1)) := by
  rw [List.drop_eq_getElem_cons h]; rfl

/-- What a cut answers is the line that was foretold, and reads as it. -/
theorem told {xs : List Int} {n p i m m' g c : Nat} {t : ByteArray} {w : World} (h : Line (Lib.bytesOf xs) p t.data.toList m) (hx : xs.length = n)
    (h2 : Line (Lib.bytesOf (xs.drop p)) 0 ((Lib.bytesOf (xs.drop p)).take i) m') (hi : i ≤ n - p) (hc : ∀ j, j < i → w.cell? ⟨g, j, none⟩ = some (.int .u8 ((xs.drop p).getD j 0))) :
    p + m' = m ∧ m ≤ n ∧ (convert 22 9 (.slice (some ⟨g, 0, none⟩) i c)).run Try.prog w = .ok (.string t) w ∧ i ≤ m' := by
  have e : Lib.bytesOf (xs.drop p) = (Lib.bytesOf xs).drop p := by simp [Lib.bytesOf]
  have hlt := h.lt
  have h2' := h2.lt
  have hlen : (Lib.bytesOf xs).length = n := by simp [Lib.bytesOf, hx]
  have e2 := h2
  rw [e] at e2
  obtain ⟨ht, hm⟩ := Line.one h e2.drop
  have hl : ((xs.drop p).take i).length = i := by simp; omega
  have hconv := conv_at w 22 5 Try.underlying22 Try.underlying5 ⟨g, 0, none⟩ i c ((xs.drop p).take i) hl (fun j hj => by
    rw [Addr.add_lit, Nat.zero_add, hc j hj]
    simp [List.getD, hj]) 9 Try.underlying9
  have hte : strOfNums ((xs.drop p).take i) = t := by
    apply str_ext
    rw [strOfNums_data, ht]
    simp [Lib.bytesOf, List.map_take, List.map_drop]
  rw [hte] at hconv
  refine ⟨hm.symm, by omega, hconv, ?_⟩
  have := h2'.2.2
  rw [List.length_take] at this
  have : (Lib.bytesOf (xs.drop p)).length = n - p := by simp [Lib.bytesOf, hx]
  omega

set_option maxHeartbeats 2000000 in
theorem law_some (a : Addr) (n c : Nat) (xs : List Int) (w : World) (hr : Row8 w a n xs) (hnc : n ≤ c) :
    Calls Try.prog 3 #[.slice (some a) n c] w fun e w' => e = .returned (.bool true) ∧ Below w.heap.size w w' := by
  obtain ⟨hx, hc⟩ := hr
  by_cases h1 : (n : Int) > 2147483647
  · go_enter Try.func3, Try.ntmps3
    go_wp2
    go_ret
    exact ⟨rfl, Below.refl _ _⟩
  by_cases h2 : (n : Int) > 4096
  · go_enter Try.func3, Try.ntmps3
    go_wp2
    go_ret
    exact ⟨rfl, Below.refl _ _⟩
  have hs : (strOfNums xs).size = n := by rw [strOfNums_size, hx]
  have hconv := conv_at w 22 5 Try.underlying22 Try.underlying5 a n c xs hx hc 9 Try.underlying9
  have hspec := spec_any (strOfNums xs) w (by omega)
  have hL : (strOfNums xs).data.toList = Lib.bytesOf xs := by rw [strOfNums_data]; rfl
  go_enter Try.func3, Try.ntmps3
  go_wp2_with (first
    | (go_at_call 4; refine hspec.mono ?_; rintro e w1 ⟨v, ts, rfl, hown, hch, hb⟩; obtain ⟨wo, rfl⟩ : ∃ wo : World, wo = w1 := ⟨_, rfl⟩; obtain ⟨ao, cap, rfl, hcells⟩ := own_slice hown))
  go_loopw [3, 19] (fun pv kv wr => ∃ p k : Nat, pv = .int .i64 p ∧ kv = .int .i64 k ∧ k ≤ ts.length ∧ p ≤ n ∧ Hid (Chain (Lib.bytesOf xs) p (lists (ts.drop k)) n) ∧ Hid (Below w.heap.size w wr) ∧
      (0 < ts.length → ∃ g, ao = some ⟨g, 0, none⟩ ∧ ∀ i (hi : i < ts.length), wr.cell? ⟨g, i, none⟩ = some (.string ts[i])))
    (fun _ kv _ => ts.length - (intOf kv).toNat)
  case atStart => exact ⟨0, 0, rfl, rfl, Nat.zero_le _, Nat.zero_le _, by rw [hL, hs] at hch; exact hch, hb, hcells⟩
  case round =>
    obtain ⟨p, k, rfl, rfl, hk, hp, HCh, HB, hcl⟩ := hrel
    have htl : ts.length ≤ 4096 := by have := hch.le; simp [lists] at this; omega
    clear hcells hch hown hconv hspec
    by_cases hlt : k < ts.length
    · obtain ⟨g, rfl, hg⟩ := hcl (by omega)
      have hgk := hg k hlt
      have HG : Hid (∀ i (hi : i < ts.length), wr.cell? ⟨g, i, none⟩ = some (.string ts[i])) := hg
      obtain ⟨m, hline, hrest⟩ : ∃ m, Line (Lib.bytesOf xs) p ts[k].data.toList m ∧ Chain (Lib.bytesOf xs) m (lists (ts.drop (k + 1))) n := by
        have := HCh.out; rw [lists_drop hlt] at this; exact this
      have hll := hline.lt
      have hlen : (Lib.bytesOf xs).length = n := by simp [Lib.bytesOf, hx]
      rw [hlen] at hll
      have himp := impl_any (a.add p) (n - p) (c - p) (xs.drop p) wr (by simp [hx]) (by intro h; have := congrArg List.length h; simp at this; omega) (by omega) (by
        intro i hi
        have h1 := hc (p + i) (by omega)
        rw [← HB.out.cell (block_lt_of_cell h1)] at h1
        rw [Addr.add_add, h1]
        simp [List.getD, List.getElem?_drop])
      have HL : Hid (Line (Lib.bytesOf xs) p ts[k].data.toList m ∧ Chain (Lib.bytesOf xs) m (lists (ts.drop (k + 1))) n) := ⟨hline, hrest⟩
      have HX : Hid (∀ i, i < n → w.cell? (a.add i) = some (.int .u8 (xs.getD i 0))) := hc
      clear hline hrest HCh hcl hg hc
      go_wp2_with (first
        | (go_at_call 5; refine himp.mono ?_; rintro e w2 ⟨g', i', m', k', rfl, hl2, hi2, hm2, hcell, hb2⟩; obtain ⟨hm, hmn, hc2, him⟩ := told (c := k') HL.out.1 hx hl2 hi2 hcell))
      go_roundw
      case rel =>
        refine ⟨m, k + 1, by simp; omega, by simp, by omega, by omega, HL.out.2, HB.out.trans (hb2.mono HB.out.size), fun _ => ⟨g, rfl, fun i hi => ?_⟩⟩
        have h1 := HG.out i hi
        rw [hb2.cell (block_lt_of_cell h1), h1]
      case measure => simp [intOf]; omega
    · have hke : k = ts.length := by omega
      have hpn : p = n := by have := HCh.out; rw [hke] at this; simpa [lists, Chain] using this
      go_wp2
      go_ret
      exact ⟨by simp [hpn], HB.out⟩

set_option maxHeartbeats 1000000 in
theorem law_none (w : World) : Calls Try.prog 3 #[.slice none 0 0] w fun e w' => e = .returned (.bool true) ∧ Below w.heap.size w w' := by
  have hconv := run_convert_bytes_nil (P := Try.prog) w 22 5 Try.underlying22 Try.underlying5 0 0 9 Try.underlying9
  have hspec := spec_any ByteArray.empty w (by decide)
  go_enter Try.func3, Try.ntmps3
  go_wp2_with (first
    | (go_at_call 4; refine hspec.mono ?_; rintro e w1 ⟨v, ts, rfl, hown, hch, hb⟩; obtain ⟨wo, rfl⟩ : ∃ wo : World, wo = w1 := ⟨_, rfl⟩; obtain ⟨ao, cap, rfl, hcells⟩ := own_slice hown))
  have h0 : ts.length = 0 := by have h1 := hch.le; have h2 : (lists ts).length = ts.length := by simp [lists]
                                have h3 : ByteArray.empty.size = 0 := rfl
                                omega
  refine wp_loop_rounds 1 ?_
  rw [rounds_succ]
  go_wp2
  go_ret
  exact ⟨rfl, hb⟩

theorem law_lines (a0 : Option Addr) (len0 cap0 : Nat) (z0 : List Int) (w : World)
    (w0 : (a0 = none ∧ len0 = 0 ∧ cap0 = 0 ∧ z0 = []) ∨ ∃ x, a0 = some x ∧ len0 ≤ cap0 ∧ cap0 ≤ maxLen ∧ z0.length = cap0 ∧ (∀ i, i < z0.length → w.cell? (x.add i) = some (.int .u8 (z0.getD i 0))) ∧ ∀ n ∈ z0, (Lit.int .u8 n).wf = true) :
    Calls Try.prog 3 #[.slice a0 len0 cap0] w fun e w' => e = .returned (.bool true) ∧ Below w.heap.size w w' := by
  rcases w0 with ⟨rfl, rfl, rfl, rfl⟩ | ⟨x, rfl, hlc, _, hz, hcell, _⟩
  · exact law_none w
  · refine law_some x len0 cap0 (z0.take len0) w ⟨by simp; omega, fun i hi => ?_⟩ hlc
    rw [hcell i (by omega)]
    simp [List.getD, hi]

end Go.Proofs.Ytgemkjickljedaa
