/- What types.pdfDocEncodingRune and types.decodePDFDocEncoding answer of bytes that are signs. Conditions: the table of signs is laid; at most 4096 bytes. -/
import Derived.Test.YtgemkjickljedaaGreatDoorWP
import Derived.Test.YtgemkjickljedaaGreatDoorUO
namespace Go.Proofs.YtgemkjickljedaaGreatDoor
open Go.ChangeShapes Go.WideShapes Go.ChangeAt Go.RowKit

/-- The table of PDFDocEncoding's signs lies in variable 3, and is looked into as 'tabE' says. -/
def DocTab (W : World) : Prop := ∃ bm, W.cell? ⟨3, 0, none⟩ = some (.map (some bm)) ∧ 3 < W.heap.size ∧
  ∀ w', Below W.heap.size W w' → ∀ c : UInt8, (Instr.lookup 106 (.map (some bm)) (.int .u8 (c.toNat : Int)) true).run Tryz.prog w' = .ok (.tuple #[.int .i32 ((tabE c.toNat).getD 0), .bool (tabE c.toNat).isSome]) w'
theorem DocTab.below {W w' : World} (h : DocTab W) (b : Below W.heap.size W w') : DocTab w' := by
  obtain ⟨bm, h1, h2, h3⟩ := h
  exact ⟨bm, (below_cell b h2).trans h1, Nat.lt_of_lt_of_le h2 b.size, fun w2 b2 => h3 w2 (b.trans (b2.mono b.size))⟩

set_option maxRecDepth 100000 in
theorem rune_any (c : UInt8) (w : World) (hn : noSign c = false) (hD : DocTab w) : Calls Tryz.prog 58 #[.int .u8 (c.toNat : Int)] w fun e w' => e = .returned (.int .i32 (sign c.toNat)) ∧ w' = w := by
  obtain ⟨bm, h3, hlt, hl0⟩ := hD
  have hl := hl0 w (Below.refl _ _) c
  have hs := tabE_sign ⟨c.toNat, c.toNat_lt⟩ (by simpa using hn)
  simp only at hs
  have lc := c.toNat_lt
  clear hl0 hn
  cases ht : tabE c.toNat with
  | some z =>
    rw [ht] at hl hs
    simp only [Option.getD_some, Option.isSome_some] at hl hs
    rw [← hs.1]
    clear hs ht
    go_enter Tryz.func58, Tryz.ntmps58
    go_wp2_with (fail)
    go_ret
    exact ⟨rfl, rfl⟩
  | none =>
    rw [ht] at hl hs
    obtain ⟨hv, hc⟩ := hs.2 rfl
    simp only [Option.getD_none, Option.isSome_none] at hl
    rw [hv]
    clear hs ht hv
    rcases hc with h | h | h | ⟨h1, h2⟩ | ⟨h1, h2⟩
    · have d1 : ((c.toNat : Int) == 9) = true := by simp; omega
      clear h
      go_enter Tryz.func58, Tryz.ntmps58
      go_wp2_with (fail)
      go_ret
      exact ⟨rfl, rfl⟩
    · have d1 : ((c.toNat : Int) == 9) = false := by simp; omega
      have d2 : ((c.toNat : Int) == 10) = true := by simp; omega
      clear h
      go_enter Tryz.func58, Tryz.ntmps58
      go_wp2_with (fail)
      go_ret
      exact ⟨rfl, rfl⟩
    · have d1 : ((c.toNat : Int) == 9) = false := by simp; omega
      have d2 : ((c.toNat : Int) == 10) = false := by simp; omega
      have d3 : ((c.toNat : Int) == 13) = true := by simp; omega
      clear h
      go_enter Tryz.func58, Tryz.ntmps58
      go_wp2_with (fail)
      go_ret
      exact ⟨rfl, rfl⟩
    · have d1 : ((c.toNat : Int) == 9) = false := by simp; omega
      have d2 : ((c.toNat : Int) == 10) = false := by simp; omega
      have d3 : ((c.toNat : Int) == 13) = false := by simp; omega
      have d4 : decide ((32 : Int) ≤ (c.toNat : Int)) = true := by simp; omega
      have d5 : decide ((c.toNat : Int) ≤ 126) = true := by simp; omega
      clear h1 h2
      go_enter Tryz.func58, Tryz.ntmps58
      go_wp2_with (fail)
      go_ret
      exact ⟨rfl, rfl⟩
    · have d1 : ((c.toNat : Int) == 9) = false := by simp; omega
      have d2 : ((c.toNat : Int) == 10) = false := by simp; omega
      have d3 : ((c.toNat : Int) == 13) = false := by simp; omega
      have d4 : decide ((32 : Int) ≤ (c.toNat : Int)) = true := by simp; omega
      have d5 : decide ((c.toNat : Int) ≤ 126) = false := by simp; omega
      have d6 : decide ((161 : Int) ≤ (c.toNat : Int)) = true := by simp; omega
      have d7 : decide ((c.toNat : Int) ≤ 255) = true := by simp; omega
      have d8 : ((c.toNat : Int) != 173) = true := by simp; omega
      clear h1 h2
      go_enter Tryz.func58, Tryz.ntmps58
      go_wp2_with (fail)
      go_ret
      exact ⟨rfl, rfl⟩

def sgs (l : List UInt8) : List Value := l.map fun c => .int .i32 (sign c.toNat)
theorem sgs_len (l : List UInt8) : (sgs l).length = l.length := by simp [sgs]

set_option maxHeartbeats 1000000 in
set_option maxRecDepth 100000 in
theorem pdf_any (l : List UInt8) (g o n cap : Nat) (w : World) (hn : n = l.length) (hs : n ≤ 4096) (hsg : l.any noSign = false) (hD : DocTab w) (hc : ∀ i c, l[i]? = some c → w.cell? ⟨g, o + i, none⟩ = some (.int .u8 c.toNat)) (hg : g < w.heap.size) :
    Calls Tryz.prog 41 #[.slice (some ⟨g, o, none⟩) n cap] w fun e w' => e = .returned (.string ⟨(docB l).toArray⟩) ∧ Below w.heap.size w w' := by
  obtain ⟨i1, hi1, hy0, hy1, hy2⟩ := info_parts Tryz.info21
  have HS : Hid (l.any noSign = false) := hsg
  have HD : Hid (DocTab w) := hD
  have HC : Hid (∀ i c, l[i]? = some c → w.cell? ⟨g, o + i, none⟩ = some (.int .u8 c.toNat)) := hc
  have HN : Hid (n = l.length) := hn
  clear hsg hD hc hn
  obtain ⟨S, hS⟩ : ∃ S : ByteArray, ⟨(docB l).toArray⟩ = S := ⟨_, rfl⟩
  have HSS : Hid ((⟨(docB l).toArray⟩ : ByteArray) = S) := hS
  rw [hS]
  clear hS
  go_enter Tryz.func41, Tryz.ntmps41
  go_wp2_with
    (at_make; refine wpList_make_full _ rfl _ _ 66 rfl w.heap.size 21 i1 (.int .i32 0) 1 Tryz.underlying66 hi1 hy0 hy1 .i64 .i64 _ _ n rfl rfl (by omega) (by omega) (by rw [hy2]; omega) (by unfold maxLen; omega) (Nat.le_refl _) ?_; intro w2 hown2 hgrow2
     have hb2 := (Below.refl w.heap.size w).grown hgrow2 (Nat.le_refl _) (fun k hk => by cases hk)
     rw [show (Value.int .i32 0).cells = #[Value.int .i32 0] from rfl, toList_madeCells_one] at hown2
     clear hgrow2)
  go_loopw [11] (fun iv wr => ∃ (i : Nat), iv = .int .i64 i ∧ i ≤ n ∧ Hid (wr.ownsRow w.heap.size 21 1 (.slice (some ⟨w.heap.size, 0, none⟩) n n) n (sgs (l.take i) ++ List.replicate (n - i) (.int .i32 0)) ∧ Below w.heap.size w wr)) (fun iv _ => n - (intOf iv).toNat)
  case atStart => exact ⟨0, rfl, Nat.zero_le _, by simpa [sgs] using hown2, hb2⟩
  case round =>
    obtain ⟨i, rfl, hi, HR⟩ := hrel
    by_cases hlt : i < n
    · have hl : i < l.length := by have := HN.out; omega
      obtain ⟨c, hcc⟩ : ∃ c, l[i]? = some c := ⟨_, List.getElem?_eq_getElem hl⟩
      have hcell := (below_cell HR.out.2 hg).trans (HC.out i c hcc)
      have hns : noSign c = false := by
        have := List.any_eq_false.1 HS.out c (List.mem_of_getElem? hcc)
        simpa using this
      have hrow : wr.ownsRow w.heap.size 21 1 (.slice (some ⟨w.heap.size, 0, none⟩) n n) n (sgs (l.take i) ++ List.replicate ((n - (i + 1)) + 1) (.int .i32 0)) := by
        have := HR.out.1; rwa [show n - i = (n - (i + 1)) + 1 by omega] at this
      have hvl : (sgs (l.take i)).length = i := by rw [sgs_len, List.length_take]; omega
      have hat : wr.cell? ⟨w.heap.size, i, none⟩ = some (.int .i32 0) := own_cell hrow i (by rw [List.getElem?_append_right (by omega), hvl]; simp)
      have hfz : wr.frozen? ⟨w.heap.size, i, none⟩ = false := hrow.frozenAt i
      obtain ⟨z, hz⟩ : ∃ z, sign c.toNat = z := ⟨_, rfl⟩
      have hst := (hrow.stored i (.int .i32 z)).1
      have hfill := fill_one (sgs (l.take i)) (n - (i + 1)) (.int .i32 0) (.int .i32 z)
      rw [hvl] at hfill
      rw [hfill] at hst
      have hv : sgs (l.take (i + 1)) = sgs (l.take i) ++ [.int .i32 z] := by
        obtain ⟨q1, q2⟩ := List.getElem?_eq_some_iff.1 hcc
        rw [List.take_succ_eq_append_getElem q1, q2, ← hz]
        simp [sgs]
      have HK : Hid ((wr.setCell ⟨w.heap.size, i, none⟩ (.int .i32 z)).ownsRow w.heap.size 21 1 (.slice (some ⟨w.heap.size, 0, none⟩) n n) n (sgs (l.take (i + 1)) ++ List.replicate (n - (i + 1)) (.int .i32 0)) ∧ Below w.heap.size w (wr.setCell ⟨w.heap.size, i, none⟩ (.int .i32 z))) :=
        ⟨by rw [hv]; exact hst, HR.out.2.setCell (p := ⟨w.heap.size, i, none⟩) (Nat.le_refl _) _⟩
      have hru := rune_any c wr hns (HD.out.below HR.out.2)
      rw [hz] at hru
      have lc := c.toNat_lt
      clear hns hcc hrow hvl hz hst hfill hv hl
      go_wp2_with (go_at_call 58; refine Calls.mono (by with_reducible exact hru) ?_; rintro e w3 ⟨rfl, rfl⟩)
      go_roundw
      case rel => exact ⟨i + 1, by simp, by omega, HK.out⟩
      case measure => simp [intOf]; omega
    · have hkn : i = n := by omega
      subst hkn
      have hrow : wr.ownsRow w.heap.size 21 1 (.slice (some ⟨w.heap.size, 0, none⟩) i i) i (sgs l) := by
        have := HR.out.1
        rwa [Nat.sub_self, HN.out, List.take_length, List.replicate_zero, List.append_nil, ← HN.out] at this
      have hcv : (convert 66 9 (.slice (some ⟨w.heap.size, 0, none⟩) i i)).run Tryz.prog wr = .ok (.string S) wr := by
        have hlen : (l.map fun c => sign c.toNat).length = i := by rw [List.length_map]; exact HN.out.symm
        have h := run_convert_runes (P := Tryz.prog) wr 66 9 21 ⟨w.heap.size, 0, none⟩ i i (l.map fun c => sign c.toNat) (by omega) Tryz.underlying66 Tryz.underlying21 Tryz.underlying9 (fun j hj => by
          rw [add_at]
          refine own_cell hrow j ?_
          rw [List.getD_eq_getElem?_getD, List.getElem?_eq_getElem hj]
          have hj2 : j < l.length := by simpa using hj
          simp [sgs, hj2])
        rw [h, List.take_of_length_le (by omega), runes_doc, HSS.out]
      have HB := Lib.hid HR.out.2
      clear hrow HR
      go_wp2_with (fail)
      go_ret
      exact ⟨rfl, HB.out⟩

end Go.Proofs.YtgemkjickljedaaGreatDoor
