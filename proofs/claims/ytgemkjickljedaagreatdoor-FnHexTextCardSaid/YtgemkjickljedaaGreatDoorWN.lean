/- The listed table of PDFDocEncoding's signs, looked into. Conditions: the variable reads as the program's text lays it. -/
import Derived.Test.YtgemkjickljedaaGreatDoorWI
import Derived.Maps.Keyed
import Derived.WideKeyElems2
import Derived.WideKeyArgs2
import Derived.LaidMore
import Derived.LaidLaws
import Derived.Lib.LaidU8
namespace Go.Proofs.YtgemkjickljedaaGreatDoor
open Go.ChangeShapes Go.WideShapes Go.ChangeAt Go.RowKit Go.Lib Go.WideElems Go.Maps

theorem gM : Tryz.prog.globalNamed "given.example/pub-foolscap/pub/pdfcpu/pkg/pdfcpu/types.pdfDocEncoding" = some 3 := by kernel_rfl
theorem tM : (Tryz.prog.globals[3]?).map (·.type) = some 106 := by kernel_rfl

/-- What the table tells, entry by entry. -/
def tabD (n : Nat) : DataW Unit := match tabE n with | some z => .lit (.int .i32 z) | none => .nil
theorem tab_list : (List.range 256).map (fun n : Nat => (Rows.laid_given_example_pub_foolscap_pub_pdfcpu_pkg_pdfcpu_types_pdfDocEncoding (H := Unit)).atKey (.int .u8 (n : Int)) .nil) = (List.range 256).map tabD := by kernel_rfl
theorem tab_at (n : Nat) (h : n < 256) : (Rows.laid_given_example_pub_foolscap_pub_pdfcpu_pkg_pdfcpu_types_pdfDocEncoding (H := Unit)).atKey (.int .u8 (n : Int)) .nil = tabD n := by
  have := congrArg (fun l => l[n]?) tab_list
  simpa [h] using this

theorem hwf (c : UInt8) : (Lit.int .u8 (c.toNat : Int)).wf = true := by
  have h : ∀ n : Fin 256, (Lit.int .u8 (n.val : Int)).wf = true := by decide +kernel
  exact h ⟨c.toNat, c.toNat_lt⟩

theorem docTab_of {W : World} (h : VarReads Tryz.prog W "given.example/pub-foolscap/pub/pdfcpu/pkg/pdfcpu/types.pdfDocEncoding" Rows.laid_given_example_pub_foolscap_pub_pdfcpu_pkg_pdfcpu_types_pdfDocEncoding) : DocTab W := by
  obtain ⟨g0, t0, cs0, f0, p0, hg0, ht0, hv0, hd0⟩ := h
  obtain rfl := Option.some.inj (gM.symm.trans hg0)
  obtain rfl := Option.some.inj (tM.symm.trans ht0)
  rcases open_map Tryz.underlying106 hd0 with ⟨_, hx⟩ | ⟨bm, es, clock, m, rfl, hcs, hb, _, F, hx⟩
  · simp [Rows.laid_given_example_pub_foolscap_pub_pdfcpu_pkg_pdfcpu_types_pdfDocEncoding] at hx
  simp only [Prod.mk.injEq] at hx
  have hcell : W.cell? ⟨3, 0, none⟩ = some (.map (some bm)) := by
    have := World.var?_cell hg0 hv0 0
    rw [Array.eq_one_of_toList hcs] at this
    simpa using this
  have hlt : bm < W.heap.size := by
    rcases Nat.lt_or_ge bm W.heap.size with q | q
    · exact q
    · rw [Array.getElem?_eq_none q] at hb; cases hb
  refine ⟨bm, hcell, block_lt_of_cell hcell, fun w' hbl c => ?_⟩
  have zero : (zeroValue 21).run Tryz.prog w' = .ok (.int .i32 0) w' := by kernel_rfl
  have lc := c.toNat_lt
  have hkey : keyOf Tryz.prog 5 (.int .u8 (c.toNat : Int)) = some (.int .u8 (c.toNat : Int)) := keyOf_int_mk Tryz.underlying5 (hwf c)
  have hb' := (hbl.block bm hlt).trans hb
  have htab := tab_at c.toNat lc
  rcases Maps.fit_look (w := w') true (int_keyed Tryz.underlying5) Tryz.underlying106 zero hb' F hkey with ⟨hrun, _, hat⟩ | ⟨e0, y, _, _, hrun, hR, hat, _⟩
  · have h1 := hat .nil
    rw [← hx.1, htab] at h1
    have h2 : tabE c.toNat = none := by
      unfold tabD at h1
      cases hh : tabE c.toNat with
      | none => rfl
      | some z => rw [hh] at h1; cases h1
    rw [h2]
    exact hrun
  · obtain ⟨r, hr, rfl, _⟩ := elemAt_int Tryz.underlying21 hR
    have h1 := hat .nil
    rw [← hx.1, htab] at h1
    have h2 : tabE c.toNat = some r := by
      unfold tabD at h1
      cases hh : tabE c.toNat with
      | none => rw [hh] at h1; cases h1
      | some z => rw [hh] at h1; cases h1; rfl
    rw [h2]
    rw [hr] at hrun
    exact hrun

end Go.Proofs.YtgemkjickljedaaGreatDoor
