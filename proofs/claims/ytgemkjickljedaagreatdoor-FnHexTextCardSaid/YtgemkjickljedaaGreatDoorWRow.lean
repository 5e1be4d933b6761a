/- For every string the law FnHexText returns true, and what was in memory stays as it was. Conditions: the listed variables read as the program's text lays them. -/
import Derived.Test.YtgemkjickljedaaGreatDoorWM
import Derived.Test.YtgemkjickljedaaGreatDoorWN
import Derived.Test.YtgemkjickljedaaGreatDoorTie
import Derived.Test.YtgemkjickljedaaGreatDoorCards
import Derived.WalkKit
import Derived.ProofKit
import Derived.OpenShut
import Derived.ShutString
import Derived.ChangeOld
import Derived.Below
import Derived.LaidMore
import Derived.LaidLaws
import Derived.Stop.Joined
import Derived.SevenTiedAt
import Derived.OpenVars
import Derived.ChangeVars
import Derived.LaidSub
import Derived.Lay
import Derived.Lib.LaidIn
import Derived.Lib.LaidTab
import Derived.Lib.LaidU8T
namespace Go.Proofs.YtgemkjickljedaaGreatDoor.fnHexText
open Go.ChangeShapes Go.WideShapes Go.ChangeAt Go.RowKit
open Go.ChangeMaps (open_string shut_string)
open Go.Lib
set_option linter.unusedVariables false

theorem own : ownKnob Tryz.prog.godebug = none := by kernel_rfl
theorem laidOut : laidOutB Tryz.prog = true := by kernel_rfl
theorem gE : Tryz.prog.globalNamed "given.example/pub-foolscap/pub/pdfcpu/pkg/pdfcpu/types.ErrInvalidUTF16BE" = some 2 := by kernel_rfl
theorem tE : (Tryz.prog.globals[2]?).map (·.type) = some 36 := by kernel_rfl
theorem gL : Tryz.prog.globalNamed "encoding/hex.ErrLength" = some 4 := by kernel_rfl
theorem tL : (Tryz.prog.globals[4]?).map (·.type) = some 36 := by kernel_rfl

/-- The witness's start: what the door's own run leaves, and the table that the dump leaves out. -/
noncomputable def start (os : Os) : World := (World.doorLaid Tryz.prog 334 os).layVars Tryz.prog [("unicode/utf8.first", Go.Pinned.utf8First)]
theorem start_os (os : Os) : (start os).os = os := (World.layVars_os _ _ _).trans rfl

set_option maxRecDepth 100000 in
theorem door_met (os : Os) (args : Array Value) : laidMetH Tryz.prog Rows.fnHexTextRow.laid ((start os).forCall (fun _ _ => 0) ⟨#[], args, []⟩).memory :=
  laidMetH_of_parts3 (fuel := 8) (laidMet_layVars (w0 := World.doorLaid Tryz.prog 334 os) ["unicode/utf8.first"] ((List.range (World.doorLaid Tryz.prog 334 os).heap.size).drop 1) (by kernel_rfl) (by kernel_rfl) (by kernel_rfl)
    (LaidIn.of_run _ 8 (by kernel_rfl) (by kernel_rfl) (by kernel_rfl) (by kernel_rfl))) (by kernel_rfl) (by kernel_rfl)

theorem of_laid {W : World} (h : laidMetH Tryz.prog Rows.fnHexTextRow.laid W) : (∃ T pv, W.cell? ⟨2, 0, none⟩ = some (.iface T pv)) ∧ (∃ ev, W.cell? ⟨4, 0, none⟩ = some ev) ∧ Lib.Utf8Tabs 0 1 W ∧ DocTab W := by
  obtain ⟨h1, _⟩ := laidMetH_iff.1 h
  have rd : ∀ n d, (n, d) ∈ Rows.fnHexTextRow.laid → d.handleName?.isNone = true → VarReads Tryz.prog W n d := fun n d hx hn => laidMet.reads h1 (List.mem_filter.2 ⟨hx, hn⟩)
  have r3 := rd "unicode/utf8.acceptRanges" Rows.laid_unicode_utf8_acceptRanges (.tail _ (.tail _ (.tail _ (.head _)))) (by kernel_rfl)
  have r7 := rd "encoding/hex.ErrLength" Rows.laid_encoding_hex_ErrLength (.tail _ (.tail _ (.tail _ (.tail _ (.tail _ (.tail _ (.tail _ (.head _)))))))) (by kernel_rfl)
  have r8 := rd "given.example/pub-foolscap/pub/pdfcpu/pkg/pdfcpu/types.pdfDocEncoding" Rows.laid_given_example_pub_foolscap_pub_pdfcpu_pkg_pdfcpu_types_pdfDocEncoding (.tail _ (.tail _ (.tail _ (.tail _ (.tail _ (.tail _ (.tail _ (.tail _ (.head _))))))))) (by kernel_rfl)
  have r9 := rd "given.example/pub-foolscap/pub/pdfcpu/pkg/pdfcpu/types.ErrInvalidUTF16BE" Rows.laid_given_example_pub_foolscap_pub_pdfcpu_pkg_pdfcpu_types_ErrInvalidUTF16BE (.tail _ (.tail _ (.tail _ (.tail _ (.tail _ (.tail _ (.tail _ (.tail _ (.tail _ (.head _)))))))))) (by kernel_rfl)
  have r10 := rd "unicode/utf8.first" Rows.laid_unicode_utf8_first (.tail _ (.tail _ (.tail _ (.tail _ (.tail _ (.tail _ (.tail _ (.tail _ (.tail _ (.tail _ (.head _))))))))))) (by kernel_rfl)
  have e3 : Rows.laid_unicode_utf8_acceptRanges = acceptData := by kernel_rfl
  have e10 : Rows.laid_unicode_utf8_first = firstData := by kernel_rfl
  rw [e3] at r3
  rw [e10] at r10
  refine ⟨?_, ?_, utf8Tabs_of_readsT (U8Types.of196 Tryz.lays196) ⟨by kernel_rfl, by kernel_rfl, by kernel_rfl, by kernel_rfl, by kernel_rfl, by kernel_rfl, by kernel_rfl⟩ r10 r3, docTab_of r8⟩
  · obtain ⟨g0, t0, cs0, f0, p0, hg0, ht0, hv0, hd0⟩ := r9
    obtain rfl := Option.some.inj (gE.symm.trans hg0)
    obtain rfl := Option.some.inj (tE.symm.trans ht0)
    obtain ⟨l0⟩ := cs0
    obtain ⟨f1, u, v, rfl, hn, h1⟩ := iface_of_trod Tryz.underlying36 hd0
    exact ⟨_, _, by simpa using World.var?_cell hg0 hv0 0⟩
  · obtain ⟨g0, t0, cs0, f0, p0, hg0, ht0, hv0, hd0⟩ := r7
    obtain rfl := Option.some.inj (gL.symm.trans hg0)
    obtain rfl := Option.some.inj (tL.symm.trans ht0)
    obtain ⟨l0⟩ := cs0
    obtain ⟨f1, u, v, rfl, hn, h1⟩ := iface_of_trod Tryz.underlying36 hd0
    exact ⟨_, by simpa using World.var?_cell hg0 hv0 0⟩

section
variable {H : Type} {enc : TypeId × Value → H} {P : Program} {w : World} {spare : Nat → Bool}
theorem gs_two {n0 n1 : String} {gs : List (DataW H)} {ps : List MemPlace} (h : DataW.TrodVars enc P w spare [n0, n1] gs ps) : ∃ d0 d1, gs = [d0, d1] := by
  obtain ⟨_, _, _, _, d1, _, _, _, _, _, d2, _, rfl, _⟩ := trodVars_two h
  exact ⟨_, _, rfl⟩
end

set_option maxRecDepth 100000 in
theorem lifted (os : Os) (started : os.Started) (H : Type) (enc : TypeId × Value → H) :
    ReturnsInHanded {} Tryz.checked os 3 .any (fun w args => (Rows.fnHexTextSpec.pre enc Tryz.prog Tryz.f3 [] false w args ∧ laidMetH Tryz.prog Rows.fnHexTextRow.laid w) ∧ sizedMet enc Tryz.prog Tryz.f3 (OpenSpec.ofChange Rows.fnHexTextSpec) false w args)
      (Rows.fnHexTextSpec.post enc Tryz.prog Tryz.f3 false true false false) := by
  refine returnsInHanded_of_change_and (C := Tryz.checked) (X := fun w _ => laidMetH Tryz.prog Rows.fnHexTextRow.laid w) (fun _ _ _ hh h => h.of_heap hh) own started (by kernel_rfl) Tryz.func3
    (ChangeSpec.witness_shaped (enc := enc) (C := Tryz.checked) (os := os) (X := fun w _ => laidMetH Tryz.prog Rows.fnHexTextRow.laid w) false (start os) #[.string ⟨#[]⟩] 8 (start_os os) (World.shaped_of_RefB (by kernel_rfl) (by kernel_rfl)) (by kernel_rfl) (by kernel_rfl) (by kernel_rfl) (door_met os _)) ?_
  intro W base args ds gs before hval0 hW _ _ hL _
  have hval : ∀ (j : Nat) t v, Tryz.f3.params[j]? = some t → args[j]? = some v → Value.okWide Tryz.prog W .any base t v := hval0
  have hW' := hW
  obtain ⟨p, q, hA0, hV, rfl, hfz, hnd⟩ := hW
  have hA : DataW.TrodAll enc Tryz.prog W 0 (fun _ => true) true Tryz.f3.params.toList args.toList ds p := hA0
  rw [Tryz.params3] at hA hval
  obtain ⟨v0, vs0, d0, ds0, p0, q0, hargs, rfl, rfl, h0, r0⟩ := trodAll_cons hA
  obtain ⟨rfl, rfl, rfl⟩ := trodAll_nil r0
  obtain rfl : args = #[v0] := by cases args; simp_all
  have k0 := h0
  have lt0 : ∀ x ∈ p0, x.block < W.heap.size := by obtain ⟨m, hm⟩ := k0; exact DataW.trod_lt m _ _ _ hm
  obtain ⟨a0, rfl, -, -, w0⟩ := open_string Tryz.underlying9 (hval 0 9 v0 rfl rfl) h0
  obtain ⟨⟨T, pv, hE⟩, ⟨ev, hE4⟩, hT, hDT⟩ := of_laid hL
  obtain ⟨g0, g1, hgs⟩ := gs_two hV
  subst hgs
  clear hA0 hval0
  refine (law_hx a0 T pv ev W hE hE4 hT hDT).mono fun e W' ⟨he, bel⟩ => ?_
  subst he
  exact ⟨_, rfl, _, _, _, [], _, _, hW', trodAll_mk1 (shut_bool Tryz.underlying4 _), (trodAll_cons_mk (Below.trod laidOut (by kernel_rfl) (of_decide_eq_true (by kernel_rfl)) k0 bel lt0) trodAll_mk0), Below.trodVars laidOut bel (by kernel_rfl) hV, bel.frame _, fun h => by cases h⟩

theorem over : Rows.FnHexTextSaid :=
  OpenClaim.holds_of_wide 3 Tryz.f3 rfl rfl rfl rfl rfl rfl rfl ⟨rfl, rfl, rfl, rfl, rfl⟩ rfl rfl rfl rfl rfl (by kernel_rfl) Tryz.func3 (by kernel_rfl)
    (of_decide_eq_true (by kernel_rfl)) (by unfold Func.isWrapper; first | (rw [if_pos (by decide +kernel)]; kernel_rfl) | (rw [if_neg (by decide +kernel)]; exact ⟨rfl, rfl⟩))
    (fun os started H enc _ => lifted os started H enc)

/-- The statement: the card. -/
theorem proved : Rows.FnHexTextCardSaid :=
  Claim7.holds_tied_plain_at .later [] [.data, .data, .data, .data, .sentinel, .sentinel, .sentinel, .sentinel, .mapped, .sentinel, .pinned] true (true, "2745cc46d4cf790f2a0397621cce7a141fcb3c25f4e68d61ca11b9bb450c42e6") true
    over (fun _ h => by cases h) (by kernel_rfl) (fun _ h => by cases h) fnHexText_row_tie rfl ⟨rfl, rfl⟩ (by kernel_rfl) rfl
    (fun f fn hf hfn => by
      obtain rfl : f = 3 := Option.some.inj ((show Tryz.prog.funcNamed "given.example/pub-foolscap/laws.FnHexText" = some 3 by kernel_rfl).symm.trans hf) |>.symm
      obtain rfl : fn = Tryz.f3 := (Option.some.inj (Tryz.func3.symm.trans hfn)).symm
      exact ⟨by kernel_rfl, fun j t ht => by
        rw [Tryz.params3] at ht
        have hm : t ∈ [9] := by simpa using Array.mem_of_getElem? ht
        have hall : ([9].all fun u => !Tryz.prog.wantsStandIn u) = true := by kernel_rfl
        exact (show Tryz.prog.wantsStandIn t = false by simpa using List.all_eq_true.1 hall t hm)⟩)
    (by kernel_rfl)
#print axioms proved
end Go.Proofs.YtgemkjickljedaaGreatDoor.fnHexText
