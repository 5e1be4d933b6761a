/- For every string the law FnUTF16Escaped returns true, and what was in memory stays as it was. Conditions: the listed variables read as the program's text lays them. -/
import Derived.Test.YtgemkjickljedaaDoorVW
import Derived.Test.YtgemkjickljedaaDoorTie
import Derived.Test.YtgemkjickljedaaDoorCards
import Derived.WalkKit
import Derived.ProofKit
import Derived.OpenShut
import Derived.ShutString
import Derived.ChangeOld
import Derived.Below
import Derived.LaidMore
import Derived.LaidLaws
import Derived.Stop.Joined
import Derived.SevenTiedAt
import Derived.OpenVars
import Derived.ChangeVars
import Derived.LaidSub
import Derived.Lay
import Derived.Lib.LaidIn
import Derived.Lib.LaidTab
import Derived.Lib.LaidU8T
namespace Go.Proofs.YtgemkjickljedaaDoor.fnUTF16Escaped
open Go.ChangeShapes Go.WideShapes Go.ChangeAt Go.RowKit
open Go.ChangeMaps (open_string shut_string)
open Go.Lib
set_option linter.unusedVariables false

theorem own : ownKnob Tryd.prog.godebug = none := by kernel_rfl
theorem laidOut : laidOutB Tryd.prog = true := by kernel_rfl
theorem gE : Tryd.prog.globalNamed "given.example/pub-foolscap/pub/pdfcpu/pkg/pdfcpu/types.ErrInvalidUTF16BE" = some 3 := by kernel_rfl
theorem tE : (Tryd.prog.globals[3]?).map (·.type) = some 39 := by kernel_rfl


/-- The witness's start: what the door's own run leaves, and the table that the dump leaves out. -/
noncomputable def start (os : Os) : World := (World.doorLaid Tryd.prog 353 os).layVars Tryd.prog [("unicode/utf8.first", Go.Pinned.utf8First)]
theorem start_os (os : Os) : (start os).os = os := (World.layVars_os _ _ _).trans rfl

set_option maxRecDepth 100000 in
theorem door_met (os : Os) (args : Array Value) : laidMetH Tryd.prog Rows.fnUTF16EscapedRow.laid ((start os).forCall (fun _ _ => 0) ⟨#[], args, []⟩).memory :=
  laidMetH_of_parts3 (fuel := 8) (laidMet_layVars (w0 := World.doorLaid Tryd.prog 353 os) ["unicode/utf8.first"] ((List.range (World.doorLaid Tryd.prog 353 os).heap.size).drop 1) (by kernel_rfl) (by kernel_rfl) (by kernel_rfl)
    (LaidIn.of_run _ 8 (by kernel_rfl) (by kernel_rfl) (by kernel_rfl) (by kernel_rfl))) (by kernel_rfl) (by kernel_rfl)

theorem of_laid {W : World} (h : laidMetH Tryd.prog Rows.fnUTF16EscapedRow.laid W) : (∃ T pv, W.cell? ⟨3, 0, none⟩ = some (.iface T pv)) ∧ Lib.Utf8Tabs 0 1 W := by
  obtain ⟨h1, _⟩ := laidMetH_iff.1 h
  have rd : ∀ n d, (n, d) ∈ Rows.fnUTF16EscapedRow.laid → d.handleName?.isNone = true → VarReads Tryd.prog W n d := fun n d hx hn => laidMet.reads h1 (List.mem_filter.2 ⟨hx, hn⟩)
  have r3 := rd "unicode/utf8.acceptRanges" Rows.laid_unicode_utf8_acceptRanges (.tail _ (.tail _ (.tail _ (.head _)))) (by kernel_rfl)
  have r9 := rd "given.example/pub-foolscap/pub/pdfcpu/pkg/pdfcpu/types.ErrInvalidUTF16BE" Rows.laid_given_example_pub_foolscap_pub_pdfcpu_pkg_pdfcpu_types_ErrInvalidUTF16BE (.tail _ (.tail _ (.tail _ (.tail _ (.tail _ (.tail _ (.tail _ (.tail _ (.tail _ (.head _)))))))))) (by kernel_rfl)
  have r10 := rd "unicode/utf8.first" Rows.laid_unicode_utf8_first (.tail _ (.tail _ (.tail _ (.tail _ (.tail _ (.tail _ (.tail _ (.tail _ (.tail _ (.tail _ (.head _))))))))))) (by kernel_rfl)
  have e3 : Rows.laid_unicode_utf8_acceptRanges = acceptData := by kernel_rfl
  have e10 : Rows.laid_unicode_utf8_first = firstData := by kernel_rfl
  rw [e3] at r3
  rw [e10] at r10
  refine ⟨?_, utf8Tabs_of_readsT (U8Types.of196 Tryd.lays196) ⟨by kernel_rfl, by kernel_rfl, by kernel_rfl, by kernel_rfl, by kernel_rfl, by kernel_rfl, by kernel_rfl⟩ r10 r3⟩
  obtain ⟨g0, t0, cs0, f0, p0, hg0, ht0, hv0, hd0⟩ := r9
  obtain rfl := Option.some.inj (gE.symm.trans hg0)
  obtain rfl := Option.some.inj (tE.symm.trans ht0)
  obtain ⟨l0⟩ := cs0
  obtain ⟨f1, u, v, rfl, hn, h1⟩ := iface_of_trod Tryd.underlying39 hd0
  exact ⟨_, _, by simpa using World.var?_cell hg0 hv0 0⟩

section
variable {H : Type} {enc : TypeId × Value → H} {P : Program} {w : World} {spare : Nat → Bool}
theorem gs_three {n0 n1 n2 : String} {gs : List (DataW H)} {ps : List MemPlace} (h : DataW.TrodVars enc P w spare [n0, n1, n2] gs ps) : ∃ d0 d1 d2, gs = [d0, d1, d2] := by
  cases gs with
  | nil => simp [DataW.TrodVars] at h
  | cons d ds =>
    obtain ⟨_, _, _, _, _, _, _, _, _, _, hs, _⟩ := h
    obtain ⟨_, _, _, _, d1, _, _, _, _, _, d2, _, rfl, _⟩ := trodVars_two hs
    exact ⟨d, d1, d2, rfl⟩
end

set_option maxRecDepth 100000 in
theorem lifted (os : Os) (started : os.Started) (H : Type) (enc : TypeId × Value → H) :
    ReturnsInHanded {} Tryd.checked os 7 .any (fun w args => (Rows.fnUTF16EscapedSpec.pre enc Tryd.prog Tryd.f7 [] false w args ∧ laidMetH Tryd.prog Rows.fnUTF16EscapedRow.laid w) ∧ sizedMet enc Tryd.prog Tryd.f7 (OpenSpec.ofChange Rows.fnUTF16EscapedSpec) false w args)
      (Rows.fnUTF16EscapedSpec.post enc Tryd.prog Tryd.f7 false true false false) := by
  refine returnsInHanded_of_change_and (C := Tryd.checked) (X := fun w _ => laidMetH Tryd.prog Rows.fnUTF16EscapedRow.laid w) (fun _ _ _ hh h => h.of_heap hh) own started (by kernel_rfl) Tryd.func7
    (ChangeSpec.witness_shaped (enc := enc) (C := Tryd.checked) (os := os) (X := fun w _ => laidMetH Tryd.prog Rows.fnUTF16EscapedRow.laid w) false (start os) #[.string ⟨#[]⟩] 8 (start_os os) (World.shaped_of_RefB (by kernel_rfl) (by kernel_rfl)) (by kernel_rfl) (by kernel_rfl) (by kernel_rfl) (door_met os _)) ?_
  intro W base args ds gs before hval0 hW _ _ hL _
  have hval : ∀ (j : Nat) t v, Tryd.f7.params[j]? = some t → args[j]? = some v → Value.okWide Tryd.prog W .any base t v := hval0
  have hW' := hW
  obtain ⟨p, q, hA0, hV, rfl, hfz, hnd⟩ := hW
  have hA : DataW.TrodAll enc Tryd.prog W 0 (fun _ => true) true Tryd.f7.params.toList args.toList ds p := hA0
  rw [Tryd.params7] at hA hval
  obtain ⟨v0, vs0, d0, ds0, p0, q0, hargs, rfl, rfl, h0, r0⟩ := trodAll_cons hA
  obtain ⟨rfl, rfl, rfl⟩ := trodAll_nil r0
  obtain rfl : args = #[v0] := by cases args; simp_all
  have k0 := h0
  have lt0 : ∀ x ∈ p0, x.block < W.heap.size := by obtain ⟨m, hm⟩ := k0; exact DataW.trod_lt m _ _ _ hm
  obtain ⟨a0, rfl, -, -, w0⟩ := open_string Tryd.underlying9 (hval 0 9 v0 rfl rfl) h0
  obtain ⟨⟨T, pv, hE⟩, hT⟩ := of_laid hL
  obtain ⟨g0, g1, g2, hgs⟩ := gs_three hV
  subst hgs
  clear hA0 hval0
  refine (law_e16 a0 T pv W hE hT).mono fun e W' ⟨he, bel⟩ => ?_
  subst he
  exact ⟨_, rfl, _, _, _, [], _, _, hW', trodAll_mk1 (shut_bool Tryd.underlying4 _), (trodAll_cons_mk (Below.trod laidOut (by kernel_rfl) (of_decide_eq_true (by kernel_rfl)) k0 bel lt0) trodAll_mk0), Below.trodVars laidOut bel (by kernel_rfl) hV, bel.frame _, fun h => by cases h⟩

theorem over : Rows.FnUTF16EscapedSaid :=
  OpenClaim.holds_of_wide 7 Tryd.f7 rfl rfl rfl rfl rfl rfl rfl ⟨rfl, rfl, rfl, rfl, rfl⟩ rfl rfl rfl rfl rfl (by kernel_rfl) Tryd.func7 (by kernel_rfl)
    (of_decide_eq_true (by kernel_rfl)) (by unfold Func.isWrapper; first | (rw [if_pos (by decide +kernel)]; kernel_rfl) | (rw [if_neg (by decide +kernel)]; exact ⟨rfl, rfl⟩))
    (fun os started H enc _ => lifted os started H enc)

/-- The statement: the card. -/
theorem proved : Rows.FnUTF16EscapedCardSaid :=
  Claim7.holds_tied_plain_at .later [] [.data, .data, .data, .data, .sentinel, .sentinel, .sentinel, .mapped, .sentinel, .sentinel, .pinned] true (true, "66a56a9e54909f5f235e654add27ddde8d8c4c2b18720735df79e408f6708ed7") true
    over (fun _ h => by cases h) (by kernel_rfl) (fun _ h => by cases h) fnUTF16Escaped_row_tie rfl ⟨rfl, rfl⟩ (by kernel_rfl) rfl
    (fun f fn hf hfn => by
      obtain rfl : f = 7 := Option.some.inj ((show Tryd.prog.funcNamed "given.example/pub-foolscap/laws.FnUTF16Escaped" = some 7 by kernel_rfl).symm.trans hf) |>.symm
      obtain rfl : fn = Tryd.f7 := (Option.some.inj (Tryd.func7.symm.trans hfn)).symm
      exact ⟨by kernel_rfl, fun j t ht => by
        rw [Tryd.params7] at ht
        have hm : t ∈ [9] := by simpa using Array.mem_of_getElem? ht
        have hall : ([9].all fun u => !Tryd.prog.wantsStandIn u) = true := by kernel_rfl
        exact (show Tryd.prog.wantsStandIn t = false by simpa using List.all_eq_true.1 hall t hm)⟩)
    (by kernel_rfl)
#print axioms proved
end Go.Proofs.YtgemkjickljedaaDoor.fnUTF16Escaped
