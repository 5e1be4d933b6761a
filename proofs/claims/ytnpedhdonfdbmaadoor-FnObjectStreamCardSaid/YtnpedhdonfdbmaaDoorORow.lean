/- For every count, head and rest the law FnObjectStream returns true, and what was in memory stays as it was. Conditions: the listed variables read as the program's text lays them. -/
import Derived.Test.YtnpedhdonfdbmaaDoorOP
import Derived.Test.YtnpedhdonfdbmaaDoorTie
import Derived.Test.YtnpedhdonfdbmaaDoorCards
import Derived.WalkKit
import Derived.ProofKit
import Derived.OpenShut
import Derived.ShutString
import Derived.ChangeOld
import Derived.Below
import Derived.LaidMore
import Derived.LaidLaws
import Derived.Stop.Joined
import Derived.SevenTiedAt
import Derived.OpenVars
import Derived.ChangeVars
import Derived.Lib.LaidTab
namespace Go.Proofs.YtnpedhdonfdbmaaDoor.fnObjectStream
open Go.ChangeShapes Go.WideShapes Go.ChangeAt Go.RowKit
open Go.ChangeMaps (open_string shut_string)
set_option linter.unusedVariables false

theorem own : ownKnob Tryd.prog.godebug = none := by kernel_rfl
theorem laidOut : laidOutB Tryd.prog = true := by kernel_rfl
theorem gS : Tryd.prog.globalNamed "strconv.ErrSyntax" = some 3 := by kernel_rfl
theorem tS : (Tryd.prog.globals[3]?).map (·.type) = some 50 := by kernel_rfl
theorem gR : Tryd.prog.globalNamed "strconv.ErrRange" = some 4 := by kernel_rfl
theorem tR : (Tryd.prog.globals[4]?).map (·.type) = some 50 := by kernel_rfl

theorem door_met (os : Os) (args : Array Value) : laidMetH Tryd.prog Rows.fnObjectStreamRow.laid ((World.doorLaid Tryd.prog 214 os).forCall (fun _ _ => 0) ⟨#[], args, []⟩).memory :=
  laidMetH_of_parts3 (fuel := 8) (laidMet_of_run' 8 (by kernel_rfl) (by kernel_rfl)) (by kernel_rfl) (by kernel_rfl)

theorem of_laid {W : World} (h : laidMetH Tryd.prog Rows.fnObjectStreamRow.laid W) : (∃ T pv, W.cell? ⟨3, 0, none⟩ = some (.iface T pv)) ∧ ∃ T pv, W.cell? ⟨4, 0, none⟩ = some (.iface T pv) := by
  rw [MakeChecks.laidMetH_plain _ _ _ (by kernel_rfl)] at h
  obtain ⟨ps, hl0, _⟩ := h
  obtain ⟨_, _, _, _, _, _, _, _, _, _, hl1, _⟩ := hl0
  obtain ⟨_, _, _, _, _, _, _, _, _, _, hl2, _⟩ := hl1
  obtain ⟨_, _, _, _, _, _, _, _, _, _, hl3, _⟩ := hl2
  obtain ⟨g3, t3, cs3, f3, p3, q3, hg3, ht3, hv3, hd3, hl4, _⟩ := hl3
  obtain ⟨g4, t4, cs4, f4, p4, q4, hg4, ht4, hv4, hd4, _, _⟩ := hl4
  obtain rfl := Option.some.inj (gR.symm.trans hg3)
  obtain rfl := Option.some.inj (tR.symm.trans ht3)
  obtain rfl := Option.some.inj (gS.symm.trans hg4)
  obtain rfl := Option.some.inj (tS.symm.trans ht4)
  obtain ⟨l3⟩ := cs3
  obtain ⟨l4⟩ := cs4
  obtain ⟨f1, u, v, rfl, hn, h1⟩ := iface_of_trod Tryd.underlying50 hd3
  obtain ⟨f1', u', v', rfl, hn', h1'⟩ := iface_of_trod Tryd.underlying50 hd4
  exact ⟨⟨_, _, by simpa using World.var?_cell hg4 hv4 0⟩, ⟨_, _, by simpa using World.var?_cell hg3 hv3 0⟩⟩

set_option maxRecDepth 100000 in
theorem lifted (os : Os) (started : os.Started) (H : Type) (enc : TypeId × Value → H) :
    ReturnsInHanded {} Tryd.checked os 4 .any (fun w args => (Rows.fnObjectStreamSpec.pre enc Tryd.prog Tryd.f4 [] false w args ∧ laidMetH Tryd.prog Rows.fnObjectStreamRow.laid w) ∧ sizedMet enc Tryd.prog Tryd.f4 (OpenSpec.ofChange Rows.fnObjectStreamSpec) false w args)
      (Rows.fnObjectStreamSpec.post enc Tryd.prog Tryd.f4 false true false false) := by
  refine returnsInHanded_of_change_and (C := Tryd.checked) (X := fun w _ => laidMetH Tryd.prog Rows.fnObjectStreamRow.laid w) (fun _ _ _ hh h => h.of_heap hh) own started (by kernel_rfl) Tryd.func4
    (ChangeSpec.witness_shaped (enc := enc) (C := Tryd.checked) (os := os) (X := fun w _ => laidMetH Tryd.prog Rows.fnObjectStreamRow.laid w) false (World.doorLaid Tryd.prog 214 os) #[.int .i64 0, .string ⟨#[]⟩, .string ⟨#[]⟩] 8 rfl (World.shaped_of_RefB (by kernel_rfl) (by kernel_rfl)) (by kernel_rfl) (by kernel_rfl) (by kernel_rfl) (door_met os _)) ?_
  intro W base args ds gs before hval0 hW _ _ hL _
  have hval : ∀ (j : Nat) t v, Tryd.f4.params[j]? = some t → args[j]? = some v → Value.okWide Tryd.prog W .any base t v := hval0
  have hW' := hW
  obtain ⟨p, q, hA0, hV, rfl, hfz, hnd⟩ := hW
  have hA : DataW.TrodAll enc Tryd.prog W 0 (fun _ => true) true Tryd.f4.params.toList args.toList ds p := hA0
  rw [Tryd.params4] at hA hval
  obtain ⟨v0, vs0, d0, ds0, p0, q0, hargs, rfl, rfl, h0, r0⟩ := trodAll_cons hA
  obtain ⟨v1, vs1, d1, ds1, p1, q1, rfl, rfl, rfl, h1, r1⟩ := trodAll_cons r0
  obtain ⟨v2, vs2, d2, ds2, p2, q2, rfl, rfl, rfl, h2, r2⟩ := trodAll_cons r1
  obtain ⟨rfl, rfl, rfl⟩ := trodAll_nil r2
  obtain rfl : args = #[v0, v1, v2] := by cases args; simp_all
  obtain ⟨a0, rfl, rfl, rfl, w0⟩ := open_int Tryd.underlying3 (hval 0 3 v0 rfl rfl) h0
  have k1 := h1
  have lt1 : ∀ x ∈ p1, x.block < W.heap.size := by obtain ⟨m, hm⟩ := k1; exact DataW.trod_lt m _ _ _ hm
  obtain ⟨a1, rfl, -, -, w1⟩ := open_string Tryd.underlying9 (hval 1 9 v1 rfl rfl) h1
  have k2 := h2
  have lt2 : ∀ x ∈ p2, x.block < W.heap.size := by obtain ⟨m, hm⟩ := k2; exact DataW.trod_lt m _ _ _ hm
  obtain ⟨a2, rfl, -, -, w2⟩ := open_string Tryd.underlying9 (hval 2 9 v2 rfl rfl) h2
  obtain ⟨⟨T3, e3, hE3⟩, T4, e4, hE4⟩ := of_laid hL
  obtain ⟨_, _, _, _, g1, _, _, _, _, _, g2, _, hgs, _⟩ := trodVars_two hV
  subst hgs
  clear hA0 hval0
  refine (law_os a0 a1 a2 T3 T4 e3 e4 W hE3 hE4).mono fun e W' ⟨he, bel⟩ => ?_
  subst he
  exact ⟨_, rfl, _, _, _, [], _, _, hW', trodAll_mk1 (shut_bool Tryd.underlying4 _), (trodAll_cons_mk (shut_int Tryd.underlying3 w0) (trodAll_cons_mk (Below.trod laidOut (by kernel_rfl) (of_decide_eq_true (by kernel_rfl)) k1 bel lt1) (trodAll_cons_mk (Below.trod laidOut (by kernel_rfl) (of_decide_eq_true (by kernel_rfl)) k2 bel lt2) trodAll_mk0))), Below.trodVars laidOut bel (by kernel_rfl) hV, bel.frame _, fun h => by cases h⟩

theorem over : Rows.FnObjectStreamSaid :=
  OpenClaim.holds_of_wide 4 Tryd.f4 rfl rfl rfl rfl rfl rfl rfl ⟨rfl, rfl, rfl, rfl, rfl⟩ rfl rfl rfl rfl rfl (by kernel_rfl) Tryd.func4 (by kernel_rfl)
    (of_decide_eq_true (by kernel_rfl)) (by unfold Func.isWrapper; first | (rw [if_pos (by decide +kernel)]; kernel_rfl) | (rw [if_neg (by decide +kernel)]; exact ⟨rfl, rfl⟩))
    (fun os started H enc _ => lifted os started H enc)

/-- The statement: the card. -/
theorem proved : Rows.FnObjectStreamCardSaid :=
  Claim7.holds_tied_plain_at .later [] [.data, .data, .data, .sentinel, .sentinel, .sentinel, .sentinel, .sentinel] true (true, "4d397576784670727154da7f886e28c73a78e50bcbeef6f4431b13222ee18cff") true
    over (fun _ h => by cases h) (by kernel_rfl) (fun _ h => by cases h) fnObjectStream_row_tie rfl ⟨rfl, rfl⟩ (by kernel_rfl) rfl
    (fun f fn hf hfn => by
      obtain rfl : f = 4 := Option.some.inj ((show Tryd.prog.funcNamed "given.example/pub-foolscap/laws.FnObjectStream" = some 4 by kernel_rfl).symm.trans hf) |>.symm
      obtain rfl : fn = Tryd.f4 := (Option.some.inj (Tryd.func4.symm.trans hfn)).symm
      exact ⟨by kernel_rfl, fun j t ht => by
        rw [Tryd.params4] at ht
        have hm : t ∈ [3, 9, 9] := by simpa using Array.mem_of_getElem? ht
        have hall : ([3, 9, 9].all fun u => !Tryd.prog.wantsStandIn u) = true := by kernel_rfl
        exact (show Tryd.prog.wantsStandIn t = false by simpa using List.all_eq_true.1 hall t hm)⟩)
    (by kernel_rfl)
#print axioms proved
end Go.Proofs.YtnpedhdonfdbmaaDoor.fnObjectStream
