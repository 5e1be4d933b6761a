/- What the reader's word leaves. Conditions: at most 4096 bytes. -/
import Derived.Test.YtnpedhdonfdbmaaDoorOI
namespace Go.Proofs.YtnpedhdonfdbmaaDoor
open Go.ChangeShapes Go.WideShapes Go.ChangeAt Go.RowKit Go.Sort

theorem ext_size (t : ByteArray) (a b : Nat) : (t.extract a b).size ≤ t.size := by
  rw [ByteArray.size_extract]; omega
/-- What word leaves. -/
def WdQ (b : Nat) (t : ByteArray) (w : World) (e : Ending) (w' : World) : Prop := ∃ S : ByteArray, e = .returned (.string S) ∧ S.size ≤ t.size ∧ PsQ b t w w'

set_option maxHeartbeats 4000000 in
set_option maxRecDepth 100000 in
theorem word_any (b : Nat) (t : ByteArray) (a0 : Nat) (o0 : Bool) (w : World) (hR : Rd b t a0 o0 w) (ha : a0 ≤ t.size) (ht : t.size ≤ 4096) :
    Calls Tryd.prog 17 #[.pointer (some ⟨b, 0, none⟩)] w (WdQ b t w) := by
  have hr1 := fun (c : UInt8) w => regular_any (c.toNat : Int) w
  have hp1 := fun (c : UInt8) w => plain_any (c.toNat : Int) w
  have q1 := hR.at_
  go_enter Tryd.func17, Tryd.ntmps17
  go_wp2_with (fail)
  clear q1
  go_loopw [] (fun wr => ∃ a o, a0 ≤ a ∧ a ≤ t.size ∧ Rd b t a o wr ∧ Turn b w wr) (msr b)
  case atStart => exact ⟨a0, o0, Nat.le_refl _, ha, hR, Turn.refl _ _⟩
  case round =>
    obtain ⟨k, o, hak, hk, hRr, hT⟩ := hrel
    have HR := Lib.hid hRr
    have HT := Lib.hid hT
    obtain ⟨q0, q1, q2, q3, q4⟩ := hRr
    clear hT hR
    have y1 : (a0 : Int) ≤ (k : Int) := by omega
    have y2 : (k : Int) ≤ (t.size : Int) := by omega
    by_cases hlt : k < t.size
    · have d0 : decide ((k : Int) < (t.size : Int)) = true := by simp; omega
      obtain ⟨c, hc⟩ : ∃ c, t[k] = c := ⟨_, rfl⟩
      have hrc := fun w => hr1 c w
      have hpd := fun w => hp1 c w
      have lc := c.toNat_lt
      clear hr1 hp1
      generalize rgB (c.toNat : Int) = v at hrc
      cases v
      · clear hpd
        cases o
        · by_cases h123 : c.toNat = 123
          · have z1 : ((c.toNat : Int) == 123) = true := by simp; omega
            clear h123
            go_wp2
            go_quiet (((go_at_call 32; with_reducible exact Calls.quiet_of_same (hrc _))))
            go_wp2
            refine wp_region_quiet_lit_tail 54 (by kernel_rfl) (by kernel_rfl) ?_
            simp only [List.take_succ_cons, List.take_zero, List.drop_succ_cons, List.drop_zero]
            repeat (go_big_quiet_step (fail))
            refine wpQuiet_nil ?_
            intro _ hw'
            obtain ⟨nq2, hw''⟩ := hw'
            subst hw''
            go_wp2
            go_quiet (fail)
            go_wp2
            go_ret
            exact ⟨_, rfl, ext_size _ _ _, k, _, hk, ((HR.out.drewN _).mark _).drewN _, ((HT.out.drewN _).set 4 _).drewN _⟩
          · have z1 : ((c.toNat : Int) == 123) = false := by simp; omega
            by_cases h125 : c.toNat = 125
            · have z2 : ((c.toNat : Int) == 125) = true := by simp; omega
              clear h123 h125
              go_wp2
              go_quiet (((go_at_call 32; with_reducible exact Calls.quiet_of_same (hrc _))))
              go_wp2
              refine wp_region_quiet_lit_tail 54 (by kernel_rfl) (by kernel_rfl) ?_
              simp only [List.take_succ_cons, List.take_zero, List.drop_succ_cons, List.drop_zero]
              repeat (go_big_quiet_step (fail))
              refine wpQuiet_nil ?_
              intro _ hw'
              obtain ⟨nq2, hw''⟩ := hw'
              subst hw''
              go_wp2
              go_quiet (fail)
              go_wp2
              go_ret
              exact ⟨_, rfl, ext_size _ _ _, k, _, hk, ((HR.out.drewN _).mark _).drewN _, ((HT.out.drewN _).set 4 _).drewN _⟩
            · have z2 : ((c.toNat : Int) == 125) = false := by simp; omega
              clear h123 h125
              go_wp2
              go_quiet (((go_at_call 32; with_reducible exact Calls.quiet_of_same (hrc _))))
              go_wp2
              refine wp_region_quiet_lit_tail 54 (by kernel_rfl) (by kernel_rfl) ?_
              simp only [List.take_succ_cons, List.take_zero, List.drop_succ_cons, List.drop_zero]
              repeat (go_big_quiet_step (fail))
              refine wpQuiet_nil ?_
              intro _ hw'
              obtain ⟨nq2, hw''⟩ := hw'
              subst hw''
              go_wp2
              go_quiet (fail)
              go_wp2
              go_ret
              exact ⟨_, rfl, ext_size _ _ _, k, _, hk, ((HR.out.drewN _).mark _).drewN _, ((HT.out.drewN _).set 4 _).drewN _⟩
        · skip
          go_wp2
          go_quiet (((go_at_call 32; with_reducible exact Calls.quiet_of_same (hrc _))))
          go_wp2
          refine wp_region_quiet_lit_tail 54 (by kernel_rfl) (by kernel_rfl) ?_
          simp only [List.take_succ_cons, List.take_zero, List.drop_succ_cons, List.drop_zero]
          repeat (go_big_quiet_step (fail))
          refine wpQuiet_nil ?_
          intro _ hw'
          obtain ⟨nq2, hw''⟩ := hw'
          subst hw''
          go_wp2
          go_quiet (fail)
          go_wp2
          go_ret
          exact ⟨_, rfl, ext_size _ _ _, k, _, hk, ((HR.out.drewN _).mark _).drewN _, ((HT.out.drewN _).set 4 _).drewN _⟩
      · generalize plB (c.toNat : Int) = v at hpd
        cases o
        · go_wp2
          go_quiet (((go_at_call 32; with_reducible exact Calls.quiet_of_same (hrc _))))
          go_wp2
          refine wp_region_quiet_lit_tail 20 (by kernel_rfl) (by kernel_rfl) ?_
          simp only [List.take_succ_cons, List.take_zero, List.drop_succ_cons, List.drop_zero]
          repeat (go_big_quiet_step ((go_at_call 29; with_reducible exact qas (hpd _))))
          refine wpQuiet_nil ?_
          intro _ hw'
          obtain ⟨nq2, hw''⟩ := hw'
          subst hw''
          go_wp2
          exact ⟨⟨k + 1, !v, by omega, by omega, ((HR.out.drewN _).mark _).next, ((HT.out.drewN _).set 4 _).set 1 _⟩, by rw [(((HR.out.drewN _).mark _).next).msr, HR.out.msr]; omega⟩
        · go_wp2
          go_quiet (((go_at_call 32; with_reducible exact Calls.quiet_of_same (hrc _))))
          go_wp2
          refine wp_region_quiet_lit_tail 20 (by kernel_rfl) (by kernel_rfl) ?_
          simp only [List.take_succ_cons, List.take_zero, List.drop_succ_cons, List.drop_zero]
          repeat (go_big_quiet_step (fail))
          refine wpQuiet_nil ?_
          intro _ hw'
          obtain ⟨nq2, hw''⟩ := hw'
          subst hw''
          go_wp2
          exact ⟨⟨k + 1, _, by omega, by omega, ((HR.out.drewN _).mark _).next, ((HT.out.drewN _).set 4 _).set 1 _⟩, by rw [(((HR.out.drewN _).mark _).next).msr, HR.out.msr]; omega⟩
    · have d0 : decide ((k : Int) < (t.size : Int)) = false := by simp; omega
      clear hr1 hp1
      cases o
      · skip
        go_wp2
        go_quiet (fail)
        go_wp2
        refine wp_region_quiet_lit_tail 54 (by kernel_rfl) (by kernel_rfl) ?_
        simp only [List.take_succ_cons, List.take_zero, List.drop_succ_cons, List.drop_zero]
        repeat (go_big_quiet_step (fail))
        refine wpQuiet_nil ?_
        intro _ hw'
        obtain ⟨nq2, hw''⟩ := hw'
        subst hw''
        go_wp2
        go_quiet (fail)
        go_wp2
        go_ret
        exact ⟨_, rfl, ext_size _ _ _, k, _, hk, ((HR.out.drewN _).mark _).drewN _, ((HT.out.drewN _).set 4 _).drewN _⟩
      · skip
        go_wp2
        go_quiet (fail)
        go_wp2
        refine wp_region_quiet_lit_tail 54 (by kernel_rfl) (by kernel_rfl) ?_
        simp only [List.take_succ_cons, List.take_zero, List.drop_succ_cons, List.drop_zero]
        repeat (go_big_quiet_step (fail))
        refine wpQuiet_nil ?_
        intro _ hw'
        obtain ⟨nq2, hw''⟩ := hw'
        subst hw''
        go_wp2
        go_quiet (fail)
        go_wp2
        go_ret
        exact ⟨_, rfl, ext_size _ _ _, k, _, hk, ((HR.out.drewN _).mark _).drewN _, ((HT.out.drewN _).set 4 _).drewN _⟩

end Go.Proofs.YtnpedhdonfdbmaaDoor
