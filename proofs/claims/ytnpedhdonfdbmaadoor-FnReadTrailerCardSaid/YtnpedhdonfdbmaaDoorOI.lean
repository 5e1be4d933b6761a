/- What the reader's pass leaves. Conditions: at most 4096 bytes. -/
import Derived.Test.YtnpedhdonfdbmaaDoorOH
import Derived.Test.YtnpedhdonfdbmaaDoorQT
namespace Go.Proofs.YtnpedhdonfdbmaaDoor
open Go.ChangeShapes Go.WideShapes Go.ChangeAt Go.RowKit Go.Sort

/-- A reader: its cells. -/
structure Rd (b : Nat) (t : ByteArray) (a : Nat) (o : Bool) (w : World) : Prop where
  s : w.cell? ⟨b, 0, none⟩ = some (.string t)
  at_ : w.cell? ⟨b, 1, none⟩ = some (.int .i64 a)
  odd : w.cell? ⟨b, 4, none⟩ = some (.bool o)
  f1 : w.frozen? ⟨b, 1, none⟩ = false
  f4 : w.frozen? ⟨b, 4, none⟩ = false
/-- Only the reader turns. -/
structure Turn (b : Nat) (w w' : World) : Prop where
  below : Below b w w'
  size : w'.heap.size = w.heap.size
  other : ∀ k, k ≠ b → w'.heap[k]? = w.heap[k]?
theorem Turn.refl (b : Nat) (w : World) : Turn b w w := ⟨Below.refl _ _, rfl, fun _ _ => rfl⟩
theorem Turn.trans {b : Nat} {x y z : World} (h : Turn b x y) (k : Turn b y z) : Turn b x z := ⟨h.below.trans k.below, k.size.trans h.size, fun i hi => (k.other i hi).trans (h.other i hi)⟩
theorem Turn.drewN {b : Nat} {x y : World} (h : Turn b x y) (q : Nat) : Turn b x (y.drewN q) := ⟨below_drewN h.below q, h.size, h.other⟩
theorem Turn.drew {b : Nat} {x y : World} (h : Turn b x y) : Turn b x y.drew := h.drewN 1
theorem Turn.set {b : Nat} {x y : World} (h : Turn b x y) (o : Nat) (v : Value) : Turn b x (y.setCell ⟨b, o, none⟩ v) :=
  ⟨h.below.setCell (p := ⟨b, o, none⟩) (Nat.le_refl _) _, by simpa using h.size, fun k hk => (Below.heap_setCell _ _ _ _ hk).trans (h.other k hk)⟩
theorem Rd.drewN {b : Nat} {t : ByteArray} {a : Nat} {o : Bool} {w : World} (R : Rd b t a o w) (q : Nat) : Rd b t a o (w.drewN q) := ⟨R.s, R.at_, R.odd, R.f1, R.f4⟩
theorem Rd.drew {b : Nat} {t : ByteArray} {a : Nat} {o : Bool} {w : World} (R : Rd b t a o w) : Rd b t a o w.drew := R.drewN 1
theorem Rd.step {b : Nat} {t : ByteArray} {a : Nat} {o : Bool} {w : World} (R : Rd b t a o w) (y : Nat) : Rd b t y o (w.setCell ⟨b, 1, none⟩ (.int .i64 y)) := by
  obtain ⟨c0, c1, c2, f1, f4⟩ := R
  constructor <;> go_simp <;> assumption
theorem Rd.mark {b : Nat} {t : ByteArray} {a : Nat} {o : Bool} {w : World} (R : Rd b t a o w) (y : Bool) : Rd b t a y (w.setCell ⟨b, 4, none⟩ (.bool y)) := by
  obtain ⟨c0, c1, c2, f1, f4⟩ := R
  constructor <;> go_simp <;> assumption

theorem qas {P : Program} {f : FuncId} {args : Array Value} {w : World} {a n : Nat} {v : Value} (h : Calls P f args (w.drewN (a + n)) fun e w' => e = .returned v ∧ w' = w.drewN (a + n)) :
    Calls P f args (w.drewN (a + n)) fun e w'' => e = .returned v ∧ ∃ m, w'' = w.drewN (a + m) :=
  h.mono fun _ _ ⟨he, hm⟩ => ⟨he, n, hm⟩

def msr (b : Nat) (w : World) : Nat := match w.cell? ⟨b, 1, none⟩ with | some v => 5000 - (intOf v).toNat | none => 0
theorem Rd.msr {b : Nat} {t : ByteArray} {a : Nat} {o : Bool} {w : World} (R : Rd b t a o w) : msr b w = 5000 - a := by
  unfold Go.Proofs.YtnpedhdonfdbmaaDoor.msr; rw [R.at_]; simp [intOf]
theorem Rd.next {b : Nat} {t : ByteArray} {a : Nat} {o : Bool} {w : World} (R : Rd b t a o w) : Rd b t (a + 1) o (w.setCell ⟨b, 1, none⟩ (.int .i64 ((a : Int) + 1))) := by
  have h := R.step (a + 1)
  simpa using h

/-- What the reader's steps leave. -/
def PsQ (b : Nat) (t : ByteArray) (w w' : World) : Prop := ∃ a o, a ≤ t.size ∧ Rd b t a o w' ∧ Turn b w w'

set_option maxHeartbeats 1000000 in
set_option maxRecDepth 100000 in
theorem pass_any (b : Nat) (t : ByteArray) (a0 : Nat) (o0 : Bool) (w : World) (hR : Rd b t a0 o0 w) (ha : a0 ≤ t.size) (ht : t.size ≤ 4096) :
    Calls Tryd.prog 15 #[.pointer (some ⟨b, 0, none⟩)] w fun e w' => e = .returned (.tuple #[]) ∧ PsQ b t w w' := by
  have hw1 := fun (c : UInt8) w => white_any (c.toNat : Int) w
  have hp1 := fun (c : UInt8) w => plain_any (c.toNat : Int) w
  go_enter Tryd.func15, Tryd.ntmps15
  go_wp2_with (fail)
  go_loopw [] (fun wr => ∃ a o, a ≤ t.size ∧ Rd b t a o wr ∧ Turn b w wr) (msr b)
  case atStart => exact ⟨a0, o0, ha, hR, Turn.refl _ _⟩
  case round =>
    obtain ⟨k, o, hk, hRr, hT⟩ := hrel
    have HR := Lib.hid hRr
    have HT := Lib.hid hT
    obtain ⟨q0, q1, q2, q3, q4⟩ := hRr
    clear hT hR
    by_cases hlt : k < t.size
    · have d0 : decide ((k : Int) < (t.size : Int)) = true := by simp; omega
      obtain ⟨c, hc⟩ : ∃ c, t[k] = c := ⟨_, rfl⟩
      have hwc := fun w => hw1 c w
      have hpc := hp1
      have lc := c.toNat_lt
      clear hw1 hp1
      generalize whB (c.toNat : Int) = v at hwc
      cases v
      · by_cases h37 : c.toNat = 37
        · have z1 : ((c.toNat : Int) == 37) = true := by simp; omega
          have H37 := Lib.hid h37
          clear h37
          go_wp2
          go_quiet (fail)
          go_wp2
          go_quiet ((go_at_call 28; with_reducible exact qas (hwc _)))
          go_wp2
          go_quiet (fail)
          go_wp2
          have hc37 : k < t.size := hlt
          go_loopw [] (fun wr2 => ∃ k2 o2, k ≤ k2 ∧ k2 ≤ t.size ∧ Rd b t k2 o2 wr2 ∧ Turn b w wr2) (msr b)
          case atStart => exact ⟨k, o, Nat.le_refl _, hk, by simpa using HR.out.drewN _, by simpa using HT.out.drewN _⟩
          case round =>
            obtain ⟨k2, o2, hkk, hk2, hR2, hT2⟩ := hrel
            have HR2 := Lib.hid hR2
            have HT2 := Lib.hid hT2
            have HQ1 := Lib.hid q1
            clear q0 q1 q2 q3 q4 d0 hT2
            obtain ⟨q0, q1, q2, q3, q4⟩ := hR2
            by_cases hlt2 : k2 < t.size
            · have d0 : decide ((k2 : Int) < (t.size : Int)) = true := by simp; omega
              obtain ⟨c2, hc2⟩ : ∃ c2, t[k2] = c2 := ⟨_, rfl⟩
              have hpd := fun w => hpc c2 w
              have lc2 := c2.toNat_lt
              have HKK : Hid (¬ c2.toNat = 37 → k < k2) := fun h => by
                rcases Nat.lt_or_eq_of_le hkk with h1 | h1
                · exact h1
                · exfalso; apply h; subst h1; rw [← hc2, hc]; exact H37.out
              clear z1 hwc
              by_cases h10 : c2.toNat = 10
              · have z1 : ((c2.toNat : Int) != 10) = false := by simp; omega
                have hkl := HKK.out (by omega)
                clear h10
                go_wp2
                go_quiet (fail)
                go_wp2
                exact ⟨⟨k2, o2, hk2, HR2.out.drewN _, HT2.out.drewN _⟩, by rw [(HR2.out.drewN _).msr, HR.out.msr]; omega⟩
              by_cases h13 : c2.toNat = 13
              · have z1 : ((c2.toNat : Int) != 10) = true := by simp; omega
                have z2 : ((c2.toNat : Int) != 13) = false := by simp; omega
                have hkl := HKK.out (by omega)
                clear h10 h13
                go_wp2
                go_quiet (fail)
                go_wp2
                exact ⟨⟨k2, o2, hk2, HR2.out.drewN _, HT2.out.drewN _⟩, by rw [(HR2.out.drewN _).msr, HR.out.msr]; omega⟩
              have z1 : ((c2.toNat : Int) != 10) = true := by simp; omega
              have z2 : ((c2.toNat : Int) != 13) = true := by simp; omega
              clear h10 h13
              generalize plB (c2.toNat : Int) = v at hpd
              cases o2
              · go_wp2
                go_quiet (fail)
                go_wp2
                refine wp_region_quiet_lit_tail 20 (by kernel_rfl) (by kernel_rfl) ?_
                simp only [List.take_succ_cons, List.take_zero, List.drop_succ_cons, List.drop_zero]
                repeat (go_big_quiet_step ((go_at_call 29; with_reducible exact qas (hpd _))))
                refine wpQuiet_nil ?_
                intro _ hw'
                obtain ⟨nq2, hw''⟩ := hw'
                subst hw''
                go_wp2
                exact ⟨⟨k2 + 1, !v, by omega, by omega, ((HR2.out.drewN _).mark _).next, ((HT2.out.drewN _).set 4 _).set 1 _⟩, by rw [(((HR2.out.drewN _).mark _).next).msr, HR2.out.msr]; omega⟩
              · go_wp2
                go_quiet (fail)
                go_wp2
                refine wp_region_quiet_lit_tail 20 (by kernel_rfl) (by kernel_rfl) ?_
                simp only [List.take_succ_cons, List.take_zero, List.drop_succ_cons, List.drop_zero]
                repeat (go_big_quiet_step ((go_at_call 29; with_reducible exact qas (hpd _))))
                refine wpQuiet_nil ?_
                intro _ hw'
                obtain ⟨nq2, hw''⟩ := hw'
                subst hw''
                go_wp2
                exact ⟨⟨k2 + 1, _, by omega, by omega, ((HR2.out.drewN _).mark _).next, ((HT2.out.drewN _).set 4 _).set 1 _⟩, by rw [(((HR2.out.drewN _).mark _).next).msr, HR2.out.msr]; omega⟩
            · have d0 : decide ((k2 : Int) < (t.size : Int)) = false := by simp; omega
              have hkl : k < k2 := by omega
              clear z1 hwc
              go_wp2
              go_quiet (fail)
              go_wp2
              exact ⟨⟨k2, o2, hk2, HR2.out.drewN _, HT2.out.drewN _⟩, by rw [(HR2.out.drewN _).msr, HR.out.msr]; omega⟩
        · have z1 : ((c.toNat : Int) == 37) = false := by simp; omega
          clear h37
          go_wp2
          go_quiet (fail)
          go_wp2
          go_quiet ((go_at_call 28; with_reducible exact qas (hwc _)))
          go_wp2
          go_quiet (fail)
          go_wp2
          simp [bodyPost, results, Tryd.results15, go_sem]
          exact ⟨k, o, hk, HR.out.drewN _, HT.out.drewN _⟩
      · go_wp2
        go_quiet (fail)
        go_wp2
        go_quiet ((go_at_call 28; with_reducible exact qas (hwc _)))
        go_wp2
        exact ⟨⟨k + 1, o, by omega, (HR.out.drewN _).next, (HT.out.drewN _).set 1 _⟩, by rw [((HR.out.drewN _).next).msr, HR.out.msr]; omega⟩
    · have d0 : decide ((k : Int) < (t.size : Int)) = false := by simp; omega
      go_wp2
      go_quiet (fail)
      go_wp2
      go_end0
      exact ⟨rfl, k, o, hk, HR.out.drewN _, HT.out.drewN _⟩

end Go.Proofs.YtnpedhdonfdbmaaDoor
