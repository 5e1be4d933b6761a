/- What spec.Prolog leaves. Conditions: at most 4096 bytes, at most 1000 pairs; the errors of package strconv are there. -/
import Derived.Test.YtnpedhdonfdbmaaDoorOK
namespace Go.Proofs.YtnpedhdonfdbmaaDoor
open Go.ChangeShapes Go.WideShapes Go.ChangeAt Go.RowKit Go.Sort

/-- What Prolog leaves. -/
def PrQ (w : World) (e : Ending) (w' : World) : Prop := ∃ (p : Option Addr) (m k : Nat) (y : Value) (is : Bool), e = .returned (.tuple #[.slice p m k, y, .bool is]) ∧ Below w.heap.size w w'

set_option maxHeartbeats 2000000 in
set_option maxRecDepth 100000 in
theorem prolog_any (s : ByteArray) (n : Nat) (hn : n ≤ 1000) (hs : s.size ≤ 4096) (T3 T4 : TypeId) (p3 p4 : Value) (w : World) (h3 : w.cell? ⟨3, 0, none⟩ = some (.iface T3 p3)) (h4 : w.cell? ⟨4, 0, none⟩ = some (.iface T4 p4)) :
    Calls Tryd.prog 8 #[.string s, .int .i64 n] w (PrQ w) := by
  obtain ⟨i0, hi, hz0, hz1, hz2⟩ := info_parts (show (Tryd.prog.info? 3).map (fun i => (i.zero, i.size, i.bytes)) = some (some (.int .i64 0), 1, 8) by kernel_rfl)
  have l3 := block_lt_of_cell h3
  have l4 := block_lt_of_cell h4
  have HP : Hid (∀ a o wr, Rd w.heap.size s a o wr → a ≤ s.size → Calls Tryd.prog 15 #[.pointer (some ⟨w.heap.size, 0, none⟩)] wr fun e w' => e = .returned (.tuple #[]) ∧ PsQ w.heap.size s wr w') := fun a o wr hR ha => pass_any w.heap.size s a o wr hR ha hs
  have HW : Hid (∀ a o wr, Rd w.heap.size s a o wr → a ≤ s.size → Calls Tryd.prog 17 #[.pointer (some ⟨w.heap.size, 0, none⟩)] wr (WdQ w.heap.size s wr)) := fun a o wr hR ha => word_any w.heap.size s a o wr hR ha hs
  have HA : Hid (∀ (S : ByteArray) wr, S.size ≤ s.size → Below w.heap.size w wr → Calls Tryd.prog 16 #[.string S] wr fun e w' => ∃ v ev, e = .returned (.tuple #[.int .i64 v, ev]) ∧ (ev = .nilIface ∨ ∃ T p, ev = .iface T p) ∧ Below wr.heap.size wr w') :=
    fun S wr hS b => atoi_all S (by omega) T3 T4 p3 p4 wr ((below_cells b _ 0 l3).trans h3) ((below_cells b _ 0 l4).trans h4)
  clear h3 h4 l3 l4
  go_enter Tryd.func8, Tryd.ntmps8
  go_wp2_with (fail)
  go_loopw [4, 5, 15] (fun x y iv wr => ∃ i : Nat, iv = .int .i64 i ∧ i ≤ n ∧ Pl w.heap.size s w (2 * i) x y wr) (fun _ _ iv _ => n - (intOf iv).toNat)
  case atStart =>
    refine ⟨0, rfl, Nat.zero_le _, ⟨0, 0, [], [], Nat.le_refl _, Nat.le_refl _, World.ownsRow_nil _ _ _ _, World.ownsRow_nil _ _ _ _⟩, fun g h => (by cases h), ⟨0, false, Nat.zero_le _, ?_⟩, below_al (Below.refl _ _) _, by simp⟩
    constructor <;> go_simp
  case round =>
    obtain ⟨i, rfl, hi', hP⟩ := hrel
    have HPl := Lib.hid hP
    clear hP
    by_cases hlt : i < n
    · have hi1 : (i : Int) < (n : Int) := by omega
      go_wp2_with (fail)
      go_loopw [4, 5, 17] (fun x y kv wr => ∃ k : Nat, kv = .int .i64 k ∧ k ≤ 2 ∧ Pl w.heap.size s w (2 * i + k) x y wr) (fun _ _ kv _ => 2 - (intOf kv).toNat)
      case atStart => exact ⟨0, rfl, by omega, HPl.out⟩
      case round =>
        obtain ⟨k, rfl, hk, hP⟩ := hrel
        have HQl := Lib.hid hP
        clear hP
        by_cases hk2 : k < 2
        · go_wp2_with (fail)
          obtain ⟨a1, o1, ha1, hR1⟩ := HQl.out.rd
          refine Calls.mono (by with_reducible exact HP.out a1 o1 _ hR1 ha1) ?_
          rintro e w1 ⟨rfl, hq1⟩
          have H1 := Lib.hid (HQl.out.turn hq1)
          clear hq1 hR1
          go_wp2_with (fail)
          obtain ⟨a2, o2, ha2, hR2⟩ := H1.out.rd
          refine Calls.mono (by with_reducible exact HW.out a2 o2 _ hR2 ha2) ?_
          rintro e w2 ⟨S, rfl, hS, hq2⟩
          have H2 := Lib.hid (H1.out.turn hq2)
          clear hq2 hR2
          go_wp2_with (fail)
          refine Calls.mono (by with_reducible exact HA.out S _ hS H2.out.below) ?_
          rintro e w3 ⟨v, ev, rfl, hev, hb3⟩
          have H3 := Lib.hid (H2.out.above hb3)
          have HI := Lib.hid hi
          clear hb3 hi
          rcases hev with rfl | ⟨T, p, rfl⟩
          · by_cases hv : v < 0
            · have d1 : decide (v < 0) = true := by simp; omega
              clear hv
              go_wp2_with (fail)
              exact bodyPost_ret (v := .tuple #[.slice none 0 0, .slice none 0 0, .bool false]) (by simp [results, Tryd.results8, go_sem]) rfl ⟨none, 0, 0, _, false, rfl, H3.out.below⟩
            · have d1 : decide (v < 0) = false := by simp; omega
              clear hv
              obtain ⟨i1, j1, xs, ys, hi1, hj1, hx, hy⟩ := H3.out.rows
              rcases (show k = 0 ∨ k = 1 by omega) with rfl | rfl
              · go_wp2_with (at_builtin; refine wpList_append_own_at _ rfl _ _ 29 rfl (w.heap.size + 1) 3 i0 (.int .i64 0) 1 8 Tryd.underlying29 HI.out hz0 hz1 hz2 rfl (by decide) _ _ _ rfl (hx.alloc _) ⟨w3.heap.size, 0, none⟩ 1 1 [.int .i64 v] rfl rfl (cell_one_new _ _ _) (by intro u hu; simp at hu; subst hu; rfl) (by unfold maxLen; omega) (by omega) (by have := H3.out.size; simp; omega) ?_)
                intro v' w' hown' hgrow' hnil hob
                have H4 := Lib.hid (H3.out.grown hown' hi1 hgrow' (by simpa using hob))
                clear hown' hgrow' hnil hob hx hy
                go_wp2_with (fail)
                go_roundw
                case rel => exact ⟨1, rfl, by omega, H4.out⟩
                case measure => simp [intOf]
              · go_wp2_with (at_builtin; refine wpList_append_own_at _ rfl _ _ 29 rfl (w.heap.size + 1) 3 i0 (.int .i64 0) 1 8 Tryd.underlying29 HI.out hz0 hz1 hz2 rfl (by decide) _ _ _ rfl (hy.alloc _) ⟨w3.heap.size, 0, none⟩ 1 1 [.int .i64 v] rfl rfl (cell_one_new _ _ _) (by intro u hu; simp at hu; subst hu; rfl) (by unfold maxLen; omega) (by omega) (by have := H3.out.size; simp; omega) ?_)
                intro v' w' hown' hgrow' hnil hob
                have H4 := Lib.hid (H3.out.swap.grown hown' hj1 hgrow' (by simpa using hob)).swap
                clear hown' hgrow' hnil hob hx hy
                go_wp2_with (fail)
                go_roundw
                case rel => exact ⟨2, rfl, by omega, H4.out⟩
                case measure => simp [intOf]
          · go_wp2_with (fail)
            exact bodyPost_ret (v := .tuple #[.slice none 0 0, .slice none 0 0, .bool false]) (by simp [results, Tryd.results8, go_sem]) rfl ⟨none, 0, 0, _, false, rfl, H3.out.below⟩
        · go_wp2_with (fail)
          exact ⟨⟨i + 1, by simp, by omega, HQl.out.le (by omega)⟩, by simp [intOf]; omega⟩
    · go_wp2_with (fail)
      obtain ⟨a1, o1, ha1, hR1⟩ := HPl.out.rd
      refine Calls.mono (by with_reducible exact HP.out a1 o1 _ hR1 ha1) ?_
      rintro e w1 ⟨rfl, hq1⟩
      have H1 := Lib.hid (HPl.out.turn hq1)
      clear hq1 hR1
      obtain ⟨a2, o2, ha2, q0, q1, q2, q3, q4⟩ := H1.out.rd
      obtain ⟨p, m, kk, hf⟩ := H1.out.form
      have HB := Lib.hid H1.out.below
      clear H1 HPl
      subst hf
      go_wp2_with (fail)
      go_quiet (fail)
      go_wp2_with (fail)
      exact bodyPost_ret (v := .tuple #[.slice p m kk, u5, .bool ((a2 : Int) == (s.size : Int))]) (by simp [results, Tryd.results8, go_sem]) rfl ⟨_, _, _, _, _, rfl, below_drewN HB.out _⟩

end Go.Proofs.YtnpedhdonfdbmaaDoor
