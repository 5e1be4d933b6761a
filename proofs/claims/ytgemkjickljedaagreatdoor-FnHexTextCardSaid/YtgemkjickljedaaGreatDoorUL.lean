/- What impl.calm and impl.FromUTF16 answer. Conditions: at most 4096 bytes; no code unit E000. -/
import Derived.Test.YtgemkjickljedaaGreatDoorUK
namespace Go.Proofs.YtgemkjickljedaaGreatDoor
open Go.ChangeShapes Go.WideShapes Go.ChangeAt Go.RowKit

set_option maxRecDepth 100000 in
set_option maxHeartbeats 1000000 in
theorem calm_from (s : ByteArray) (T : TypeId) (pv : Value) (a b c : Nat) (x y : Value) (w : World) (hs : s.size ≤ 4096) (hE : w.cell? ⟨2, 0, none⟩ = some (.iface T pv)) (hedge : NoEdge s.data.toList)
    (h0 : w.cell? ⟨a, 0, none⟩ = some (.string s)) (h1 : w.cell? ⟨b, 0, none⟩ = some x) (h2 : w.cell? ⟨c, 0, none⟩ = some y) (hcb : ¬ c = b) (f1 : w.frozen? ⟨b, 0, none⟩ = false) (f2 : w.frozen? ⟨c, 0, none⟩ = false) :
    Calls Tryz.prog 21 #[.func (.func 24) #[] #[.pointer (some ⟨a, 0, none⟩), .pointer (some ⟨b, 0, none⟩), .pointer (some ⟨c, 0, none⟩)]] w fun e w' => e = .returned (.bool true) ∧
      ∃ ev w2, w' = ((w2.setCell ⟨b, 0, none⟩ (.string (narS s.data.toList))).setCell ⟨c, 0, none⟩ ev).setCell ⟨w.heap.size, 0, none⟩ (.bool true) ∧
      (narB s.data.toList = true → ev = .nilIface) ∧ (narB s.data.toList = false → ∃ T p, ev = .iface T p) ∧ Below w.heap.size w w2 := by
  have hmf : ∀ (fn : Fn) (first cap : Array Value) (w : World), (Instr.makeFunc fn first cap).run Tryz.prog w = .ok (.func fn first cap) w := fun _ _ _ _ => rfl
  have l3 : 2 < w.heap.size := block_lt_of_cell hE
  have la : a < w.heap.size := block_lt_of_cell h0
  have lb : b < w.heap.size := block_lt_of_cell h1
  have lc : c < w.heap.size := block_lt_of_cell h2
  have hnc : (w.alloc (.cells #[.bool false] 4)).cell? ⟨w.heap.size, 0, none⟩ = some (.bool false) := by go_simp
  have hnf : (w.alloc (.cells #[.bool false] 4)).frozen? ⟨w.heap.size, 0, none⟩ = false := by go_simp
  obtain ⟨w1, hw1⟩ : ∃ w1, w.alloc (.cells #[.bool false] 4) = w1 := ⟨_, rfl⟩
  have hb1 : Below w.heap.size w w1 := by rw [← hw1]; exact (Below.refl _ _).alloc (Nat.le_refl _) _
  have hd := shut_any s T pv a b c x y w1 hs ((below_cell hb1 l3).trans hE) hedge ((below_cell hb1 la).trans h0) ((below_cell hb1 lb).trans h1) ((below_cell hb1 lc).trans h2) hcb
    ((World.frozen?_of_block (a := ⟨b, 0, none⟩) (hb1.block b lb)).trans f1) ((World.frozen?_of_block (a := ⟨c, 0, none⟩) (hb1.block c lc)).trans f2)
  rw [hw1] at hnc hnf
  have hns : w.heap.size < w1.heap.size := by rw [← hw1]; simp
  have hnb : ¬ w.heap.size = b := by omega
  have hnc2 : ¬ w.heap.size = c := by omega
  clear hE hedge h0 h1 h2 f1 f2 hs
  go_enter_defers Tryz.func21, Tryz.ntmps21
  go_wp2_with
    (go_at_call 24; refine Calls.mono (by with_reducible exact hd) ?_; rintro e w3 ⟨rfl, ev, w2, rfl, e1, e2, e3⟩
     have g1 := (below_cell e3 (a := ⟨w.heap.size, 0, none⟩) hns).trans hnc
     have k1 := (World.frozen?_of_block (a := ⟨w.heap.size, 0, none⟩) (e3.block w.heap.size hns)).trans hnf
     have HA : Hid ((narB s.data.toList = true → ev = .nilIface) ∧ (narB s.data.toList = false → ∃ T p, ev = .iface T p) ∧ Below w.heap.size w w2) := ⟨e1, e2, hb1.trans (e3.mono hb1.size)⟩
     clear e1 e2 e3)
  refine leaves_cons (f := 33) (args := #[.pointer (some ⟨w.heap.size, 0, none⟩)]) (by simp) (by simp [go_sem]) ?_
  refine (calm_idle ⟨w.heap.size, 0, none⟩ _).mono ?_
  rintro e u' w'' ⟨rfl, rfl, rfl⟩
  have gf : (((w2.setCell ⟨b, 0, none⟩ (.string (narS s.data.toList))).setCell ⟨c, 0, none⟩ ev).setCell ⟨w.heap.size, 0, none⟩ (.bool true)).cell? ⟨w.heap.size, 0, none⟩ = some (.bool true) := by
    go_simp
  simp [Leaves, settle, results, Tryz.results21, go_sem, gf]
  exact ⟨ev, w2, rfl, HA.out⟩

theorem narS_not {l : List UInt8} (h : narB l = false) : narS l = ⟨#[]⟩ := by
  cases ho : narO l with
  | none => exact (narS_none ho).1
  | some o => rw [(narS_some ho).2] at h; cases h

set_option maxRecDepth 100000 in
set_option maxHeartbeats 1000000 in
theorem from16_any (s : ByteArray) (T : TypeId) (pv : Value) (w : World) (hs : s.size ≤ 4096) (hE : w.cell? ⟨2, 0, none⟩ = some (.iface T pv)) (hedge : NoEdge s.data.toList) :
    Calls Tryz.prog 11 #[.string s] w fun e w' => e = .returned (.tuple #[.string (narS s.data.toList), .bool (narB s.data.toList)]) ∧ Below w.heap.size w w' := by
  have hmf : ∀ (fn : Fn) (first cap : Array Value) (w : World), (Instr.makeFunc fn first cap).run Tryz.prog w = .ok (.func fn first cap) w := fun _ _ _ _ => rfl
  have l3 : 2 < w.heap.size := block_lt_of_cell hE
  have c0 : (((w.alloc (.cells #[.string s] 9)).alloc (.cells #[.string ⟨#[]⟩] 9)).alloc (.cells #[.nilIface] 36)).cell? ⟨w.heap.size, 0, none⟩ = some (.string s) := by go_simp
  have c1 : (((w.alloc (.cells #[.string s] 9)).alloc (.cells #[.string ⟨#[]⟩] 9)).alloc (.cells #[.nilIface] 36)).cell? ⟨w.heap.size + 1, 0, none⟩ = some (.string ⟨#[]⟩) := by go_simp
  have c2 : (((w.alloc (.cells #[.string s] 9)).alloc (.cells #[.string ⟨#[]⟩] 9)).alloc (.cells #[.nilIface] 36)).cell? ⟨w.heap.size + 1 + 1, 0, none⟩ = some .nilIface := by go_simp
  have f1 : (((w.alloc (.cells #[.string s] 9)).alloc (.cells #[.string ⟨#[]⟩] 9)).alloc (.cells #[.nilIface] 36)).frozen? ⟨w.heap.size + 1, 0, none⟩ = false := by go_simp
  have f2 : (((w.alloc (.cells #[.string s] 9)).alloc (.cells #[.string ⟨#[]⟩] 9)).alloc (.cells #[.nilIface] 36)).frozen? ⟨w.heap.size + 1 + 1, 0, none⟩ = false := by go_simp
  have hsz : (((w.alloc (.cells #[.string s] 9)).alloc (.cells #[.string ⟨#[]⟩] 9)).alloc (.cells #[.nilIface] 36)).heap.size = w.heap.size + 3 := by simp
  have hb3 : Below w.heap.size w (((w.alloc (.cells #[.string s] 9)).alloc (.cells #[.string ⟨#[]⟩] 9)).alloc (.cells #[.nilIface] 36)) := (((Below.refl _ _).alloc (Nat.le_refl _) _).alloc (by simp) _).alloc (by simp; omega) _
  obtain ⟨w3, hw3⟩ : ∃ w3, (((w.alloc (.cells #[.string s] 9)).alloc (.cells #[.string ⟨#[]⟩] 9)).alloc (.cells #[.nilIface] 36)) = w3 := ⟨_, rfl⟩
  rw [hw3] at c0 c1 c2 f1 f2 hsz hb3
  have hd := calm_from s T pv w.heap.size (w.heap.size + 1) (w.heap.size + 1 + 1) _ _ w3 hs ((below_cell hb3 l3).trans hE) hedge c0 c1 c2 (by omega) f1 f2
  have t1 : w.heap.size + 1 < w3.heap.size := by omega
  have t2 : w.heap.size + 1 + 1 < w3.heap.size := by omega
  have n1 : ¬ w3.heap.size = w.heap.size + 1 := by omega
  have n2 : ¬ w3.heap.size = w.heap.size + 1 + 1 := by omega
  have hno := narS_not (l := s.data.toList)
  clear hs hE hedge c0
  obtain ⟨S, hS⟩ : ∃ S, narS s.data.toList = S := ⟨_, rfl⟩
  rw [hS] at hd hno ⊢
  cases hB : narB s.data.toList
  · have hd2 : Calls Tryz.prog 21 #[.func (.func 24) #[] #[.pointer (some ⟨w.heap.size, 0, none⟩), .pointer (some ⟨w.heap.size + 1, 0, none⟩), .pointer (some ⟨w.heap.size + 1 + 1, 0, none⟩)]] w3 fun e w' => e = .returned (.bool true) ∧
        ∃ w2 T p, w' = ((w2.setCell ⟨w.heap.size + 1, 0, none⟩ (.string S)).setCell ⟨w.heap.size + 1 + 1, 0, none⟩ (.iface T p)).setCell ⟨w3.heap.size, 0, none⟩ (.bool true) ∧ Below w3.heap.size w3 w2 := hd.mono fun e w' ⟨h0, ev, w2, h1, _, h3, h4⟩ => by
      obtain ⟨T, p, rfl⟩ := h3 hB
      exact ⟨h0, w2, T, p, h1, h4⟩
    obtain rfl := hno hB
    clear hno
    clear hd hS hB
    go_enter Tryz.func11, Tryz.ntmps11
    go_wp2_with
      (go_at_call 21; refine Calls.mono (by with_reducible exact hd2) ?_; rintro e w4 ⟨rfl, w2, T2, p2, rfl, hb2⟩
       have g1 := (below_cell hb2 (a := ⟨w.heap.size + 1, 0, none⟩) t1).trans c1
       have g2 := (below_cell hb2 (a := ⟨w.heap.size + 1 + 1, 0, none⟩) t2).trans c2
       have k1 := (World.frozen?_of_block (a := ⟨w.heap.size + 1, 0, none⟩) (hb2.block (w.heap.size + 1) t1)).trans f1
       have k2 := (World.frozen?_of_block (a := ⟨w.heap.size + 1 + 1, 0, none⟩) (hb2.block (w.heap.size + 1 + 1) t2)).trans f2
       have HB : Hid (Below w.heap.size w w2) := hb3.trans (hb2.mono hb3.size)
       clear hb2)
    have q1 : w.heap.size ≤ w.heap.size + 1 := by omega
    have q2 : w.heap.size ≤ w.heap.size + 1 + 1 := by omega
    have q3 : w.heap.size ≤ w.heap.size + 3 := by omega
    have hbw := (((HB.out.setCell (p := ⟨w.heap.size + 1, 0, none⟩) q1 (.string ⟨#[]⟩)).setCell (p := ⟨w.heap.size + 1 + 1, 0, none⟩) q2 (.iface T2 p2)).setCell (p := ⟨w.heap.size + 3, 0, none⟩) q3 (.bool true)).setCell (p := ⟨w.heap.size + 1, 0, none⟩) q1 (.string ⟨#[]⟩)
    have gf : ((((w2.setCell ⟨w.heap.size + 1, 0, none⟩ (.string ⟨#[]⟩)).setCell ⟨w.heap.size + 1 + 1, 0, none⟩ (.iface T2 p2)).setCell ⟨w.heap.size + 3, 0, none⟩ (.bool true)).setCell ⟨w.heap.size + 1, 0, none⟩ (.string ⟨#[]⟩)).cell? ⟨w.heap.size + 1, 0, none⟩ = some (.string ⟨#[]⟩) := by go_simp
    simp [bodyPost, results, Tryz.results11, go_sem, gf]
    exact hbw
  · have hd2 : Calls Tryz.prog 21 #[.func (.func 24) #[] #[.pointer (some ⟨w.heap.size, 0, none⟩), .pointer (some ⟨w.heap.size + 1, 0, none⟩), .pointer (some ⟨w.heap.size + 1 + 1, 0, none⟩)]] w3 fun e w' => e = .returned (.bool true) ∧
        ∃ w2, w' = ((w2.setCell ⟨w.heap.size + 1, 0, none⟩ (.string S)).setCell ⟨w.heap.size + 1 + 1, 0, none⟩ .nilIface).setCell ⟨w3.heap.size, 0, none⟩ (.bool true) ∧ Below w3.heap.size w3 w2 := hd.mono fun e w' ⟨h0, ev, w2, h1, h2, _, h4⟩ => by
      obtain rfl := h2 hB
      exact ⟨h0, w2, h1, h4⟩
    clear hd hS hB hno
    go_enter Tryz.func11, Tryz.ntmps11
    go_wp2_with
      (go_at_call 21; refine Calls.mono (by with_reducible exact hd2) ?_; rintro e w4 ⟨rfl, w2, rfl, hb2⟩
       have g1 := (below_cell hb2 (a := ⟨w.heap.size + 1, 0, none⟩) t1).trans c1
       have g2 := (below_cell hb2 (a := ⟨w.heap.size + 1 + 1, 0, none⟩) t2).trans c2
       have k1 := (World.frozen?_of_block (a := ⟨w.heap.size + 1, 0, none⟩) (hb2.block (w.heap.size + 1) t1)).trans f1
       have k2 := (World.frozen?_of_block (a := ⟨w.heap.size + 1 + 1, 0, none⟩) (hb2.block (w.heap.size + 1 + 1) t2)).trans f2
       have HB : Hid (Below w.heap.size w w2) := hb3.trans (hb2.mono hb3.size)
       clear hb2)
    have q1 : w.heap.size ≤ w.heap.size + 1 := by omega
    have q2 : w.heap.size ≤ w.heap.size + 1 + 1 := by omega
    have q3 : w.heap.size ≤ w.heap.size + 3 := by omega
    have hbw := (((HB.out.setCell (p := ⟨w.heap.size + 1, 0, none⟩) q1 (.string S)).setCell (p := ⟨w.heap.size + 1 + 1, 0, none⟩) q2 .nilIface).setCell (p := ⟨w.heap.size + 3, 0, none⟩) q3 (.bool true)).setCell (p := ⟨w.heap.size + 1, 0, none⟩) q1 (.string S)
    have gf : ((((w2.setCell ⟨w.heap.size + 1, 0, none⟩ (.string S)).setCell ⟨w.heap.size + 1 + 1, 0, none⟩ .nilIface).setCell ⟨w.heap.size + 3, 0, none⟩ (.bool true)).setCell ⟨w.heap.size + 1, 0, none⟩ (.string S)).cell? ⟨w.heap.size + 1, 0, none⟩ = some (.string S) := by go_simp
    simp [bodyPost, results, Tryz.results11, go_sem, gf]
    exact hbw

end Go.Proofs.YtgemkjickljedaaGreatDoor
