/- What the closure of impl.objectStream, impl.calm round it, impl.objectStream and impl.ObjectStream answer. Conditions: impl.dict's answer is told ahead. -/
import Derived.Test.YtnpedhdonfdbmaaDoorOE
import Derived.Defers
import Derived.Recover
namespace Go.Proofs.YtnpedhdonfdbmaaDoor
open Go.ChangeShapes Go.WideShapes Go.ChangeAt Go.RowKit Go.Sort

/-- Only blocks b and c, and new ones, have turned. -/
structure Bt (b c : Nat) (w w' : World) : Prop where
  os : w'.os = w.os
  tape : w'.tape = w.tape
  output : w'.output = w.output
  size : w.heap.size ≤ w'.heap.size
  block : ∀ k, k < w.heap.size → k ≠ b → k ≠ c → w'.heap[k]? = w.heap[k]?
theorem Bt.of {b c : Nat} {w w' : World} (h : Below w.heap.size w w') : Bt b c w w' := ⟨h.os, h.tape, h.output, h.size, fun k hk _ _ => h.block k hk⟩
theorem Bt.refl {b c : Nat} {w : World} : Bt b c w w := Bt.of (Below.refl _ _)
theorem Bt.setb {b c : Nat} {w w' : World} (h : Bt b c w w') (v : Value) (o : Nat) : Bt b c w (w'.setCell ⟨b, o, none⟩ v) :=
  ⟨h.os, h.tape, h.output, by simpa using h.size, fun k hk h1 h2 => (Below.heap_setCell _ ⟨b, o, none⟩ _ _ h1).trans (h.block k hk h1 h2)⟩
theorem Bt.setc {b c : Nat} {w w' : World} (h : Bt b c w w') (v : Value) (o : Nat) : Bt b c w (w'.setCell ⟨c, o, none⟩ v) :=
  ⟨h.os, h.tape, h.output, by simpa using h.size, fun k hk h1 h2 => (Below.heap_setCell _ ⟨c, o, none⟩ _ _ h2).trans (h.block k hk h1 h2)⟩
theorem Bt.below {b c M : Nat} {w w' : World} (h : Bt b c w w') (h1 : M ≤ b) (h2 : M ≤ c) (h3 : M ≤ w.heap.size) : Below M w w' :=
  ⟨h.os, h.tape, h.output, h.size, fun k hk => h.block k (by omega) (by omega) (by omega)⟩

/-- What an object stream's reader leaves. -/
def CQ (b c : Nat) (n f : Int) (w w' : World) : Prop :=
  ∃ o, w.heap.size ≤ o ∧ o < w'.heap.size ∧ w'.cell? ⟨b, 0, none⟩ = some (.pointer (some ⟨o, 0, none⟩)) ∧ w'.frozen? ⟨b, 0, none⟩ = false ∧ w'.cell? ⟨c, 0, none⟩ = some .nilIface ∧
    w'.cell? ⟨o, 9, none⟩ = some (.slice none 0 0) ∧ w'.cell? ⟨o, 10, none⟩ = some (.int .i64 n) ∧ w'.cell? ⟨o, 11, none⟩ = some (.int .i64 f) ∧ Bt b c w w'

set_option maxHeartbeats 4000000 in
set_option maxRecDepth 100000 in
theorem shut34 (a b c S B : Nat) (es : Array MapEntry) (cl i j : Nat) (p : Option Addr) (m k : Nat) (n f : Int) (x y : Value) (w : World) (hs : Sd S B es cl p m k w)
    (hf : Instr.findNow .string (.string ⟨#[70, 105, 114, 115, 116]⟩) es.toList 0 = some (some (i, .iface 107 (.int .i64 f))))
    (hn : Instr.findNow .string (.string ⟨#[78]⟩) es.toList 0 = some (some (j, .iface 107 (.int .i64 n))))
    (n1 : 1 ≤ n) (n2 : n ≤ 1000) (f1 : 0 ≤ f) (f2 : f ≤ 4096)
    (ha : w.cell? ⟨a, 0, none⟩ = some (.pointer (some ⟨S, 0, none⟩))) (hb : w.cell? ⟨b, 0, none⟩ = some x) (hc : w.cell? ⟨c, 0, none⟩ = some y) (hab : ¬ a = b) (hac : ¬ a = c) (hbc : ¬ b = c)
    (z1 : w.frozen? ⟨b, 0, none⟩ = false) (z2 : w.frozen? ⟨c, 0, none⟩ = false) :
    Calls Tryd.prog 34 #[.pointer (some ⟨a, 0, none⟩), .pointer (some ⟨b, 0, none⟩), .pointer (some ⟨c, 0, none⟩)] w fun e w' => e = .returned (.tuple #[]) ∧ CQ b c n f w w' := by
  have la : a < w.heap.size := block_lt_of_cell ha
  have lb : b < w.heap.size := block_lt_of_cell hb
  have lc : c < w.heap.size := block_lt_of_cell hc
  have HO : Hid (∀ w', Below w.heap.size w w' → Calls Tryd.prog 35 #[.pointer (some ⟨S, 0, none⟩), .agg #[.int .i64 536870912, .int .i64 536870912, .int .i64 104857600, .int .i64 536870912, .int .i64 65536, .int .i64 65536, .int .i64 16777216, .int .i64 65536, .int .i64 100]] w' (OsdQ w' n f)) := fun w' bw => by
    have h := hs.below bw
    exact osd_any w' B S es cl i j n f p m k h.map hf hn h.h0 h.h1 h.h2 h.h3 h.h4 h.h5 h.h6 h.h7 h.h8 n1 n2 f1 f2
  have hL := fun w => limits1 w
  have HK : Hid (∀ w', Below w.heap.size w w' → w'.cell? ⟨a, 0, none⟩ = some (.pointer (some ⟨S, 0, none⟩)) ∧ w'.cell? ⟨b, 0, none⟩ = some x ∧ w'.cell? ⟨c, 0, none⟩ = some y ∧ w'.frozen? ⟨b, 0, none⟩ = false ∧ w'.frozen? ⟨c, 0, none⟩ = false) := fun w' bw =>
    ⟨(below_cells bw a 0 la).trans ha, (below_cells bw b 0 lb).trans hb, (below_cells bw c 0 lc).trans hc, (World.frozen?_of_block (a := ⟨b, 0, none⟩) (bw.block b lb)).trans z1, (World.frozen?_of_block (a := ⟨c, 0, none⟩) (bw.block c lc)).trans z2⟩
  clear hs hf hn n1 n2 f1 f2 hb hc z1 z2
  go_enter Tryd.func34, Tryd.ntmps34
  go_region_held3 (fun w' => w'.cell? ⟨a, 0, none⟩ = some (.pointer (some ⟨S, 0, none⟩))) (first | go_keep | assumption | go_simp)
    (first
      | (go_at_call 36; refine Calls.mono (by with_reducible exact hL _) ?_; rintro e w1 ⟨rfl, b1⟩
         have B1 : Hid (Below w.heap.size w w1) := (below_dr (Below.refl _ _)).trans b1
         have g1 := (HK.out _ B1.out).1
         clear b1)
      | (go_at_call 35; refine Calls.mono (by with_reducible exact HO.out _ B1.out) ?_; rintro e w2 ⟨o, rfl, o1, o2, o3, o4, o5, b2⟩
         have B2 : Hid (Below w.heap.size w w2) := B1.out.trans (b2.mono B1.out.size)
         have s2 := b2.size
         obtain ⟨g2, g3, g4, g5, g6⟩ := HK.out _ B2.out
         have lo : w.heap.size ≤ o := Nat.le_trans B1.out.size o1
         clear b2))
  go_end0
  refine ⟨rfl, o, lo, by simpa using o2, ?_, ?_, ?_, ?_, ?_, ?_, ((Bt.of B2.out).setb _ 0).setc _ 0⟩ <;> go_simp

/-- calm's deferred closure, of a frame that returns. -/
theorem calm_idle (p : Addr) (w : World) :
    CallsD Tryd.prog 38 #[.pointer (some p)] .returning w fun e u' w' => e = .returned (.tuple #[]) ∧ u' = .returning ∧ w' = w := by
  refine callsD_of_wpS Tryd.func38 rfl fun c₀ cs hu => ?_
  apply wpS_seq
  apply wpS_region
  simp [wpOpsS, go_sem, recoverD, hu, Tryd.ntmps38, Exit.thenS]
  refine wpS_cond (t := false) (by simp [Act.eval, Array.replicate]) ?_
  simp only [Bool.false_eq_true, if_false]
  refine wpS_of_wp (wp_skip ?_)
  cases c₀
  simp_all [bodyPostS, results, Tryd.results38]

set_option maxHeartbeats 4000000 in
set_option maxRecDepth 100000 in
theorem calm34 (a b c S B : Nat) (es : Array MapEntry) (cl i j : Nat) (p : Option Addr) (m k : Nat) (n f : Int) (x y : Value) (w : World) (hs : Sd S B es cl p m k w)
    (hf : Instr.findNow .string (.string ⟨#[70, 105, 114, 115, 116]⟩) es.toList 0 = some (some (i, .iface 107 (.int .i64 f))))
    (hn : Instr.findNow .string (.string ⟨#[78]⟩) es.toList 0 = some (some (j, .iface 107 (.int .i64 n))))
    (n1 : 1 ≤ n) (n2 : n ≤ 1000) (f1 : 0 ≤ f) (f2 : f ≤ 4096)
    (ha : w.cell? ⟨a, 0, none⟩ = some (.pointer (some ⟨S, 0, none⟩))) (hb : w.cell? ⟨b, 0, none⟩ = some x) (hc : w.cell? ⟨c, 0, none⟩ = some y) (hab : ¬ a = b) (hac : ¬ a = c) (hbc : ¬ b = c)
    (z1 : w.frozen? ⟨b, 0, none⟩ = false) (z2 : w.frozen? ⟨c, 0, none⟩ = false) :
    Calls Tryd.prog 20 #[.func (.func 34) #[] #[.pointer (some ⟨a, 0, none⟩), .pointer (some ⟨b, 0, none⟩), .pointer (some ⟨c, 0, none⟩)]] w fun e w' => e = .returned (.bool true) ∧ CQ b c n f w w' := by
  have hmf : ∀ (fn : Fn) (first cap : Array Value) (w : World), (Instr.makeFunc fn first cap).run Tryd.prog w = .ok (.func fn first cap) w := fun _ _ _ _ => rfl
  have la : a < w.heap.size := block_lt_of_cell ha
  have lb : b < w.heap.size := block_lt_of_cell hb
  have lc : c < w.heap.size := block_lt_of_cell hc
  have hnc : (w.alloc (.cells #[.bool false] 4)).cell? ⟨w.heap.size, 0, none⟩ = some (.bool false) := by go_simp
  have hnf : (w.alloc (.cells #[.bool false] 4)).frozen? ⟨w.heap.size, 0, none⟩ = false := by go_simp
  obtain ⟨w1, hw1⟩ : ∃ w1, w.alloc (.cells #[.bool false] 4) = w1 := ⟨_, rfl⟩
  have hb1 : Below w.heap.size w w1 := by rw [← hw1]; exact below_al (Below.refl _ _) _
  have hd := shut34 a b c S B es cl i j p m k n f x y w1 (hs.below hb1) hf hn n1 n2 f1 f2 ((below_cells hb1 a 0 la).trans ha) ((below_cells hb1 b 0 lb).trans hb) ((below_cells hb1 c 0 lc).trans hc) hab hac hbc
    ((World.frozen?_of_block (a := ⟨b, 0, none⟩) (hb1.block b lb)).trans z1) ((World.frozen?_of_block (a := ⟨c, 0, none⟩) (hb1.block c lc)).trans z2)
  rw [hw1] at hnc hnf
  have hns : w.heap.size < w1.heap.size := by rw [← hw1]; simp
  have hnb : ¬ w.heap.size = b := by omega
  have hnc2 : ¬ w.heap.size = c := by omega
  clear hs hf hn n1 n2 f1 f2 hb hc z1 z2 ha
  go_enter_defers Tryd.func20, Tryd.ntmps20
  go_wp2_with
    (go_at_call 34; refine Calls.mono (by with_reducible exact hd) ?_; rintro e w3 ⟨rfl, o, e1, e2, e3, e4, e5, e6, e7, e8, e9⟩
     have g1 := (World.cell?_of_block (a := ⟨w.heap.size, 0, none⟩) (e9.block w.heap.size hns hnb hnc2)).trans hnc
     have k1 := (World.frozen?_of_block (a := ⟨w.heap.size, 0, none⟩) (e9.block w.heap.size hns hnb hnc2)).trans hnf
     have hno : ¬ w.heap.size = o := by omega
     have HA : Hid (w.heap.size ≤ o ∧ Bt b c w w3) := ⟨by omega, e9.os.trans hb1.os, e9.tape.trans hb1.tape, e9.output.trans hb1.output, Nat.le_trans hb1.size e9.size, fun k hk h1 h2 => (e9.block k (by omega) h1 h2).trans (hb1.block k hk)⟩
     clear e1 e9)
  refine leaves_cons (f := 38) (args := #[.pointer (some ⟨w.heap.size, 0, none⟩)]) (by simp) (by simp [go_sem]) ?_
  refine (calm_idle ⟨w.heap.size, 0, none⟩ _).mono ?_
  rintro e u' w'' ⟨rfl, rfl, rfl⟩
  have gf : (w3.setCell ⟨w.heap.size, 0, none⟩ (.bool true)).cell? ⟨w.heap.size, 0, none⟩ = some (.bool true) := by
    go_simp
  simp [Leaves, settle, results, Tryd.results20, go_sem, gf]
  refine ⟨o, HA.out.1, by simpa using e2, ?_, ?_, ?_, ?_, ?_, ?_, ?_⟩
  · go_simp
  · go_simp
  · go_simp
  · go_simp
  · go_simp
  · go_simp
  · obtain ⟨-, h1, h2, h3, h4, h5⟩ := HA.out
    exact ⟨h1, h2, h3, by simpa using h4, fun k hk q1 q2 => (Below.heap_setCell _ ⟨w.heap.size, 0, none⟩ _ _ (by simp; omega)).trans (h5 k hk q1 q2)⟩

end Go.Proofs.YtnpedhdonfdbmaaDoor
