/- What the closure of impl.ReadTrailer and impl.calm round it leave. Conditions: which keys are there is told ahead. -/
import Derived.Test.YtnpedhdonfdbmaaDoorPC
namespace Go.Proofs.YtnpedhdonfdbmaaDoor
open Go.ChangeShapes Go.WideShapes Go.ChangeAt Go.RowKit Go.Sort

theorem zz_any (w : World) (B X : Nat) (es : Array MapEntry) (c : Nat) (sz rt nf : Int) (hb : w.heap[B]? = some (.map es c)) (hm : Mp es c sz rt nf) (hT : TS X (.pointer none) (.pointer none) (.pointer none) w) (hBX : ¬ B = X) :
    Calls Tryd.prog 22 #[.pointer (some ⟨X, 0, none⟩), .map (some B)] w fun e w' => e = .returned .nilIface ∧ TrQ X sz rt nf w w' := by
  have h := parse_any w B X es c sz rt nf hb hm hT hBX
  clear hb hm hT hBX
  generalize TrQ X sz rt nf w = Q at h ⊢
  go_enter Tryd.func22, Tryd.ntmps22
  go_wp2_with (go_at_call 39; refine Calls.mono (by with_reducible exact h) ?_; rintro e w1 ⟨rfl, hq⟩)
  go_ret
  exact ⟨rfl, hq⟩

/-- What the closure leaves: no error, and what has been read. -/
def CrQ (X b : Nat) (sz rt nf : Int) (w w' : World) : Prop :=
  ∃ S R vI, w.heap.size ≤ S ∧ w.heap.size ≤ R ∧ w'.cell? ⟨S, 0, none⟩ = some (.int .i64 sz) ∧ w'.cell? ⟨R, 0, none⟩ = some (.int .i64 rt) ∧ w'.cell? ⟨R, 1, none⟩ = some (.int .i64 0) ∧
    TS X (.pointer (some ⟨S, 0, none⟩)) (.pointer (some ⟨R, 0, none⟩)) vI w' ∧ Rf w.heap.size nf vI w' ∧ w'.cell? ⟨b, 0, none⟩ = some .nilIface ∧ Bt X b w w'

theorem TS.other {X : Nat} {vS vR vI : Value} {w : World} (h : TS X vS vR vI w) {b : Nat} (hb : ¬ b = X) (v : Value) : TS X vS vR vI (w.setCell ⟨b, 0, none⟩ v) := by
  have hk : ∀ o, (w.setCell ⟨b, 0, none⟩ v).cell? ⟨X, o, none⟩ = w.cell? ⟨X, o, none⟩ := fun o => World.cell?_of_block (a := ⟨X, o, none⟩) (Below.heap_setCell _ ⟨b, 0, none⟩ _ _ (fun e => hb e.symm))
  have hf : ∀ o, (w.setCell ⟨b, 0, none⟩ v).frozen? ⟨X, o, none⟩ = w.frozen? ⟨X, o, none⟩ := fun o => World.frozen?_of_block (a := ⟨X, o, none⟩) (Below.heap_setCell _ ⟨b, 0, none⟩ _ _ (fun e => hb e.symm))
  exact ⟨(hk _).trans h.c1, (hk _).trans h.c3, (hk _).trans h.c5, (hk _).trans h.c6, (hk _).trans h.c7, (hf _).trans h.f1, (hf _).trans h.f3, (hf _).trans h.f7⟩
theorem set_other {w : World} {b : Nat} {a : Addr} {v u : Value} (h : w.cell? a = some u) (hb : ¬ a.block = b) : (w.setCell ⟨b, 0, none⟩ v).cell? a = some u :=
  (World.cell?_of_block (Below.heap_setCell _ ⟨b, 0, none⟩ _ _ hb)).trans h
theorem Rf.set {N b : Nat} {n : Int} {v u : Value} {w : World} (h : Rf N n v w) (hb : b < N) : Rf N n v (w.setCell ⟨b, 0, none⟩ u) := by
  rcases h with h | ⟨I, h1, h2, h3, h4, h5⟩
  · exact .inl h
  · exact .inr ⟨I, h1, h2, h3, set_other h4 (by show ¬ I = b; omega), set_other h5 (by show ¬ I = b; omega)⟩
theorem Rf.le {N M : Nat} {n : Int} {v : Value} {w : World} (h : Rf N n v w) (hb : M ≤ N) : Rf M n v w := by
  rcases h with h | ⟨I, h1, h2, h3, h4, h5⟩
  · exact .inl h
  · exact .inr ⟨I, by omega, h2, h3, h4, h5⟩

set_option maxHeartbeats 1000000 in
set_option maxRecDepth 100000 in
theorem shut21 (w : World) (a d b B X : Nat) (es : Array MapEntry) (c : Nat) (sz rt nf : Int) (x : Value) (hb : w.heap[B]? = some (.map es c)) (hm : Mp es c sz rt nf) (hT : TS X (.pointer none) (.pointer none) (.pointer none) w) (hBX : ¬ B = X)
    (ha : w.cell? ⟨a, 0, none⟩ = some (.pointer (some ⟨X, 0, none⟩))) (hd : w.cell? ⟨d, 0, none⟩ = some (.map (some B))) (he : w.cell? ⟨b, 0, none⟩ = some x) (z : w.frozen? ⟨b, 0, none⟩ = false) (hbX : ¬ b = X) :
    Calls Tryd.prog 21 #[.pointer (some ⟨a, 0, none⟩), .pointer (some ⟨d, 0, none⟩), .pointer (some ⟨b, 0, none⟩)] w fun e w' => e = .returned (.tuple #[]) ∧ CrQ X b sz rt nf w w' := by
  have h := zz_any w B X es c sz rt nf hb hm hT hBX
  have lb := block_lt_of_cell he
  clear hb hm hT hBX
  go_enter Tryd.func21, Tryd.ntmps21
  go_wp2_with (go_at_call 22; refine Calls.mono (by with_reducible exact h) ?_; rintro e w1 ⟨rfl, S, R, vI, s1, r1, s2, r2, r3, t1, i1, b1⟩
               have g1 := bt_cell b1 he (by show ¬ b = X; omega)
               have g2 := (World.frozen?_of_block (a := ⟨b, 0, none⟩) (b1.block b lb hbX hbX)).trans z
               have H1 := Lib.hid (And.intro t1 (And.intro i1 (And.intro b1 (And.intro s2 (And.intro r2 r3)))))
               clear t1 i1 b1 s2 r2 r3 h)
  go_end0
  have bb : Bt X b w w1 := ⟨H1.out.2.2.1.os, H1.out.2.2.1.tape, H1.out.2.2.1.output, H1.out.2.2.1.size, fun k hk h1 _ => H1.out.2.2.1.block k hk h1 h1⟩
  exact ⟨rfl, S, R, vI, s1, r1, set_other H1.out.2.2.2.1 (by show ¬ S = b; omega), set_other H1.out.2.2.2.2.1 (by show ¬ R = b; omega), set_other H1.out.2.2.2.2.2 (by show ¬ R = b; omega), H1.out.1.other hbX _, H1.out.2.1.set lb, by go_simp, bb.setc _ 0⟩

set_option maxHeartbeats 1000000 in
set_option maxRecDepth 100000 in
theorem calm21 (w : World) (a d b B X : Nat) (es : Array MapEntry) (c : Nat) (sz rt nf : Int) (x : Value) (hb : w.heap[B]? = some (.map es c)) (hm : Mp es c sz rt nf) (hT : TS X (.pointer none) (.pointer none) (.pointer none) w) (hBX : ¬ B = X)
    (ha : w.cell? ⟨a, 0, none⟩ = some (.pointer (some ⟨X, 0, none⟩))) (hd : w.cell? ⟨d, 0, none⟩ = some (.map (some B))) (he : w.cell? ⟨b, 0, none⟩ = some x) (z : w.frozen? ⟨b, 0, none⟩ = false) (hbX : ¬ b = X) :
    Calls Tryd.prog 20 #[.func (.func 21) #[] #[.pointer (some ⟨a, 0, none⟩), .pointer (some ⟨d, 0, none⟩), .pointer (some ⟨b, 0, none⟩)]] w fun e w' => e = .returned (.bool true) ∧ CrQ X b sz rt nf w w' := by
  have hmf : ∀ (fn : Fn) (first cap : Array Value) (w : World), (Instr.makeFunc fn first cap).run Tryd.prog w = .ok (.func fn first cap) w := fun _ _ _ _ => rfl
  have la : a < w.heap.size := block_lt_of_cell ha
  have ld : d < w.heap.size := block_lt_of_cell hd
  have lb : b < w.heap.size := block_lt_of_cell he
  have lX := hT.lt
  have lB := (Array.getElem?_eq_some_iff.1 hb).1
  have hnc : (w.alloc (.cells #[.bool false] 4)).cell? ⟨w.heap.size, 0, none⟩ = some (.bool false) := by go_simp
  have hnf : (w.alloc (.cells #[.bool false] 4)).frozen? ⟨w.heap.size, 0, none⟩ = false := by go_simp
  obtain ⟨w1, hw1⟩ : ∃ w1, w.alloc (.cells #[.bool false] 4) = w1 := ⟨_, rfl⟩
  have hb1 : Below w.heap.size w w1 := by rw [← hw1]; exact below_al (Below.refl _ _) _
  have hs := shut21 w1 a d b B X es c sz rt nf x ((hb1.block B lB).trans hb) hm (hT.below hb1) hBX ((below_cells hb1 a 0 la).trans ha) ((below_cells hb1 d 0 ld).trans hd) ((below_cells hb1 b 0 lb).trans he) ((World.frozen?_of_block (a := ⟨b, 0, none⟩) (hb1.block b lb)).trans z) hbX
  rw [hw1] at hnc hnf
  have hns : w.heap.size < w1.heap.size := by rw [← hw1]; simp
  have hnb : ¬ w.heap.size = b := by omega
  have hnX : ¬ w.heap.size = X := by omega
  clear hb hm hT ha hd he z
  go_enter_defers Tryd.func20, Tryd.ntmps20
  go_wp2_with
    (go_at_call 21; refine Calls.mono (by with_reducible exact hs) ?_; rintro e w3 ⟨rfl, S, R, vI, s1, r1, s2, r2, r3, t1, i1, v1, b1⟩
     have g1 := (World.cell?_of_block (a := ⟨w.heap.size, 0, none⟩) (b1.block w.heap.size hns hnX hnb)).trans hnc
     have k1 := (World.frozen?_of_block (a := ⟨w.heap.size, 0, none⟩) (b1.block w.heap.size hns hnX hnb)).trans hnf
     have H1 := Lib.hid (And.intro t1 (And.intro i1 (And.intro b1 (And.intro s2 (And.intro r2 (And.intro r3 v1))))))
     clear t1 i1 b1 s2 r2 r3 v1 hs)
  refine leaves_cons (f := 38) (args := #[.pointer (some ⟨w.heap.size, 0, none⟩)]) (by simp) (by simp [go_sem]) ?_
  refine (calm_idle ⟨w.heap.size, 0, none⟩ _).mono ?_
  rintro e u' w'' ⟨rfl, rfl, rfl⟩
  have gf : (w3.setCell ⟨w.heap.size, 0, none⟩ (.bool true)).cell? ⟨w.heap.size, 0, none⟩ = some (.bool true) := by
    go_simp
  simp [Leaves, settle, results, Tryd.results20, go_sem, gf]
  obtain ⟨t1, i1, b1, s2, r2, r3, v1⟩ := H1.out
  exact ⟨S, R, vI, by omega, by omega, set_other s2 (by show ¬ S = _; omega), set_other r2 (by show ¬ R = _; omega), set_other r3 (by show ¬ R = _; omega), t1.other hnX _, (i1.set hns).le (by omega), set_other v1 (fun e => hnb e.symm),
    b1.os.trans hb1.os, b1.tape.trans hb1.tape, b1.output.trans hb1.output, by have := b1.size; simp; omega, fun k hk q1 q2 => (Below.heap_setCell _ ⟨w.heap.size, 0, none⟩ _ _ (by simp; omega)).trans ((b1.block k (by omega) q1 q2).trans (hb1.block k hk))⟩

end Go.Proofs.YtnpedhdonfdbmaaDoor
