/- What the reader of a trailer leaves, through impl.calm. Conditions: which keys are there is told ahead. -/
import Derived.Test.YtnpedhdonfdbmaaDoorPB
namespace Go.Proofs.YtnpedhdonfdbmaaDoor
open Go.ChangeShapes Go.WideShapes Go.ChangeAt Go.RowKit Go.Sort

/-- The entries of a trailer's dictionary. -/
structure Mp (es : Array MapEntry) (c : Nat) (sz rt nf : Int) : Prop where
  size : ∃ i, Instr.findNow .string (.string ⟨#[83, 105, 122, 101]⟩) es.toList 0 = some (some (i, .iface 107 (.int .i64 sz)))
  root : ∃ i, Instr.findNow .string (.string ⟨#[82, 111, 111, 116]⟩) es.toList 0 = some (some (i, .iface 109 (.agg #[.int .i64 rt, .int .i64 0])))
  info : (nf = 0 ∧ Miss es c ⟨#[73, 110, 102, 111]⟩) ∨ (0 < nf ∧ ∃ i, Instr.findNow .string (.string ⟨#[73, 110, 102, 111]⟩) es.toList 0 = some (some (i, .iface 109 (.agg #[.int .i64 nf, .int .i64 0]))))
  encrypt : Miss es c ⟨#[69, 110, 99, 114, 121, 112, 116]⟩
  id : Miss es c ⟨#[73, 68]⟩

/-- A pointer to a reference, or none. -/
def Rf (N : Nat) (n : Int) (v : Value) (w : World) : Prop := (n = 0 ∧ v = .pointer none) ∨ ∃ I, N ≤ I ∧ v = .pointer (some ⟨I, 0, none⟩) ∧ 0 < n ∧ w.cell? ⟨I, 0, none⟩ = some (.int .i64 n) ∧ w.cell? ⟨I, 1, none⟩ = some (.int .i64 0)
theorem bt_cell {X : Nat} {w w' : World} (b : Bt X X w w') {a : Addr} {v : Value} (h : w.cell? a = some v) (hn : ¬ a.block = X) : w'.cell? a = some v :=
  (World.cell?_of_block (b.block a.block (World.block_lt_of_cell? w a h) hn hn)).trans h
theorem Rf.kept {N X : Nat} {n : Int} {v : Value} {w w' : World} (h : Rf N n v w) (b : Bt X X w w') (hX : X < N) : Rf N n v w' := by
  rcases h with h | ⟨I, h1, h2, h3, h4, h5⟩
  · exact .inl h
  · exact .inr ⟨I, h1, h2, h3, bt_cell b h4 (by show ¬ I = X; omega), bt_cell b h5 (by show ¬ I = X; omega)⟩

/-- What has been read of a trailer. -/
def TrQ (X : Nat) (sz rt nf : Int) (w w' : World) : Prop :=
  ∃ S R vI, w.heap.size ≤ S ∧ w.heap.size ≤ R ∧ w'.cell? ⟨S, 0, none⟩ = some (.int .i64 sz) ∧ w'.cell? ⟨R, 0, none⟩ = some (.int .i64 rt) ∧ w'.cell? ⟨R, 1, none⟩ = some (.int .i64 0) ∧
    TS X (.pointer (some ⟨S, 0, none⟩)) (.pointer (some ⟨R, 0, none⟩)) vI w' ∧ Rf w.heap.size nf vI w' ∧ Bt X X w w'

theorem eql70 (w : World) : (binOp BinOp.eql 70 (.slice none 0 0) (.slice none 0 0)).run Tryd.prog w = .ok (.bool true) w := by kernel_rfl

set_option maxHeartbeats 1000000 in
set_option maxRecDepth 100000 in
theorem parse_any (w : World) (B X : Nat) (es : Array MapEntry) (c : Nat) (sz rt nf : Int) (hb : w.heap[B]? = some (.map es c)) (hm : Mp es c sz rt nf) (hT : TS X (.pointer none) (.pointer none) (.pointer none) w) (hBX : ¬ B = X) :
    Calls Tryd.prog 39 #[.pointer (some ⟨X, 0, none⟩), .map (some B)] w fun e w' => e = .returned .nilIface ∧ TrQ X sz rt nf w w' := by
  obtain ⟨⟨i1, h1⟩, ⟨i2, h2⟩, h3, h4, h5⟩ := hm
  have lB := (Array.getElem?_eq_some_iff.1 hb).1
  have lX := hT.lt
  have HBm : Hid (∀ w', Bt X X w w' → w'.heap[B]? = some (.map es c)) := fun w' b => (b.block B lB hBX hBX).trans hb
  have q1 := ref_miss w B es c _ hb h4
  have HS : Hid (∀ w' vS vR vI, Bt X X w w' → TS X vS vR vI w' → Calls Tryd.prog 58 #[.pointer (some ⟨X, 0, none⟩), .map (some B)] w' fun e w'' => e = .returned .nilIface ∧ ∃ S, w'.heap.size ≤ S ∧ w''.cell? ⟨S, 0, none⟩ = some (.int .i64 sz) ∧ TS X (.pointer (some ⟨S, 0, none⟩)) vR vI w'' ∧ Bt X X w' w'') := fun w' vS vR vI b t => psize w' B X es c i1 sz vS vR vI (HBm.out w' b) h1 t
  have HR : Hid (∀ w' vS vR vI, Bt X X w w' → TS X vS vR vI w' → Calls Tryd.prog 59 #[.pointer (some ⟨X, 0, none⟩), .map (some B)] w' fun e w'' => e = .returned .nilIface ∧ ∃ S, w'.heap.size ≤ S ∧ w''.cell? ⟨S, 0, none⟩ = some (.int .i64 rt) ∧ w''.cell? ⟨S, 1, none⟩ = some (.int .i64 0) ∧ TS X vS (.pointer (some ⟨S, 0, none⟩)) vI w'' ∧ Bt X X w' w'') := fun w' vS vR vI b t => proot w' B X es c i2 rt vS vR vI (HBm.out w' b) h2 t
  have HI : Hid (∀ w' vS vR, Bt X X w w' → TS X vS vR (.pointer none) w' → Calls Tryd.prog 60 #[.pointer (some ⟨X, 0, none⟩), .map (some B)] w' fun e w'' => e = .returned .nilIface ∧ ∃ vI, TS X vS vR vI w'' ∧ Rf w.heap.size nf vI w'' ∧ Bt X X w' w'') := fun w' vS vR b t => by
    rcases h3 with ⟨h6, h7⟩ | ⟨h6, i3, h7⟩
    · exact (pinfo_no w' B X es c (HBm.out w' b) h7).mono fun e w'' ⟨h8, h9⟩ => ⟨h8, _, t.below h9, .inl ⟨h6, rfl⟩, Bt.of h9⟩
    · exact (pinfo w' B X es c i3 nf vS vR _ (HBm.out w' b) h7 t).mono fun e w'' ⟨h8, S, g1, g2, g3, g4, g5⟩ => ⟨h8, _, g4, .inr ⟨S, by have := b.size; omega, rfl, h6, g2, g3⟩, g5⟩
  have HD : Hid (∀ w' vS vR vI, Bt X X w w' → TS X vS vR vI w' → Calls Tryd.prog 61 #[.pointer (some ⟨X, 0, none⟩), .map (some B)] w' fun e w'' => e = .returned .nilIface ∧ Below w'.heap.size w' w'') := fun w' vS vR vI b t => pid w' B X es c (HBm.out w' b) h5 vS vR vI t
  have HT := Lib.hid hT
  clear hb h1 h2 h3 h4 h5 hT lB HBm
  have h70 := eql70
  go_enter Tryd.func39, Tryd.ntmps39
  go_wp2_with (fail)
  refine Calls.mono (by with_reducible exact q1) ?_
  rintro e w1 ⟨rfl, b1⟩
  have t1 := HT.out.below b1
  have H1 := Lib.hid (And.intro t1 (Bt.of (b := X) (c := X) b1))
  obtain ⟨c1, c3, c5, c6, c7, f1, f3, f7⟩ := t1
  clear b1 q1
  go_wp2_with (fail)
  refine Calls.mono (by with_reducible exact HS.out _ _ _ _ H1.out.2 H1.out.1) ?_
  rintro e w2 ⟨rfl, S, s1, s2, t2, b2⟩
  have H2 := Lib.hid (And.intro t2 (And.intro (H1.out.2.trans b2) (And.intro s1 s2)))
  clear c1 c3 c5 c6 c7 f1 f3 f7 b2 s1 s2
  obtain ⟨c1, c3, c5, c6, c7, f1, f3, f7⟩ := t2
  go_wp2_with (fail)
  refine Calls.mono (by with_reducible exact HR.out _ _ _ _ H2.out.2.1 H2.out.1) ?_
  rintro e w3 ⟨rfl, R, r1, r2, r3, t3, b3⟩
  have H3 := Lib.hid (And.intro t3 (And.intro (H2.out.2.1.trans b3) (And.intro b3 (And.intro r1 (And.intro r2 r3)))))
  clear c1 c3 c5 c6 c7 f1 f3 f7 b3 r1 r2 r3
  obtain ⟨c1, c3, c5, c6, c7, f1, f3, f7⟩ := t3
  go_wp2_with (fail)
  refine Calls.mono (by with_reducible exact HI.out _ _ _ H3.out.2.1 H3.out.1) ?_
  rintro e w4 ⟨rfl, vI, t4, i4, b4⟩
  have H4 := Lib.hid (And.intro t4 (And.intro (H3.out.2.1.trans b4) (And.intro b4 i4)))
  clear c1 c3 c5 c6 c7 f1 f3 f7 b4 i4
  obtain ⟨c1, c3, c5, c6, c7, f1, f3, f7⟩ := t4
  go_wp2_with (fail)
  refine Calls.mono (by with_reducible exact HD.out _ _ _ _ H4.out.2.1 H4.out.1) ?_
  rintro e w5 ⟨rfl, b5⟩
  have H5 := Lib.hid (And.intro (H4.out.1.below b5) (Bt.of (b := X) (c := X) b5))
  clear c1 c3 c5 c6 c7 f1 f3 f7 b5
  go_wp2_with (fail)
  go_ret
  have z1 := H1.out.2.size
  have z2 := H2.out.2.1.size
  have k2 := H3.out.2.2.1.trans (H4.out.2.2.1.trans H5.out.2)
  have k3 := H4.out.2.2.1.trans H5.out.2
  have lS : w.heap.size ≤ S := Nat.le_trans z1 H2.out.2.2.1
  have lR : w.heap.size ≤ R := Nat.le_trans z2 H3.out.2.2.2.1
  exact ⟨rfl, S, R, vI, lS, lR, bt_cell k2 H2.out.2.2.2 (by show ¬ S = X; omega), bt_cell k3 H3.out.2.2.2.2.1 (by show ¬ R = X; omega), bt_cell k3 H3.out.2.2.2.2.2 (by show ¬ R = X; omega),
    H5.out.1, H4.out.2.2.2.kept H5.out.2 lX, H4.out.2.1.trans H5.out.2⟩

end Go.Proofs.YtnpedhdonfdbmaaDoor
