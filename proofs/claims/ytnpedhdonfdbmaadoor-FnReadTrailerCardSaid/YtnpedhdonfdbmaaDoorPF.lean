/- What impl.ReadTrailer answers. Conditions: impl.dict's answer is told ahead. -/
import Derived.Test.YtnpedhdonfdbmaaDoorPE
import Derived.Test.YtnpedhdonfdbmaaDoorQT
import Derived.Test.YtnpedhdonfdbmaaDoorOG
import Derived.Deep.MidRow
import Derived.Deep.Cut
namespace Go.Proofs.YtnpedhdonfdbmaaDoor
open Go.ChangeShapes Go.WideShapes Go.ChangeAt Go.RowKit Go.Sort

attribute [local go_sem] run_store_float

/-- A trailer's cells. -/
def trL (s r k n : Int) : List Value := [.int .i64 s, .int .i64 9, .int .i64 r, .int .i64 0, .float .f64 0, .string ⟨#[]⟩, .slice none 0 0, .slice none 0 0, .int .i64 k, .int .i64 n, .int .i64 0, .float .f64 0, .string ⟨#[]⟩, .slice none 0 0, .slice none 0 0,
  .int .i64 0, .int .i64 0, .int .i64 0, .float .f64 0, .string ⟨#[]⟩, .slice none 0 0, .slice none 0 0, .int .i64 0, .int .i64 0, .int .i64 0, .float .f64 0, .string ⟨#[]⟩, .slice none 0 0, .slice none 0 0]
def trZ : Array Value := #[.int .i64 0, .int .i64 0, .int .i64 0, .int .i64 0, .float .f64 0, .string ⟨#[]⟩, .slice none 0 0, .slice none 0 0, .int .i64 0, .int .i64 0, .int .i64 0, .float .f64 0, .string ⟨#[]⟩, .slice none 0 0, .slice none 0 0,
  .int .i64 0, .int .i64 0, .int .i64 0, .float .f64 0, .string ⟨#[]⟩, .slice none 0 0, .slice none 0 0, .int .i64 0, .int .i64 0, .int .i64 0, .float .f64 0, .string ⟨#[]⟩, .slice none 0 0, .slice none 0 0]
theorem neq70 (w : World) : (binOp BinOp.neq 70 (.slice none 0 0) (.slice none 0 0)).run Tryd.prog w = .ok (.bool false) w := by kernel_rfl
def rfK (n : Int) : Int := if n = 0 then 0 else 9

theorem trL_one (s r k n : Int) : (trL s r k n).toArray.all (·.oneCell') = true := by simp [trL, Value.oneCell']
theorem there_block {w : World} {b : Nat} {cs : Array Value} {t : TypeId} (h : w.heap[b]? = some (.cells cs t (0, 0))) {n : Nat} (hn : n = cs.size) : w.there b 0 n := fun j hj => by
  rw [Nat.zero_add]
  exact ⟨by rw [cell_of_row w b j cs t (0, 0) h]; simp [← hn, hj], by simp [World.frozen?, h]⟩
theorem setCells_below {N B : Nat} (hB : N ≤ B) {w0 : World} : ∀ (vs : List Value) (o : Nat) (w : World), Below N w0 w → Below N w0 (w.setCells B o vs)
  | [], _, _, b => b
  | v :: r, o, _, b => setCells_below hB r (o + 1) _ (b.setCell (p := ⟨B, o, none⟩) hB v)
theorem setCells_cell {w : World} {B o : Nat} {vs : List Value} {a : Addr} {u : Value} (h : w.cell? a = some u) (hn : ¬ a.block = B) : (w.setCells B o vs).cell? a = some u :=
  (World.cell?_setCells_out B vs o w a (fun e _ => absurd e hn)).trans h
/-- The first cell is stored anew. -/
theorem range_first {w : World} {T : Nat} {s s' r k n : Int} (h : w.rangeAt T 0 (trL s r k n)) : (w.setCell ⟨T, 0, none⟩ (.int .i64 s')).rangeAt T 0 (trL s' r k n) := fun j v hv => by
  match j, hv with
  | 0, hv =>
    have e := Option.some.inj hv
    rw [← e]
    exact World.cell?_setCell_same _ _ _ (h 0 (.int .i64 s) rfl)
  | j + 1, hv =>
    have h1 := h (j + 1) v (by simpa [trL] using hv)
    rw [World.cell?_setCell_other _ _ _ _ (by intro e; have := congrArg Addr.off e; simp at this)]
    exact h1

theorem results_cell_tmp {fn : Func} {a u : Tmp} {t : TypeId} (h : fn.results = #[.cell a t, .tmp u]) (tmps : Array Value) (P : Program) (w : World) (ad : Addr) (v : Value) (ha : tmps.getD a undef = .pointer (some ad)) (hv : (loadVar t ad).run P w = .ok v w) :
    (results fn tmps).run P w = .ok (.tuple #[v, tmps.getD u undef]) w := by
  have ha' : tmps[a]?.getD undef = .pointer (some ad) := by simpa using ha
  simp [results, h, asAddr, ha', hv, Result.andThen]

theorem refOf_at (N : Nat) (n : Int) (v : Value) {w : World} (h : Rf N n v w) (w' : World) (b : Below w.heap.size w w') :
    Calls Tryd.prog 23 #[v] w' fun e w'' => e = .returned (.agg #[.int .i64 (rfK n), .int .i64 n, .int .i64 0, .float .f64 0, .string ⟨#[]⟩, .slice none 0 0, .slice none 0 0]) ∧ Below w'.heap.size w' w'' := by
  rcases h with ⟨rfl, rfl⟩ | ⟨I, _, rfl, h3, h4, h5⟩
  · exact refOf_none w'
  · exact refOf_some I n h3 w' ((below_cells b _ 0 (block_lt_of_cell h4)).trans h4) ((below_cells b _ 1 (block_lt_of_cell h5)).trans h5)

set_option maxHeartbeats 2000000 in
set_option maxRecDepth 100000 in
theorem rt11 (w : World) (kb cb kn kc cn cc : Nat) (es : Array MapEntry) (cl : Nat) (sz rt nf : Int) (strict : Bool) (hrt : 0 < rt)
    (hD : DictTo w (.slice (some ⟨kb, 0, none⟩) kn kc) (.slice (some ⟨cb, 0, none⟩) cn cc) es cl) (hm : Mp es cl sz rt nf) :
    Calls Tryd.prog 11 #[.agg #[.int .i64 8, .int .i64 0, .int .i64 0, .float .f64 0, .string ⟨#[]⟩, .slice (some ⟨kb, 0, none⟩) kn kc, .slice (some ⟨cb, 0, none⟩) cn cc], .bool strict] w
      fun e w' => e = .returned (.tuple #[.agg (trL sz rt (rfK nf) nf).toArray, .bool true]) ∧ Below w.heap.size w w' := by
  have hmf : ∀ (fn : Fn) (first cap : Array Value) (w : World), (Instr.makeFunc fn first cap).run Tryd.prog w = .ok (.func fn first cap) w := fun _ _ _ _ => rfl
  have hD1 := hD ((w.alloc (.cells #[.int .i64 8, .int .i64 0, .int .i64 0, .float .f64 0, .string ⟨#[]⟩, .slice (some ⟨kb, 0, none⟩) kn kc, .slice (some ⟨cb, 0, none⟩) cn cc] 36)).alloc (.cells trZ 43)) (below_al (below_al (Below.refl _ _) _) _)
  unfold trZ at hD1
  have HM := Lib.hid hm
  clear hD hm
  cases strict
  all_goals
    go_enter Tryd.func11, Tryd.ntmps11
    go_wp2_with (fail)
    refine Calls.mono (by with_reducible exact hD1) ?_
    rintro e w1 ⟨rfl, hmap, hb⟩
    have lw1 : w.heap.size + 1 + 1 < w1.heap.size := by have := (Array.getElem?_eq_some_iff.1 hmap).1; simpa using this
    have k0 : w1.cell? ⟨w.heap.size, 0, none⟩ = some (.int .i64 8) := (below_cells hb _ 0 (by simp; omega)).trans (by go_simp)
    have HB1 : Hid (Below w.heap.size w w1 ∧ w1.heap[w.heap.size + 1]? = some (.cells trZ 43 (0, 0)) ∧ w1.heap[w.heap.size + 1 + 1]? = some (.map es cl)) :=
      ⟨(below_al (below_al (Below.refl _ _) _) _).trans (hb.mono (by simp; omega)), (hb.block (w.heap.size + 1) (by simp)).trans (by have h := heap_alloc_new (w.alloc (.cells #[.int .i64 8, .int .i64 0, .int .i64 0, .float .f64 0, .string ⟨#[]⟩, .slice (some ⟨kb, 0, none⟩) kn kc, .slice (some ⟨cb, 0, none⟩) cn cc] 36)) (.cells trZ 43); rwa [show (w.alloc (.cells #[.int .i64 8, .int .i64 0, .int .i64 0, .float .f64 0, .string ⟨#[]⟩, .slice (some ⟨kb, 0, none⟩) kn kc, .slice (some ⟨cb, 0, none⟩) cn cc] 36)).heap.size = w.heap.size + 1 by simp] at h), by simpa using hmap⟩
    have lw2 : w.heap.size < w1.heap.size := by omega
    have lw3 : w.heap.size + 1 < w1.heap.size := by omega
    clear hb hmap hD1
    go_wp2_with (fail)
    refine Calls.mono (calm21 _ (w1.heap.size + 1 + 1) w1.heap.size (w1.heap.size + 1 + 1 + 1) (w.heap.size + 1 + 1) (w1.heap.size + 1) es cl sz rt nf .nilIface ?_ HM.out ?_ ?_ ?_ ?_ ?_ ?_ ?_) ?_
    · exact ((below_al (below_al (below_al (below_al (Below.refl _ _) _) _) _) _).block _ lw1).trans HB1.out.2.2
    · constructor <;> go_simp
    · omega
    · go_simp
    · go_simp
    · go_simp
    · go_simp
    · omega
    rintro e w2 ⟨rfl, S, R, vI, s1, r1, s2, r2, r3, t1, i1, v1, b1⟩
    have z1 := b1.size
    simp at z1 s1 r1
    have ga : w2.cell? ⟨w1.heap.size + 1 + 1, 0, none⟩ = some (.pointer (some ⟨w1.heap.size + 1, 0, none⟩)) := (World.cell?_of_block (a := ⟨w1.heap.size + 1 + 1, 0, none⟩) (b1.block (w1.heap.size + 1 + 1) (by simp) (by omega) (by omega))).trans (by go_simp)
    have gT : w2.heap[w.heap.size + 1]? = some (.cells trZ 43 (0, 0)) := (b1.block (w.heap.size + 1) (by simp; omega) (by omega) (by omega)).trans (((below_al (below_al (below_al (below_al (Below.refl _ _) _) _) _) _).block _ lw3).trans HB1.out.2.1)
    have HW2 : Hid (Below w.heap.size w w2) := HB1.out.1.trans (((below_al (below_al (below_al (below_al (Below.refl w1.heap.size w1) _) _) _) _).trans (b1.below (by omega) (by omega) (by simp; omega))).mono HB1.out.1.size)
    have C1 : ∀ p os, Calls Tryd.prog 23 #[.pointer (some ⟨R, 0, none⟩)] (grow (redrawn w2 p) os) fun e w'' => e = .returned (.agg #[.int .i64 9, .int .i64 rt, .int .i64 0, .float .f64 0, .string ⟨#[]⟩, .slice none 0 0, .slice none 0 0]) ∧ ∃ q : Regrown, w'' = grow (redrawn w2 q.d) q.os := fun p os => Calls.regrown_of (by
      have h := refOf_some R rt hrt (grow (redrawn w2 p) os) (cell_regrown r2 p os) (cell_regrown r3 p os)
      unfold rfO at h; rwa [if_neg (by omega)] at h)
    have C2 : ∀ p os, Calls Tryd.prog 23 #[vI] (grow (redrawn w2 p) os) fun e w'' => e = .returned (.agg #[.int .i64 (rfK nf), .int .i64 nf, .int .i64 0, .float .f64 0, .string ⟨#[]⟩, .slice none 0 0, .slice none 0 0]) ∧ ∃ q : Regrown, w'' = grow (redrawn w2 q.d) q.os := fun p os => Calls.regrown_of (refOf_at _ nf vI i1 _ (below_regrown w2 p os))
    have C3 : ∀ p os, Calls Tryd.prog 23 #[.pointer none] (grow (redrawn w2 p) os) fun e w'' => e = .returned (.agg #[.int .i64 0, .int .i64 0, .int .i64 0, .float .f64 0, .string ⟨#[]⟩, .slice none 0 0, .slice none 0 0]) ∧ ∃ q : Regrown, w'' = grow (redrawn w2 q.d) q.os := fun p os => Calls.regrown_of (refOf_none _)
    obtain ⟨c1, c3, c5, c6, c7, f1, f3, f7⟩ := t1
    have H2 := Lib.hid (And.intro s2 (And.intro gT (And.intro c1 (And.intro c6 ga))))
    clear f1 f3 f7 s2 r2 r3 i1 b1 gT
    go_wp2_with (fail)
    have m0 := cell_regrown ga
    have m3 := cell_regrown c3
    have m5 := cell_regrown c5
    have m7 := cell_regrown c7
    clear ga c1 c3 c5 c6 c7 v1
    refine wp_region_quiet_below_tail 16 (by kernel_rfl) (by kernel_rfl) ?_
    simp only [List.take_succ_cons, List.take_zero, List.drop_succ_cons, List.drop_zero]
    repeat (quiet_step (first | (with_reducible exact C1 _ _) | (with_reducible exact C2 _ _) | (with_reducible exact C3 _ _)))
    refine wpQuiet_nil ?_
    intro _ hw'
    obtain ⟨⟨dq, osq⟩, hw''⟩ := hw'
    subst hw''
    clear C1 C2 C3 m0 m3 m5 m7
    have bg := below_regrown w2 dq osq
    have hT2 := (bg.block (w.heap.size + 1) (by omega)).trans H2.out.2.1
    have lS := block_lt_of_cell H2.out.1
    have e1 := (below_cells bg _ 0 lS).trans H2.out.1
    have e2 := (below_cells bg _ 1 (by omega)).trans H2.out.2.2.1
    have e3 := (below_cells bg _ 6 (by omega)).trans H2.out.2.2.2.1
    have e4 := (below_cells bg _ 0 (by omega)).trans H2.out.2.2.2.2
    have HG : Hid (Below w.heap.size w (grow (redrawn w2 dq) osq)) := HW2.out.trans (bg.mono HW2.out.size)
    clear bg H2 HW2 HB1
    generalize grow (redrawn w2 dq) osq = Wg at *
    have hth := there_block hT2 (n := 29) rfl
    refine wpList_store_mid rfl 43 _ _ rfl (w.heap.size + 1) 0 (trL 0 rt (rfK nf) nf).toArray rfl rfl hth (by kernel_rfl) (trL_one _ _ _ _) ?_
    have hr3 := World.rangeAt_setCells_same Wg (w.heap.size + 1) 0 (trL 0 rt (rfK nf) nf) hth
    have ht3 := World.there_setCells hth (w.heap.size + 1) 0 (trL 0 rt (rfK nf) nf)
    have g1 := setCells_cell (B := w.heap.size + 1) (o := 0) (vs := trL 0 rt (rfK nf) nf) e1 (by show ¬ S = _; omega)
    have g2 := setCells_cell (B := w.heap.size + 1) (o := 0) (vs := trL 0 rt (rfK nf) nf) e2 (by show ¬ w1.heap.size + 1 = w.heap.size + 1; omega)
    have g3 := setCells_cell (B := w.heap.size + 1) (o := 0) (vs := trL 0 rt (rfK nf) nf) e3 (by show ¬ w1.heap.size + 1 = w.heap.size + 1; omega)
    have g4 := setCells_cell (B := w.heap.size + 1) (o := 0) (vs := trL 0 rt (rfK nf) nf) e4 (by show ¬ w1.heap.size + 1 + 1 = w.heap.size + 1; omega)
    have HB3 := Lib.hid (setCells_below (N := w.heap.size) (B := w.heap.size + 1) (by omega) (trL 0 rt (rfK nf) nf) 0 _ HG.out)
    clear e1 e2 e3 e4 hth hT2 HG
    generalize Wg.setCells (w.heap.size + 1) 0 (trL 0 rt (rfK nf) nf) = W3 at *
    have t0 : W3.cell? ⟨w.heap.size + 1, 0, none⟩ = some (.int .i64 0) := hr3 0 _ rfl
    have t1 : W3.frozen? ⟨w.heap.size + 1, 0, none⟩ = false := (ht3 0 (by decide)).2
    have HR4 := Lib.hid (range_first (s' := sz) hr3)
    have ht4 : (W3.setCell ⟨w.heap.size + 1, 0, none⟩ (.int .i64 sz)).there (w.heap.size + 1) 0 29 := World.there_setCells ht3 (w.heap.size + 1) 0 [.int .i64 sz]
    have HR5 := Lib.hid (World.rangeAt_setCells_same _ (w.heap.size + 1) 0 (trL sz rt (rfK nf) nf) ht4)
    have HT4 := Lib.hid ht4
    have hN := number_some S sz W3 g1
    have h70 := neq70
    have n1 : ¬ S = w.heap.size + 1 := by omega
    have n2 : ¬ w1.heap.size + 1 = w.heap.size + 1 := by omega
    have n3 : ¬ w1.heap.size + 1 + 1 = w.heap.size + 1 := by omega
    clear hr3 ht3 ht4
    go_upto_region 16 with (go_at_call 24; refine Calls.mono (by with_reducible exact hN) ?_; rintro e w5 ⟨rfl, rfl⟩)
    refine wp_region_lit ?_
    refine wpList_load_mid rfl 43 _ rfl (w.heap.size + 1) 0 rfl (trL sz rt (rfK nf) nf) _ HR4.out Tryd.underlying43 rfl (by kernel_rfl) ?_
    refine wpList_store_mid rfl 43 _ _ rfl (w.heap.size + 1) 0 (trL sz rt (rfK nf) nf).toArray rfl rfl HT4.out (by kernel_rfl) (trL_one _ _ _ _) ?_
    have hv := run_loadVar_mid (P := Tryd.prog) _ (w.heap.size + 1) 0 43 (trL sz rt (rfK nf) nf) _ HR5.out Tryd.underlying43 rfl (by kernel_rfl)
    have HV := Lib.hid (And.intro hv (setCells_below (N := w.heap.size) (B := w.heap.size + 1) (by omega) (trL sz rt (rfK nf) nf) 0 _ (HB3.out.setCell (p := ⟨w.heap.size + 1, 0, none⟩) (by simp) (.int .i64 sz))))
    clear t0 t1 g1 g2 g3 g4 hN hv HR4 HR5 HB3 HT4
    generalize (w5.setCell ⟨w.heap.size + 1, 0, none⟩ (.int .i64 sz)).setCells (w.heap.size + 1) 0 (trL sz rt (rfK nf) nf) = W5 at *
    go_wp2_with (fail)
    exact bodyPost_ret (results_cell_tmp Tryd.results11 _ _ _ ⟨w.heap.size + 1, 0, none⟩ _ rfl HV.out.1) rfl ⟨rfl, HV.out.2⟩

end Go.Proofs.YtnpedhdonfdbmaaDoor
