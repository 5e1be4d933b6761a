/- What impl.objectStream and impl.ObjectStream answer. Conditions: impl.dict's answer is told ahead. -/
import Derived.Test.YtnpedhdonfdbmaaDoorOF
namespace Go.Proofs.YtnpedhdonfdbmaaDoor
open Go.ChangeShapes Go.WideShapes Go.ChangeAt Go.RowKit Go.Sort

/-- impl.dict answers a map of these entries. -/
def DictTo (w : World) (ks cs : Value) (es : Array MapEntry) (cl : Nat) : Prop :=
  ∀ w', Below w.heap.size w w' → Calls Tryd.prog 19 #[ks, cs] w' fun e w'' => e = .returned (.tuple #[.map (some w'.heap.size), .bool true]) ∧ w''.heap[w'.heap.size]? = some (.map es cl) ∧ Below w'.heap.size w' w''
theorem DictTo.below {w w1 : World} {ks cs : Value} {es : Array MapEntry} {cl : Nat} (h : DictTo w ks cs es cl) (b : Below w.heap.size w w1) : DictTo w1 ks cs es cl :=
  fun w' b' => h w' (b.trans (b'.mono b.size))
/-- These bytes lie at the head of block g. -/
def NewsAt (g : Nat) (news : List Value) (w : World) : Prop := ∀ j u, news[j]? = some u → w.cell? ((⟨g, 0, none⟩ : Addr).add j) = some u
theorem NewsAt.below {g : Nat} {news : List Value} {w w1 : World} (h : NewsAt g news w) (b : Below w.heap.size w w1) (hg : g < w.heap.size) : NewsAt g news w1 :=
  fun j u hu => (below_cell b (by rw [Addr.add_mid]; exact hg)).trans (h j u hu)

/-- What impl.objectStream leaves. -/
def OsQ (n f : Int) (w : World) (e : Ending) (w' : World) : Prop :=
  ∃ o, e = .returned (.tuple #[.pointer (some ⟨o, 0, none⟩), .bool true]) ∧ w.heap.size ≤ o ∧ o < w'.heap.size ∧ w'.cell? ⟨o, 9, none⟩ = some (.slice none 0 0) ∧ w'.cell? ⟨o, 10, none⟩ = some (.int .i64 n) ∧ w'.cell? ⟨o, 11, none⟩ = some (.int .i64 f) ∧ Below w.heap.size w w'

set_option maxHeartbeats 4000000 in
set_option maxRecDepth 100000 in
theorem os18 (w : World) (kb cb kc cc : Nat) (es : Array MapEntry) (cl i j : Nat) (n f : Int) (g m cap : Nat) (news : List Value) (hl : news.length = m) (hg : g < w.heap.size)
    (hnews : NewsAt g news w) (h1 : ∀ u ∈ news, u.oneCell' = true) (hm : m ≤ 4096)
    (hD : DictTo w (.slice (some ⟨kb, 0, none⟩) 3 kc) (.slice (some ⟨cb, 0, none⟩) 3 cc) es cl)
    (hf : Instr.findNow .string (.string ⟨#[70, 105, 114, 115, 116]⟩) es.toList 0 = some (some (i, .iface 107 (.int .i64 f))))
    (hn : Instr.findNow .string (.string ⟨#[78]⟩) es.toList 0 = some (some (j, .iface 107 (.int .i64 n))))
    (n1 : 1 ≤ n) (n2 : n ≤ 1000) (f1 : 0 ≤ f) (f2 : f ≤ 4096) :
    Calls Tryd.prog 18 #[.agg #[.int .i64 8, .int .i64 0, .int .i64 0, .float .f64 0, .string ⟨#[]⟩, .slice (some ⟨kb, 0, none⟩) 3 kc, .slice (some ⟨cb, 0, none⟩) 3 cc], .slice (some ⟨g, 0, none⟩) m cap] w (OsQ n f w) := by
  have hmf : ∀ (fn : Fn) (first cap : Array Value) (w : World), (Instr.makeFunc fn first cap).run Tryd.prog w = .ok (.func fn first cap) w := fun _ _ _ _ => rfl
  have HS : Hid (∀ w', Below w.heap.size w w' → Calls Tryd.prog 33 #[.agg #[.int .i64 8, .int .i64 0, .int .i64 0, .float .f64 0, .string ⟨#[]⟩, .slice (some ⟨kb, 0, none⟩) 3 kc, .slice (some ⟨cb, 0, none⟩) 3 cc], .slice (some ⟨g, 0, none⟩) m cap] w' (SdQ w' es cl)) := fun w' b =>
    stream_any w' _ _ kb cb kc cc rfl rfl es cl g m cap news hl (by have := b.size; omega) (hnews.below b hg) h1 hm (hD.below b)
  have HC : Hid (∀ (a b c S B : Nat) (p : Option Addr) (m k : Nat) (x y : Value) (w : World), Sd S B es cl p m k w → w.cell? ⟨a, 0, none⟩ = some (.pointer (some ⟨S, 0, none⟩)) → w.cell? ⟨b, 0, none⟩ = some x → w.cell? ⟨c, 0, none⟩ = some y → ¬ a = b → ¬ a = c → ¬ b = c →
      w.frozen? ⟨b, 0, none⟩ = false → w.frozen? ⟨c, 0, none⟩ = false → Calls Tryd.prog 20 #[.func (.func 34) #[] #[.pointer (some ⟨a, 0, none⟩), .pointer (some ⟨b, 0, none⟩), .pointer (some ⟨c, 0, none⟩)]] w fun e w' => e = .returned (.bool true) ∧ CQ b c n f w w') :=
    fun a b c S B p m k x y w q1 q2 q3 q4 q5 q6 q7 q8 q9 => calm34 a b c S B es cl i j p m k n f x y w q1 hf hn n1 n2 f1 f2 q2 q3 q4 q5 q6 q7 q8 q9
  have hS1 := HS.out ((w.alloc (.cells #[.int .i64 8, .int .i64 0, .int .i64 0, .float .f64 0, .string ⟨#[]⟩, .slice (some ⟨kb, 0, none⟩) 3 kc, .slice (some ⟨cb, 0, none⟩) 3 cc] 36)).alloc (.cells #[.pointer none] 59)) (below_al (below_al (Below.refl _ _) _) _)
  clear hl hg hnews h1 hm hD hf hn n1 n2 f1 f2
  go_enter Tryd.func18, Tryd.ntmps18
  go_wp2_with (go_at_call 33; refine Calls.mono (by with_reducible exact hS1) ?_; rintro e w1 ⟨S, B, p, n', k, rfl, hsd, hb⟩
               have lw1 : w.heap.size + 1 < w1.heap.size := by have := hb.size; simp at this; omega
               have t0 : w1.cell? ⟨w.heap.size + 1, 0, none⟩ = some (.pointer none) := (below_cells hb _ 0 (by simp)).trans (by go_simp)
               have t1 : w1.frozen? ⟨w.heap.size + 1, 0, none⟩ = false := (World.frozen?_of_block (a := ⟨w.heap.size + 1, 0, none⟩) (hb.block (w.heap.size + 1) (by simp))).trans (by go_simp)
               have HB : Hid (Below w.heap.size w w1) := (below_al (below_al (Below.refl _ _) _) _).trans (hb.mono (by simp; omega))
               have HS2 : Hid (Sd S B es cl p n' k w1) := hsd
               clear hb hsd hS1)
  have hC := HC.out w1.heap.size (w.heap.size + 1) (w1.heap.size + 1) S B p n' k (.pointer none) .nilIface ((w1.alloc (.cells #[.pointer (some ⟨S, 0, none⟩)] 95)).alloc (.cells #[.nilIface] 50)) (HS2.out.below (below_al (below_al (Below.refl _ _) _) _))
    (by go_simp) ((below_cells (below_al (below_al (Below.refl _ _) _) _) _ 0 lw1).trans t0) (by go_simp) (by omega) (by omega) (by omega) ((World.frozen?_of_block (a := ⟨w.heap.size + 1, 0, none⟩) ((below_al (below_al (Below.refl w1.heap.size w1) (.cells #[.pointer (some ⟨S, 0, none⟩)] 95)) (.cells #[.nilIface] 50)).block _ lw1)).trans t1) (by go_simp)
  refine Calls.mono (by with_reducible exact hC) ?_
  rintro e w2 ⟨rfl, o, e1, e2, e3, e4, e5, e6, e7, e8, e9⟩
  have HE : Hid (w.heap.size ≤ o ∧ o < w2.heap.size ∧ w2.cell? ⟨o, 9, none⟩ = some (.slice none 0 0) ∧ w2.cell? ⟨o, 10, none⟩ = some (.int .i64 n) ∧ w2.cell? ⟨o, 11, none⟩ = some (.int .i64 f) ∧ Below w.heap.size w w2) :=
    ⟨by simp at e1; omega, e2, e6, e7, e8, (below_al (below_al HB.out _) _).trans (e9.below (by omega) (by omega) (by simp; omega))⟩
  have hno : ¬ w.heap.size + 1 = o := by simp at e1; omega
  clear e1 e2 e6 e7 e8 e9 hC
  go_wp2_with (fail)
  have g3 : (w2.setCell ⟨w.heap.size + 1, 0, none⟩ (.pointer (some ⟨o, 0, none⟩))).cell? ⟨w.heap.size + 1, 0, none⟩ = some (.pointer (some ⟨o, 0, none⟩)) := by go_simp
  refine bodyPost_ret (v := .tuple #[.pointer (some ⟨o, 0, none⟩), .bool true]) (by simp [results, Tryd.results18, go_sem, g3]) rfl ⟨o, rfl, HE.out.1, by simpa using HE.out.2.1, ?_, ?_, ?_, HE.out.2.2.2.2.2.setCell (p := ⟨w.heap.size + 1, 0, none⟩) (by simp) _⟩
  · have := HE.out.2.2.1; go_simp
  · have := HE.out.2.2.2.1; go_simp
  · have := HE.out.2.2.2.2.1; go_simp

set_option maxHeartbeats 4000000 in
set_option maxRecDepth 100000 in
theorem os10 (w : World) (kb cb kc cc : Nat) (es : Array MapEntry) (cl i j : Nat) (n f : Int) (g m cap : Nat) (news : List Value) (hl : news.length = m) (hg : g < w.heap.size)
    (hnews : NewsAt g news w) (h1 : ∀ u ∈ news, u.oneCell' = true) (hm : m ≤ 4096)
    (hD : DictTo w (.slice (some ⟨kb, 0, none⟩) 3 kc) (.slice (some ⟨cb, 0, none⟩) 3 cc) es cl)
    (hf : Instr.findNow .string (.string ⟨#[70, 105, 114, 115, 116]⟩) es.toList 0 = some (some (i, .iface 107 (.int .i64 f))))
    (hn : Instr.findNow .string (.string ⟨#[78]⟩) es.toList 0 = some (some (j, .iface 107 (.int .i64 n))))
    (n1 : 1 ≤ n) (n2 : n ≤ 1000) (f1 : 0 ≤ f) (f2 : f ≤ 4096) :
    Calls Tryd.prog 10 #[.agg #[.int .i64 8, .int .i64 0, .int .i64 0, .float .f64 0, .string ⟨#[]⟩, .slice (some ⟨kb, 0, none⟩) 3 kc, .slice (some ⟨cb, 0, none⟩) 3 cc], .slice (some ⟨g, 0, none⟩) m cap] w
      fun e w' => ∃ v, e = .returned (.tuple #[.int .i64 n, .int .i64 f, v, .bool true]) ∧ Below w.heap.size w w' := by
  have bx := below_al (Below.refl w.heap.size w) (.cells #[.int .i64 8, .int .i64 0, .int .i64 0, .float .f64 0, .string ⟨#[]⟩, .slice (some ⟨kb, 0, none⟩) 3 kc, .slice (some ⟨cb, 0, none⟩) 3 cc] 36)
  have hS := os18 _ kb cb kc cc es cl i j n f g m cap news hl (by simp; omega) (hnews.below bx hg) h1 hm (hD.below bx) hf hn n1 n2 f1 f2
  clear hl hg hnews h1 hm hD hf hn n1 n2 f1 f2 bx
  go_enter Tryd.func10, Tryd.ntmps10
  go_wp2_with (go_at_call 18; refine Calls.mono (by with_reducible exact hS) ?_; rintro e w1 ⟨o, rfl, o1, o2, o3, o4, o5, b⟩
               have HB : Hid (Below w.heap.size w w1) := (below_al (Below.refl _ _) _).trans (b.mono (by simp))
               clear b hS)
  go_region_held3 (fun w' => w'.cell? ⟨o, 9, none⟩ = some (.slice none 0 0) ∧ w'.cell? ⟨o, 10, none⟩ = some (.int .i64 n) ∧ w'.cell? ⟨o, 11, none⟩ = some (.int .i64 f)) (go_keep) (fail)
  go_wp2_with (fail)
  exact bodyPost_ret (v := .tuple #[.int .i64 n, .int .i64 f, .slice (some ⟨w1.heap.size, 0, none⟩) 0 0, .bool true]) (by simp [results, Tryd.results10, go_sem]) rfl ⟨_, rfl, below_dr (below_al HB.out _)⟩

end Go.Proofs.YtnpedhdonfdbmaaDoor
