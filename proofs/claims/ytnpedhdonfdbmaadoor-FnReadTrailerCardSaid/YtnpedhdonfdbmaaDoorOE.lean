/- What impl.stream answers of a dictionary of three keys. Conditions: impl.dict's answer is told ahead. -/
import Derived.Test.YtnpedhdonfdbmaaDoorOD
import Derived.Deep.AppendLies
import Derived.Lib.SmallJoins
namespace Go.Proofs.YtnpedhdonfdbmaaDoor
open Go.ChangeShapes Go.WideShapes Go.ChangeAt Go.RowKit Go.Sort

theorem step_append_own {P : Program} {w : World} {ops : Array Oper} {o : Oper} {a : Act} {K : Act → World → Prop} {Q : Exit → Act → World → Prop} {E : Prop} (hgd : o.guard = none) (s x : Operand) (t : TypeId)
    (ho : o.op = .call { callee := .builtin .append, args := #[s, x], argTypes := #[t, t] })
    (base : Nat) (e : TypeId) (i : TypeInfo) (z : Value) (size bytes : Nat) (ht : P.underlying t = some (.slice e)) (hi : P.info? e = some i) (hz : i.zero = some z)
    (hsize : i.size = size) (hby : i.bytes = bytes) (hzs : z.cells.size = size) (hsz : 0 < size)
    (v : Value) (n : Nat) (xs : List Value) (hs : a.eval s = v) (hown : w.ownsRow base e size v n xs)
    (ad : Addr) (m c : Nat) (news : List Value) (hx : a.eval x = .slice (some ad) m c) (hl : news.length = m * size) (hnews : ∀ j u, news[j]? = some u → w.cell? (ad.add j) = some u) (h1 : ∀ u ∈ news, u.oneCell' = true)
    (h63 : n + m ≤ maxLen) (hbytes : (n + m) * bytes ≤ 140737488355328) (hbase : base ≤ w.heap.size)
    (h : ∀ p k c w', w'.ownsRow base e size (.slice p k c) (n + m) (xs ++ news) → w.grownBy w' v.ownBlock → K (a.put o.dst (.slice p k c)) w') :
    if Region.wanted o (yielded ops a.tmps) = true then Oper.wp P o a w K Q else E := by
  have hw : Region.wanted o (yielded ops a.tmps) = true := by simp [Region.wanted, hgd]
  rw [if_pos hw]
  obtain ⟨v', w', hr, h2, h3, h4⟩ := run_append_own (P := P) w base t o.type e i z size bytes ht hi hz hsize hby hzs hsz v n xs hown ad m c news hl hnews h1 h63 hbytes hbase
  have hK : K (a.put o.dst v') w' := by
    rcases Joins.ownsRow_forms h2 with ⟨rfl, _⟩ | ⟨g, cap, rfl⟩
    · exact h _ _ _ _ h2 h3
    · exact h _ _ _ _ h2 h3
  unfold Oper.wp execOp
  simp only [ho, resolve, invoke, builtin, Sem.run_bind, Sem.run_pure, Result.andThen_ok, List.map_toArray, List.map_cons, List.map_nil, hs, hx, hr]
  exact hK

/-- A stream's dictionary in memory. -/
structure Sd (S B : Nat) (es : Array MapEntry) (c : Nat) (p : Option Addr) (n k : Nat) (w : World) : Prop where
  map : w.heap[B]? = some (.map es c)
  h0 : w.cell? ⟨S, 0, none⟩ = some (.map (some B))
  h1 : w.cell? ⟨S, 1, none⟩ = some (.int .i64 0)
  h2 : w.cell? ⟨S, 2, none⟩ = some (.pointer none)
  h3 : w.cell? ⟨S, 3, none⟩ = some (.pointer none)
  h4 : w.cell? ⟨S, 4, none⟩ = some (.slice none 0 0)
  h5 : w.cell? ⟨S, 5, none⟩ = some (.slice none 0 0)
  h6 : w.cell? ⟨S, 6, none⟩ = some (.slice p n k)
  h7 : w.cell? ⟨S, 7, none⟩ = some (.bool false)
  h8 : w.cell? ⟨S, 8, none⟩ = some (.int .i64 0)
theorem Sd.below {S B : Nat} {es : Array MapEntry} {c : Nat} {p : Option Addr} {n k : Nat} {w w' : World} (h : Sd S B es c p n k w) (b : Below w.heap.size w w') : Sd S B es c p n k w' := by
  have lB := (Array.getElem?_eq_some_iff.1 h.map).1
  have lS := block_lt_of_cell h.h0
  have hc := below_cells b
  exact ⟨(b.block B lB).trans h.map, (hc S 0 lS).trans h.h0, (hc S 1 lS).trans h.h1, (hc S 2 lS).trans h.h2, (hc S 3 lS).trans h.h3, (hc S 4 lS).trans h.h4, (hc S 5 lS).trans h.h5, (hc S 6 lS).trans h.h6, (hc S 7 lS).trans h.h7, (hc S 8 lS).trans h.h8⟩

/-- What impl.stream leaves. -/
def SdQ (w : World) (es : Array MapEntry) (c : Nat) (e : Ending) (w' : World) : Prop :=
  ∃ S B p n k, e = .returned (.tuple #[.pointer (some ⟨S, 0, none⟩), .bool true]) ∧ Sd S B es c p n k w' ∧ Below w.heap.size w w'

set_option maxHeartbeats 4000000 in
set_option maxRecDepth 100000 in
theorem stream_any (w : World) (ks cs : Value) (kb cb kc cc : Nat) (hks : ks = .slice (some ⟨kb, 0, none⟩) 3 kc) (hcs : cs = .slice (some ⟨cb, 0, none⟩) 3 cc) (es : Array MapEntry) (c' : Nat) (g n cap : Nat) (news : List Value) (hl : news.length = n) (hg : g < w.heap.size)
    (hnews : ∀ j u, news[j]? = some u → w.cell? ((⟨g, 0, none⟩ : Addr).add j) = some u) (h1 : ∀ u ∈ news, u.oneCell' = true) (hn : n ≤ 4096)
    (hD : ∀ w', Below w.heap.size w w' → Calls Tryd.prog 19 #[ks, cs] w' fun e w'' => e = .returned (.tuple #[.map (some w'.heap.size), .bool true]) ∧ w''.heap[w'.heap.size]? = some (.map es c') ∧ Below w'.heap.size w' w'') :
    Calls Tryd.prog 33 #[.agg #[.int .i64 8, .int .i64 0, .int .i64 0, .float .f64 0, .string ⟨#[]⟩, ks, cs], .slice (some ⟨g, 0, none⟩) n cap] w (SdQ w es c') := by
  obtain ⟨i0, hi, hz0, hz1, hz2⟩ := info_parts (show (Tryd.prog.info? 5).map (fun i => (i.zero, i.size, i.bytes)) = some (some (.int .u8 0), 1, 1) by kernel_rfl)
  subst hks
  subst hcs
  have hD1 := hD (w.alloc (.cells #[.int .i64 8, .int .i64 0, .int .i64 0, .float .f64 0, .string ⟨#[]⟩, .slice (some ⟨kb, 0, none⟩) 3 kc, .slice (some ⟨cb, 0, none⟩) 3 cc] 36)) (below_al (Below.refl _ _) _)
  have HN : Hid (∀ w', Below w.heap.size w w' → ∀ j u, news[j]? = some u → w'.cell? ((⟨g, 0, none⟩ : Addr).add j) = some u) := fun w' b j u hu => (below_cell b (by rw [Addr.add_mid]; exact hg)).trans (hnews j u hu)
  have HL : Hid (news.length = n ∧ ∀ u ∈ news, u.oneCell' = true) := ⟨hl, h1⟩
  clear hD hnews hl h1
  go_enter Tryd.func33, Tryd.ntmps33
  go_wp2_with (first
    | (go_at_call 19; refine Calls.mono (by with_reducible exact hD1) ?_; rintro e w1 ⟨rfl, hm, hb⟩
       have B1 : Hid (Below w.heap.size w w1 ∧ w1.heap[w.heap.size + 1]? = some (.map es c')) := ⟨(below_al (Below.refl _ _) _).trans (hb.mono (by simp)), by simpa using hm⟩
       have k0 : w1.cell? ⟨w.heap.size, 0, none⟩ = some (.int .i64 8) := (below_cells hb _ 0 (by simp)).trans (by go_simp)
       clear hb hm hD1))
  have HI : Hid (Tryd.prog.info? 5 = some i0) := hi
  have lw1 : w.heap.size + 1 < w1.heap.size := (Array.getElem?_eq_some_iff.1 B1.out.2).1
  go_region_held3 (fun w' => w'.cell? ⟨w.heap.size, 0, none⟩ = some (.int .i64 8)) (first | go_keep | assumption)
    ((refine step_append_own (by rfl) _ _ _ (by rfl) w1.heap.size 5 i0 _ 1 1 Tryd.underlying38 HI.out hz0 hz1 hz2 rfl (by omega) (.slice (some ⟨w1.heap.size, 0, none⟩) 0 0) 0 [] (by rfl)
        (World.ownsRow_lit (base := w1.heap.size) (e := 5) (size := 1) w1 #[] 0 (Nat.le_refl _) (by unfold maxLen; omega) rfl).drew
        ⟨g, 0, none⟩ n cap news (by rfl) (by have := HL.out.1; omega) (HN.out _ (below_dr (below_al B1.out.1 _))) HL.out.2 (by unfold maxLen; omega) (by omega) (by simp) ?_; intro p k c w2 hown1 hgrow
      have k1 : w2.cell? ⟨w.heap.size, 0, none⟩ = some (.int .i64 8) := (World.cell?_of_block (a := ⟨w.heap.size, 0, none⟩) (hgrow.block w.heap.size (by simp; omega) (by intro h; have h2 : some w.heap.size = some w1.heap.size := h; have h3 := Option.some.inj h2; omega))).trans (by go_simp)))
  have hB2 := ((Below.refl w1.heap.size w1).alloc (Nat.le_refl _) (.cells #[] 5)).trans ((below_drewN (Below.refl w1.heap.size (w1.alloc (.cells #[] 5))) 1).grown hgrow (by simp) (fun k hk => by have h3 := Option.some.inj (show some w1.heap.size = some k from hk); omega))
  have HF : Hid (Sd w2.heap.size (w.heap.size + 1) es c' p k c (w2.alloc (.cells #[.map (some (w.heap.size + 1)), .int .i64 0, .pointer none, .pointer none, .slice none 0 0, .slice none 0 0, .slice p k c, .bool false, .int .i64 0] 68)) ∧ Below w.heap.size w (w2.alloc (.cells #[.map (some (w.heap.size + 1)), .int .i64 0, .pointer none, .pointer none, .slice none 0 0, .slice none 0 0, .slice p k c, .bool false, .int .i64 0] 68))) := by
    have b : Below w.heap.size w w2 := B1.out.1.trans (hB2.mono B1.out.1.size)
    refine ⟨⟨?_, ?_, ?_, ?_, ?_, ?_, ?_, ?_, ?_, ?_⟩, below_al b _⟩
    · rw [Below.heap_alloc _ _ _ (by have := hB2.size; omega), hB2.block _ lw1]; exact B1.out.2
    all_goals go_simp
  clear hB2 hgrow hown1
  go_wp2_with (fail)
  go_ret2
  exact ⟨_, _, _, _, _, rfl, HF.out.1, HF.out.2⟩

end Go.Proofs.YtnpedhdonfdbmaaDoor
