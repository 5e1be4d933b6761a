/- What the reader of a literal string and spec.LiteralBytes answer. Conditions: at most 20000 bytes. -/
import Derived.Test.YtgemkjickljedaaDoorXE
import Derived.Test.YtgemkjickljedaaDoorBld
namespace Go.Proofs.YtgemkjickljedaaDoor.Lit
open Go.ChangeShapes Go.WideShapes Go.ChangeAt Go.RowKit

theorem run_store_float (P : Program) (w : World) (a : Addr) (m : Mode) (k : FloatKind) (b : Nat) : (store a (.float k b) m).run P w = stored P w a (.float k b) m := run_store P w a _ m rfl
attribute [local go_sem] run_store_float

theorem own_turn {b : Nat} {w w' : World} (h : Turn b w w') {B n : Nat} {v : Value} {xs : List Value} (ho : w.ownsRow B 5 1 v n xs) (hb : b < B) : w'.ownsRow B 5 1 v n xs := by
  refine ⟨ho.1, ?_⟩
  rcases ho.2 with hn | ⟨g, cap, cur, rfl, hB, hgg, rest⟩
  · exact .inl hn
  · exact .inr ⟨g, cap, cur, rfl, hB, (h.other g (by omega)).trans hgg, rest⟩

/-- The text with its parentheses. -/
abbrev par (s : ByteArray) : ByteArray := ⟨#[40]⟩ ++ s ++ ⟨#[41]⟩
theorem par_size (s : ByteArray) : (par s).size = s.size + 2 := by
  rw [ByteArray.size_append, ByteArray.size_append]
  show 1 + s.size + 1 = _; omega
theorem par_list (s : ByteArray) : (par s).data.toList = 40 :: (s.data.toList ++ [41]) := by simp [par, ByteArray.data_append]

/-- k signs of the text have been read (the first parenthesis too), out is what they are. -/
def MidL (l : List UInt8) (k : Nat) (out : List UInt8) : Prop := rt false l = true ∨ (l.length + 1 < k ∨ (un .n l = out ++ un .n (l.drop (k - 1)) ∧ rt false l = rt false (l.drop (k - 1))))

theorem MidL.start (l : List UInt8) : MidL l 1 [] := .inr (.inr ⟨by simp, by simp⟩)
theorem drop_len {l : List UInt8} {k : Nat} (h : k = l.length) : l.drop k = [] := List.drop_eq_nil_of_le (by omega)
/-- A sign that stands for itself. -/
theorem MidL.plain {l : List UInt8} {k : Nat} {out : List UInt8} (h : MidL l k out) (hk : 1 ≤ k) {c : UInt8} (hc : (l ++ [41])[k - 1]? = some c) (h1 : c ≠ 92) (h2 : c ≠ 13) : MidL l (k + 1) (out ++ [c]) := by
  rcases h with h | h | ⟨e1, e2⟩
  · exact .inl h
  · exact .inr (.inl (by omega))
  · by_cases hl : k - 1 < l.length
    · have hc' : l[k - 1]? = some c := by rwa [List.getElem?_append_left hl] at hc
      refine .inr (.inr ⟨?_, ?_⟩)
      · rw [e1, drop1' hc', un_n _ h1, show k + 1 - 1 = k - 1 + 1 by omega]; simp
      · rw [e2, drop1' hc', rt_n _ h1 h2, show k + 1 - 1 = k - 1 + 1 by omega]
    · exact .inr (.inl (by omega))
/-- A carriage return. -/
theorem MidL.cr {l : List UInt8} {k : Nat} {out : List UInt8} (h : MidL l k out) (hc : (l ++ [41])[k - 1]? = some 13) (out' : List UInt8) (k' : Nat) (hkk : k ≤ k') : MidL l k' out' := by
  rcases h with h | h | ⟨e1, e2⟩
  · exact .inl h
  · exact .inr (.inl (by omega))
  · by_cases hl : k - 1 < l.length
    · have hc' : l[k - 1]? = some 13 := by rwa [List.getElem?_append_left hl] at hc
      left
      rw [e2, drop1' hc', rt_13]
    · exfalso
      have : k - 1 = l.length := by
        have := (List.getElem?_eq_some_iff.1 hc).1
        simp at this; omega
      rw [this, List.getElem?_append_right (Nat.le_refl _)] at hc
      simp at hc
/-- A reverse solidus, and what stands behind it. -/
theorem MidL.escape {l : List UInt8} {k : Nat} {out : List UInt8} (h : MidL l k out) (hk : 1 ≤ k) (hc : (l ++ [41])[k - 1]? = some 92) :
    MidL l (k + 1 + (esc1 ((l ++ [41]).drop k)).2.2) (out ++ if (esc1 ((l ++ [41]).drop k)).2.1 = true then [(esc1 ((l ++ [41]).drop k)).1] else []) := by
  rcases h with h | h | ⟨e1, e2⟩
  · exact .inl h
  · exact .inr (.inl (by omega))
  · by_cases hl : k - 1 < l.length
    · have hc' : l[k - 1]? = some 92 := by rwa [List.getElem?_append_left hl] at hc
      have hd := drop1' hc'
      rw [show k - 1 + 1 = k by omega] at hd
      rw [hd, un_s] at e1
      rw [hd, rt_s] at e2
      by_cases hn : l.drop k = []
      · right; left
        have hkl : l.length ≤ k := by
          have := congrArg List.length hn; simp at this; omega
        have hkl2 : k = l.length := by omega
        have e : (l ++ [41]).drop k = [41] := by rw [hkl2]; exact List.drop_left
        rw [e]
        have : (esc1 [41]).2.2 = 1 := by decide
        rw [this]; omega
      · have hkl : k < l.length := by
          rcases Nat.lt_or_ge k l.length with h | h
          · exact h
          · exact absurd (List.drop_eq_nil_of_le h) hn
        have e : (l ++ [41]).drop k = l.drop k ++ [41] := List.drop_append_of_le_length (by omega)
        rw [e, esc_app _ hn]
        obtain ⟨q1, q2, q3, q4⟩ := esc_un _ hn
        right; right
        rw [q1] at e1
        rw [q2] at e2
        rw [List.drop_drop] at e1 e2
        rw [show k + 1 + (esc1 (l.drop k)).2.2 - 1 = k + (esc1 (l.drop k)).2.2 by omega]
        exact ⟨by rw [e1, List.append_assoc], e2⟩
    · exfalso
      have : k - 1 = l.length := by
        have := (List.getElem?_eq_some_iff.1 hc).1
        simp at this; omega
      rw [this, List.getElem?_append_right (Nat.le_refl _)] at hc
      simp at hc
/-- The last parenthesis. -/
theorem MidL.done {l : List UInt8} {out : List UInt8} (h : MidL l (l.length + 1) out) (hr : rt false l = false) : un .n l = out := by
  rcases h with h | h | ⟨e1, e2⟩
  · rw [h] at hr; cases hr
  · omega
  · rw [e1, drop_len (by omega)]; simp [un]

theorem Rl.of_block {b : Nat} {t : ByteArray} {x : Int} {w w' : World} (R : Rl b t x w) (h : w'.heap[b]? = w.heap[b]?) : Rl b t x w' :=
  ⟨(World.cell?_of_block (a := ⟨b, 0, none⟩) h).trans R.s, (World.cell?_of_block (a := ⟨b, 1, none⟩) h).trans R.at_, (World.cell?_of_block (a := ⟨b, 2, none⟩) h).trans R.bad, (World.cell?_of_block (a := ⟨b, 5, none⟩) h).trans R.ends,
    (World.frozen?_of_block (a := ⟨b, 1, none⟩) h).trans R.f1, (World.frozen?_of_block (a := ⟨b, 2, none⟩) h).trans R.f2, (World.frozen?_of_block (a := ⟨b, 5, none⟩) h).trans R.f5⟩

/-- Behind an append. -/
theorem Rl.grown {b B m : Nat} {t : ByteArray} {x : Int} {W w' : World} {v : Value} {xs : List Value} {o : Obj} (R : Rl b t x W) (hb : b < B) (hB : B ≤ W.heap.size) (hown : W.ownsRow B 5 1 v m xs) (hg : (W.alloc o).grownBy w' v.ownBlock) :
    Rl b t x w' ∧ Below b W w' ∧ W.heap.size ≤ w'.heap.size := by
  have hblk : w'.heap[b]? = W.heap[b]? := by
    rw [hg.block b (by simp; omega) (by intro h; have := (hown.lt b h.symm).1; omega), Below.heap_alloc _ _ _ (by omega)]
  have hB2 := ((Below.refl b W).alloc (by omega) o).grown hg (by simp; omega) (fun k hk => by have := (hown.lt k hk).1; omega)
  exact ⟨R.of_block hblk, hB2, hB2.size⟩

set_option maxRecDepth 100000 in
theorem fail_any (b : Nat) (t : ByteArray) (x : Int) (w : World) (h0 : w.cell? ⟨b, 0, none⟩ = some (.string t)) (h1 : w.cell? ⟨b, 1, none⟩ = some (.int .i64 x)) (h2 : w.cell? ⟨b, 2, none⟩ = some (.int .i64 0)) (f2 : w.frozen? ⟨b, 2, none⟩ = false) (hb : b < w.heap.size) :
    Calls Tryd.prog 47 #[.pointer (some ⟨b, 0, none⟩), .int .i64 1] w fun e w' => ∃ v, e = .returned v ∧ w'.cell? ⟨b, 0, none⟩ = some (.string t) ∧ w'.cell? ⟨b, 1, none⟩ = some (.int .i64 x) ∧ w'.cell? ⟨b, 2, none⟩ = some (.int .i64 1) ∧ Below b w w' := by
  have hnb : ¬ b = w.heap.size := by omega
  go_enter Tryd.func47, Tryd.ntmps47
  go_wp2
  simp [bodyPost, results, Tryd.results47, go_sem]
  refine ⟨?_, ?_, ?_, ?_⟩
  · go_simp
  · go_simp
  · go_simp
  · exact ((Below.refl b w).setCell (p := ⟨b, 2, none⟩) (Nat.le_refl _) _).alloc (by simp; omega) _

end Go.Proofs.YtgemkjickljedaaDoor.Lit
