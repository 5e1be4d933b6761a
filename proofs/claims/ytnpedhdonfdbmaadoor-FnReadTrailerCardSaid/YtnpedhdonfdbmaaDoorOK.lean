/- spec.Prolog returns. Conditions: at most 4096 bytes, at most 1000 pairs; the errors of package strconv are there. -/
import Derived.Test.YtnpedhdonfdbmaaDoorOJ
import Derived.Maps.AppendAt
namespace Go.Proofs.YtnpedhdonfdbmaaDoor
open Go.ChangeShapes Go.WideShapes Go.ChangeAt Go.RowKit Go.Sort

theorem atoi_all (S : ByteArray) (hS : S.size ≤ 4096) (T3 T4 : TypeId) (p3 p4 : Value) (w : World) (h3 : w.cell? ⟨3, 0, none⟩ = some (.iface T3 p3)) (h4 : w.cell? ⟨4, 0, none⟩ = some (.iface T4 p4)) :
    Calls Tryd.prog 16 #[.string S] w fun e w' => ∃ v ev, e = .returned (.tuple #[.int .i64 v, ev]) ∧ (ev = .nilIface ∨ ∃ T p, ev = .iface T p) ∧ Below w.heap.size w w' := by
  cases hh : Lib.atoiAll S.data.toList
  all_goals first
    | exact (Tryd.strconv_Atoi_ok S (by omega) _ hh w).mono fun e w' ⟨h1, h2⟩ => ⟨_, _, h1, .inl rfl, below_bytes h2⟩
    | exact (Tryd.strconv_Atoi_range S (by omega) hh _ w h4 (.inr ⟨_, _, rfl⟩)).mono fun e w' ⟨N, h1, _, _, h2⟩ => ⟨_, _, h1, .inr ⟨_, _, rfl⟩, h2⟩
    | exact (Any.strconv_Atoi_syntax Tryd.laysC172 S (by omega) hh _ w h3 (.inr ⟨_, _, rfl⟩)).mono fun e w' ⟨N, h1, _, _, h2⟩ => ⟨_, _, h1, .inr ⟨_, _, rfl⟩, h2⟩

theorem own_block {w w' : World} {B : Nat} {e : TypeId} {size n : Nat} {v : Value} {xs : List Value} (ho : w.ownsRow B e size v n xs) (hk : ∀ g, B ≤ g → g < w.heap.size → w'.heap[g]? = w.heap[g]?) : w'.ownsRow B e size v n xs := by
  refine ⟨ho.1, ?_⟩
  have hl := ho.lt
  rcases ho.2 with hn | ⟨g, cap, cur, rfl, hB, hgg, rest⟩
  · exact .inl hn
  · exact .inr ⟨g, cap, cur, rfl, hB, (hk g hB (hl g rfl).2).trans hgg, rest⟩
theorem Rd.of_block {b : Nat} {t : ByteArray} {a : Nat} {o : Bool} {w w' : World} (R : Rd b t a o w) (h : w'.heap[b]? = w.heap[b]?) : Rd b t a o w' :=
  ⟨(World.cell?_of_block (a := ⟨b, 0, none⟩) h).trans R.s, (World.cell?_of_block (a := ⟨b, 1, none⟩) h).trans R.at_, (World.cell?_of_block (a := ⟨b, 4, none⟩) h).trans R.odd,
    (World.frozen?_of_block (a := ⟨b, 1, none⟩) h).trans R.f1, (World.frozen?_of_block (a := ⟨b, 4, none⟩) h).trans R.f4⟩

/-- No block is owned twice. -/
def Ap (x y : Value) : Prop := ∀ g, x.ownBlock = some g → y.ownBlock = some g → False

/-- What the loops of Prolog keep: two rows of at most m numbers, the reader. -/
structure Pl (b : Nat) (s : ByteArray) (w : World) (m : Nat) (x y : Value) (wr : World) : Prop where
  rows : ∃ i j xs ys, i ≤ m ∧ j ≤ m ∧ wr.ownsRow (b + 1) 3 1 x i xs ∧ wr.ownsRow (b + 1) 3 1 y j ys
  ap : Ap x y
  rd : ∃ a o, a ≤ s.size ∧ Rd b s a o wr
  below : Below b w wr
  size : b < wr.heap.size
theorem Pl.turn {b m : Nat} {s : ByteArray} {w w1 w2 : World} {x y : Value} (h : Pl b s w m x y w1) (p : PsQ b s w1 w2) : Pl b s w m x y w2 := by
  obtain ⟨⟨i, j, xs, ys, hi, hj, hx, hy⟩, hap, hr, hb, hz⟩ := h
  obtain ⟨a, o, ha, hR, hT⟩ := p
  exact ⟨⟨i, j, xs, ys, hi, hj, own_block hx fun g h1 _ => hT.other g (by omega), own_block hy fun g h1 _ => hT.other g (by omega)⟩, hap, ⟨a, o, ha, hR⟩, hb.trans hT.below, by rw [hT.size]; exact hz⟩
theorem Pl.above {b m : Nat} {s : ByteArray} {w w1 w2 : World} {x y : Value} (h : Pl b s w m x y w1) (p : Below w1.heap.size w1 w2) : Pl b s w m x y w2 := by
  obtain ⟨⟨i, j, xs, ys, hi, hj, hx, hy⟩, hap, ⟨a, o, ha, hR⟩, hb, hz⟩ := h
  exact ⟨⟨i, j, xs, ys, hi, hj, own_block hx fun g _ h2 => p.block g h2, own_block hy fun g _ h2 => p.block g h2⟩, hap, ⟨a, o, ha, hR.of_block (p.block b hz)⟩, hb.trans (p.mono (by omega)), by have := p.size; omega⟩
theorem Pl.le {b m m' : Nat} {s : ByteArray} {w w1 : World} {x y : Value} (h : Pl b s w m x y w1) (hm : m ≤ m') : Pl b s w m' x y w1 := by
  obtain ⟨⟨i, j, xs, ys, hi, hj, hx, hy⟩, hap, hr, hb, hz⟩ := h
  exact ⟨⟨i, j, xs, ys, by omega, by omega, hx, hy⟩, hap, hr, hb, hz⟩
theorem Pl.swap {b m : Nat} {s : ByteArray} {w w1 : World} {x y : Value} (h : Pl b s w m x y w1) : Pl b s w m y x w1 := by
  obtain ⟨⟨i, j, xs, ys, hi, hj, hx, hy⟩, hap, hr, hb, hz⟩ := h
  exact ⟨⟨j, i, ys, xs, hj, hi, hy, hx⟩, fun g h1 h2 => hap g h2 h1, hr, hb, hz⟩
/-- Behind an append to the first row. -/
theorem Pl.grown {b m i : Nat} {s : ByteArray} {w w1 w2 : World} {x y x' : Value} {o : Obj} {xs : List Value} (h : Pl b s w m x y w1) (hown : w2.ownsRow (b + 1) 3 1 x' (i + 1) xs) (hi : i ≤ m) (hg : (w1.alloc o).grownBy w2 x.ownBlock)
    (hob : x'.ownBlock = x.ownBlock ∨ x'.ownBlock = some (w1.alloc o).heap.size) : Pl b s w (m + 1) x' y w2 := by
  obtain ⟨⟨i', j, xs', ys, hi', hj, hx, hy⟩, hap, ⟨a, o', ha, hR⟩, hb, hz⟩ := h
  have hyl := hy.lt
  have hxl := hx.lt
  refine ⟨⟨i + 1, j, xs, ys, by omega, by omega, hown, (hy.alloc o).kept hg ?_⟩, ?_, ⟨a, o', ha, hR.of_block ?_⟩, ?_, ?_⟩
  · cases hyb : y.ownBlock with
    | none => exact .inl rfl
    | some g => exact .inr fun e => hap g e.symm hyb
  · intro g h1 h2
    rcases hob with h3 | h3
    · exact hap g (h3.symm.trans h1) h2
    · have := (hyl g h2).2
      rw [h3] at h1
      have := Option.some.inj h1
      simp at this; omega
  · rw [hg.block b (by simp; omega) (fun e => by have := (hxl b e.symm).1; omega), Below.heap_alloc _ _ _ (by omega)]
  · exact hb.trans (((Below.refl b w1).alloc (by omega) o).grown hg (by simp; omega) (fun k hk => by have := (hxl k hk).1; omega))
  · have := hg.size; simp at this; omega
theorem Pl.form {b m : Nat} {s : ByteArray} {w w1 : World} {x y : Value} (h : Pl b s w m x y w1) : ∃ p n k, x = .slice p n k := by
  obtain ⟨⟨i, j, xs, ys, hi, hj, hx, hy⟩, _⟩ := h
  rcases Joins.ownsRow_forms hx with ⟨rfl, _⟩ | ⟨g, cap, rfl⟩
  · exact ⟨_, _, _, rfl⟩
  · exact ⟨_, _, _, rfl⟩

end Go.Proofs.YtnpedhdonfdbmaaDoor
