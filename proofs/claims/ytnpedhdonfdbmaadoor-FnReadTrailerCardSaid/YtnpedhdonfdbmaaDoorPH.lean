/- The object whose rows grow: its cells and its rows. The trailer's dictionary. Conditions: none. -/
import Derived.Test.YtnpedhdonfdbmaaDoorPG
import Derived.Laws.OwnMore
namespace Go.Proofs.YtnpedhdonfdbmaaDoor
open Go.ChangeShapes Go.WideShapes Go.ChangeAt Go.RowKit Go.Sort

/-- The object lies at the first new block. -/
structure St (w0 : World) (nk nc : Nat) (kv cv : Value) (kl cl : List Value) (k5 c6 : Value) (w : World) : Prop where
  ro : Ro w0.heap.size nk nc kv cv kl cl w
  c0 : w.cell? ⟨w0.heap.size, 0, none⟩ = some (.int .i64 8)
  c1 : w.cell? ⟨w0.heap.size, 1, none⟩ = some (.int .i64 0)
  c2 : w.cell? ⟨w0.heap.size, 2, none⟩ = some (.int .i64 0)
  c3 : w.cell? ⟨w0.heap.size, 3, none⟩ = some (.float .f64 0)
  c4 : w.cell? ⟨w0.heap.size, 4, none⟩ = some (.string ⟨#[]⟩)
  c5 : w.cell? ⟨w0.heap.size, 5, none⟩ = some k5
  c6 : w.cell? ⟨w0.heap.size, 6, none⟩ = some c6
  f5 : w.frozen? ⟨w0.heap.size, 5, none⟩ = false
  f6 : w.frozen? ⟨w0.heap.size, 6, none⟩ = false
  b : Below w0.heap.size w0 w
section
variable {w0 w w' : World} {nk nc nk' nc' : Nat} {kv cv kv' cv' k5 c6 : Value} {kl cl kl' cl' : List Value}
theorem St.re (h : St w0 nk nc kv cv kl cl k5 c6 w) (b : Below (w0.heap.size + 1) w w') (r : Ro w0.heap.size nk' nc' kv' cv' kl' cl' w') : St w0 nk' nc' kv' cv' kl' cl' k5 c6 w' := by
  have hb := b.block w0.heap.size (Nat.lt_succ_self _)
  have hc : ∀ o, w'.cell? ⟨w0.heap.size, o, none⟩ = w.cell? ⟨w0.heap.size, o, none⟩ := fun o => World.cell?_of_block (a := ⟨w0.heap.size, o, none⟩) hb
  have hf : ∀ o, w'.frozen? ⟨w0.heap.size, o, none⟩ = w.frozen? ⟨w0.heap.size, o, none⟩ := fun o => World.frozen?_of_block (a := ⟨w0.heap.size, o, none⟩) hb
  exact ⟨r, (hc 0).trans h.c0, (hc 1).trans h.c1, (hc 2).trans h.c2, (hc 3).trans h.c3, (hc 4).trans h.c4, (hc 5).trans h.c5, (hc 6).trans h.c6, (hf 5).trans h.f5, (hf 6).trans h.f6, h.b.trans (b.mono (Nat.le_succ _))⟩
theorem St.lt (h : St w0 nk nc kv cv kl cl k5 c6 w) : w0.heap.size < w.heap.size := block_lt_of_cell h.c0
theorem St.above (h : St w0 nk nc kv cv kl cl k5 c6 w) (b : Below w.heap.size w w') : St w0 nk nc kv cv kl cl k5 c6 w' := h.re (b.mono h.lt) (h.ro.above b)
theorem St.key (h : St w0 nk nc kv cv kl cl k5 c6 w) (hown : w'.ownsRow (w0.heap.size + 1) 9 1 kv' nk' kl') (hg : w.grownBy w' kv.ownBlock) (hob : kv'.ownBlock = kv.ownBlock ∨ kv'.ownBlock = some w.heap.size) : St w0 nk' nc kv' cv kl' cl k5 c6 w' :=
  h.re (grown_below h.ro.keys h.lt hg) (h.ro.key hown hg hob)
theorem St.kid (h : St w0 nk nc kv cv kl cl k5 c6 w) (hown : w'.ownsRow (w0.heap.size + 1) 36 7 cv' nc' cl') (hg : w.grownBy w' cv.ownBlock) (hob : cv'.ownBlock = cv.ownBlock ∨ cv'.ownBlock = some w.heap.size) : St w0 nk nc' kv cv' kl cl' k5 c6 w' :=
  h.re (grown_below h.ro.kids h.lt hg) (h.ro.kid hown hg hob)
theorem St.set5 (h : St w0 nk nc kv cv kl cl k5 c6 w) (p : Option Addr) (n k : Nat) : St w0 nk nc kv cv kl cl (.slice p n k) c6 (w.setCell ⟨w0.heap.size, 5, none⟩ (.slice p n k)) := by
  obtain ⟨r, c0, c1, c2, c3, c4, c5, c6, f5, f6, b⟩ := h
  have l := block_lt_of_cell c0
  have hr := r.set 5 (.slice p n k)
  have hb : Below w0.heap.size w0 (w.setCell ⟨w0.heap.size, 5, none⟩ (.slice p n k)) := b.setCell (Nat.le_refl _) _
  clear r b
  refine ⟨hr, ?_, ?_, ?_, ?_, ?_, ?_, ?_, ?_, ?_, hb⟩ <;> go_simp
theorem St.set6 (h : St w0 nk nc kv cv kl cl k5 c6 w) (p : Option Addr) (n k : Nat) : St w0 nk nc kv cv kl cl k5 (.slice p n k) (w.setCell ⟨w0.heap.size, 6, none⟩ (.slice p n k)) := by
  obtain ⟨r, c0, c1, c2, c3, c4, c5, c6, f5, f6, b⟩ := h
  have l := block_lt_of_cell c0
  have hr := r.set 6 (.slice p n k)
  have hb : Below w0.heap.size w0 (w.setCell ⟨w0.heap.size, 6, none⟩ (.slice p n k)) := b.setCell (Nat.le_refl _) _
  clear r b
  refine ⟨hr, ?_, ?_, ?_, ?_, ?_, ?_, ?_, ?_, ?_, hb⟩ <;> go_simp
theorem St.first (w : World) : St w 0 0 (.slice none 0 0) (.slice none 0 0) [] [] (.slice none 0 0) (.slice none 0 0) (w.alloc (.cells #[.int .i64 8, .int .i64 0, .int .i64 0, .float .f64 0, .string ⟨#[]⟩, .slice none 0 0, .slice none 0 0] 36)) := by
  refine ⟨Ro.nil _ _, ?_, ?_, ?_, ?_, ?_, ?_, ?_, ?_, ?_, below_al (Below.refl _ _) _⟩ <;> go_simp
end

def tEs2 (sz rt : Int) : Array MapEntry := #[ME ⟨#[82, 111, 111, 116]⟩ (.iface 109 (.agg #[.int .i64 rt, .int .i64 0])) 0, ME ⟨#[83, 105, 122, 101]⟩ (.iface 107 (.int .i64 sz)) 1]
def tEs3 (sz rt nf : Int) : Array MapEntry := #[ME ⟨#[73, 110, 102, 111]⟩ (.iface 109 (.agg #[.int .i64 nf, .int .i64 0])) 0, ME ⟨#[82, 111, 111, 116]⟩ (.iface 109 (.agg #[.int .i64 rt, .int .i64 0])) 1, ME ⟨#[83, 105, 122, 101]⟩ (.iface 107 (.int .i64 sz)) 2]
def oRef (n : Int) : List Value := [.int .i64 9, .int .i64 n, .int .i64 0, .float .f64 0, .string ⟨#[]⟩, .slice none 0 0, .slice none 0 0]
def oInt (n : Int) : List Value := [.int .i64 2, .int .i64 n, .int .i64 0, .float .f64 0, .string ⟨#[]⟩, .slice none 0 0, .slice none 0 0]
theorem pn_info : Pn ⟨#[73, 110, 102, 111]⟩ := ⟨by decide, by decide⟩
theorem pn_root : Pn ⟨#[82, 111, 111, 116]⟩ := ⟨by decide, by decide⟩
theorem pn_size : Pn ⟨#[83, 105, 122, 101]⟩ := ⟨by decide, by decide⟩
theorem mp2 (sz rt : Int) : Mp (tEs2 sz rt) 2 sz rt 0 :=
  ⟨⟨1, (find1 _ _ _ _ _ _ (by decide)).trans (find0 _ _ _ _ _ (by decide))⟩, ⟨0, find0 _ _ _ _ _ (by decide)⟩,
   .inl ⟨rfl, fun x hx => by simp [tEs2] at hx; rcases hx with rfl | rfl; exact ⟨_, rfl, pn_root, by kernel_rfl, by decide⟩; exact ⟨_, rfl, pn_size, by kernel_rfl, by decide⟩, fun x hx => by simp [tEs2] at hx; rcases hx with rfl | rfl <;> simp [ME], by simp [tEs2, ME]⟩,
   ⟨fun x hx => by simp [tEs2] at hx; rcases hx with rfl | rfl; exact ⟨_, rfl, pn_root, by kernel_rfl, by decide⟩; exact ⟨_, rfl, pn_size, by kernel_rfl, by decide⟩, fun x hx => by simp [tEs2] at hx; rcases hx with rfl | rfl <;> simp [ME], by simp [tEs2, ME]⟩,
   ⟨fun x hx => by simp [tEs2] at hx; rcases hx with rfl | rfl; exact ⟨_, rfl, pn_root, by kernel_rfl, by decide⟩; exact ⟨_, rfl, pn_size, by kernel_rfl, by decide⟩, fun x hx => by simp [tEs2] at hx; rcases hx with rfl | rfl <;> simp [ME], by simp [tEs2, ME]⟩⟩
theorem mp3 (sz rt nf : Int) (h : 0 < nf) : Mp (tEs3 sz rt nf) 3 sz rt nf :=
  ⟨⟨2, (find1 _ _ _ _ _ _ (by decide)).trans ((find1 _ _ _ _ _ _ (by decide)).trans (find0 _ _ _ _ _ (by decide)))⟩, ⟨1, (find1 _ _ _ _ _ _ (by decide)).trans (find0 _ _ _ _ _ (by decide))⟩,
   .inr ⟨h, 0, find0 _ _ _ _ _ (by decide)⟩,
   ⟨fun x hx => by simp [tEs3] at hx; rcases hx with rfl | rfl | rfl; exact ⟨_, rfl, pn_info, by kernel_rfl, by decide⟩; exact ⟨_, rfl, pn_root, by kernel_rfl, by decide⟩; exact ⟨_, rfl, pn_size, by kernel_rfl, by decide⟩, fun x hx => by simp [tEs3] at hx; rcases hx with rfl | rfl | rfl <;> simp [ME], by simp [tEs3, ME]⟩,
   ⟨fun x hx => by simp [tEs3] at hx; rcases hx with rfl | rfl | rfl; exact ⟨_, rfl, pn_info, by kernel_rfl, by decide⟩; exact ⟨_, rfl, pn_root, by kernel_rfl, by decide⟩; exact ⟨_, rfl, pn_size, by kernel_rfl, by decide⟩, fun x hx => by simp [tEs3] at hx; rcases hx with rfl | rfl | rfl <;> simp [ME], by simp [tEs3, ME]⟩⟩

/-- impl.dict of the keys. -/
theorem trail2 (sz rt : Int) (B kb cb kc cc : Nat) (w : World) (hk : w.ownsRow B 9 1 (.slice (some ⟨kb, 0, none⟩) 2 kc) 2 [.string ⟨#[82, 111, 111, 116]⟩, .string ⟨#[83, 105, 122, 101]⟩])
    (hc : w.ownsRow B 36 7 (.slice (some ⟨cb, 0, none⟩) 2 cc) 2 (oRef rt ++ oInt sz)) : DictTo w (.slice (some ⟨kb, 0, none⟩) 2 kc) (.slice (some ⟨cb, 0, none⟩) 2 cc) (tEs2 sz rt) 2 := by
  intro w' b
  have hk0 := hk.cellAt 0 (by decide)
  have hk1 := hk.cellAt 1 (by decide)
  have hc' : ∀ j, j < 14 → w.cell? ⟨cb, j, none⟩ = some ((oRef rt ++ oInt sz).toArray.getD j undef) := fun j hj => by
    rw [hc.cellAt j (by omega), List.getElem?_eq_getElem (by simpa [oRef, oInt] using hj)]
    simp [Array.getD, oRef, oInt, hj]
  have lk := block_lt_of_cell hk0
  have lc := block_lt_of_cell (hc' 0 (by decide))
  have hh := below_cells b
  exact dict2 _ _ (.iface 109 (.agg #[.int .i64 rt, .int .i64 0])) (.iface 107 (.int .i64 sz)) (fun j => (oRef rt ++ oInt sz).toArray.getD j undef) kb cb kc cc w' ((hh _ _ lk).trans hk0) ((hh _ _ lk).trans hk1) (fun j hj => (hh _ _ lc).trans (hc' j hj))
    (fun w => object_ref rt w) (fun w => object_int sz w) (by decide)
theorem trail3 (sz rt nf : Int) (B kb cb kc cc : Nat) (w : World) (hk : w.ownsRow B 9 1 (.slice (some ⟨kb, 0, none⟩) 3 kc) 3 [.string ⟨#[73, 110, 102, 111]⟩, .string ⟨#[82, 111, 111, 116]⟩, .string ⟨#[83, 105, 122, 101]⟩])
    (hc : w.ownsRow B 36 7 (.slice (some ⟨cb, 0, none⟩) 3 cc) 3 (oRef nf ++ (oRef rt ++ oInt sz))) : DictTo w (.slice (some ⟨kb, 0, none⟩) 3 kc) (.slice (some ⟨cb, 0, none⟩) 3 cc) (tEs3 sz rt nf) 3 := by
  intro w' b
  have hk0 := hk.cellAt 0 (by decide)
  have hk1 := hk.cellAt 1 (by decide)
  have hk2 := hk.cellAt 2 (by decide)
  have hc' : ∀ j, j < 21 → w.cell? ⟨cb, j, none⟩ = some ((oRef nf ++ (oRef rt ++ oInt sz)).toArray.getD j undef) := fun j hj => by
    rw [hc.cellAt j (by omega), List.getElem?_eq_getElem (by simpa [oRef, oInt] using hj)]
    simp [Array.getD, oRef, oInt, hj]
  have lk := block_lt_of_cell hk0
  have lc := block_lt_of_cell (hc' 0 (by decide))
  have hh := below_cells b
  exact dict3 _ _ _ (.iface 109 (.agg #[.int .i64 nf, .int .i64 0])) (.iface 109 (.agg #[.int .i64 rt, .int .i64 0])) (.iface 107 (.int .i64 sz)) (fun j => (oRef nf ++ (oRef rt ++ oInt sz)).toArray.getD j undef) kb cb kc cc w' ((hh _ _ lk).trans hk0) ((hh _ _ lk).trans hk1) ((hh _ _ lk).trans hk2) (fun j hj => (hh _ _ lc).trans (hc' j hj))
    (fun w => object_ref nf w) (fun w => object_ref rt w) (fun w => object_int sz w) (by decide) (by decide) (by decide)

end Go.Proofs.YtnpedhdonfdbmaaDoor
