/- Two rows that grow by appends: a dictionary's keys and values. Conditions: none. -/
import Derived.Test.YtnpedhdonfdbmaaDoorQG
import Derived.Test.YtnpedhdonfdbmaaDoorOK
namespace Go.Proofs.YtnpedhdonfdbmaaDoor
open Go.ChangeShapes Go.WideShapes Go.ChangeAt Go.RowKit Go.Sort

theorem wp_append_own2 {P : Program} {w : World} {o : Oper} {a : Act} {K : Act → World → Prop} {Q : Exit → Act → World → Prop} (s x : Operand) (t : TypeId)
    (ho : o.op = .call { callee := .builtin .append, args := #[s, x], argTypes := #[t, t] })
    (base : Nat) (e : TypeId) (i : TypeInfo) (z : Value) (size bytes : Nat) (ht : P.underlying t = some (.slice e)) (hi : P.info? e = some i) (hz : i.zero = some z)
    (hsize : i.size = size) (hby : i.bytes = bytes) (hzs : z.cells.size = size) (hsz : 0 < size)
    (v : Value) (n : Nat) (xs : List Value) (hs : a.eval s = v) (hown : w.ownsRow base e size v n xs)
    (ad : Addr) (m c : Nat) (news : List Value) (hx : a.eval x = .slice (some ad) m c) (hl : news.length = m * size) (hnews : ∀ j u, news[j]? = some u → w.cell? (ad.add j) = some u) (h1 : ∀ u ∈ news, u.oneCell' = true)
    (h63 : n + m ≤ maxLen) (hbytes : (n + m) * bytes ≤ 140737488355328) (hbase : base ≤ w.heap.size)
    (h : ∀ p k c w', w'.ownsRow base e size (.slice p k c) (n + m) (xs ++ news) → w.grownBy w' v.ownBlock → ((Value.slice p k c).ownBlock = v.ownBlock ∨ (Value.slice p k c).ownBlock = some w.heap.size) → K (a.put o.dst (.slice p k c)) w') :
    Oper.wp P o a w K Q := by
  obtain ⟨v', w', hr, h2, h3, h4, h5⟩ := run_append_own_at (P := P) w base t o.type e i z size bytes ht hi hz hsize hby hzs hsz v n xs hown ad m c news hl hnews h1 h63 hbytes hbase
  have hK : K (a.put o.dst v') w' := by
    rcases Joins.ownsRow_forms h2 with ⟨rfl, _⟩ | ⟨g, cap, rfl⟩
    · exact h _ _ _ _ h2 h3 h5
    · exact h _ _ _ _ h2 h3 h5
  unfold Oper.wp execOp
  simp only [ho, resolve, invoke, builtin, Sem.run_bind, Sem.run_pure, Result.andThen_ok, List.map_toArray, List.map_cons, List.map_nil, hs, hx, hr]
  exact hK

/-- The rows of keys and of values. -/
structure Ro (N nk nc : Nat) (kv cv : Value) (kl cl : List Value) (w : World) : Prop where
  keys : w.ownsRow (N + 1) 9 1 kv nk kl
  kids : w.ownsRow (N + 1) 36 7 cv nc cl
  ap : Ap kv cv
theorem Ro.above {N nk nc : Nat} {kv cv : Value} {kl cl : List Value} {w w' : World} (h : Ro N nk nc kv cv kl cl w) (b : Below w.heap.size w w') : Ro N nk nc kv cv kl cl w' :=
  ⟨own_block h.keys fun g _ h2 => b.block g h2, own_block h.kids fun g _ h2 => b.block g h2, h.ap⟩
theorem Ro.set {N nk nc : Nat} {kv cv : Value} {kl cl : List Value} {w : World} (h : Ro N nk nc kv cv kl cl w) (o : Nat) (v : Value) : Ro N nk nc kv cv kl cl (w.setCell ⟨N, o, none⟩ v) :=
  ⟨own_block h.keys fun g h1 _ => Below.heap_setCell _ ⟨N, o, none⟩ _ _ (by show g ≠ N; omega), own_block h.kids fun g h1 _ => Below.heap_setCell _ ⟨N, o, none⟩ _ _ (by show g ≠ N; omega), h.ap⟩
theorem Ro.key {N nk nc nk' : Nat} {kv cv v' : Value} {kl cl kl' : List Value} {w w' : World} (h : Ro N nk nc kv cv kl cl w) (hown : w'.ownsRow (N + 1) 9 1 v' nk' kl') (hg : w.grownBy w' kv.ownBlock)
    (hob : v'.ownBlock = kv.ownBlock ∨ v'.ownBlock = some w.heap.size) : Ro N nk' nc v' cv kl' cl w' := by
  have hyl := h.kids.lt
  refine ⟨hown, h.kids.kept hg ?_, ?_⟩
  · cases hyb : cv.ownBlock with
    | none => exact .inl rfl
    | some g => exact .inr fun e => h.ap g e.symm hyb
  · intro g h1 h2
    rcases hob with h3 | h3
    · exact h.ap g (h3.symm.trans h1) h2
    · have := (hyl g h2).2
      rw [h3] at h1
      have := Option.some.inj h1
      omega
theorem Ro.kid {N nk nc nc' : Nat} {kv cv v' : Value} {kl cl cl' : List Value} {w w' : World} (h : Ro N nk nc kv cv kl cl w) (hown : w'.ownsRow (N + 1) 36 7 v' nc' cl') (hg : w.grownBy w' cv.ownBlock)
    (hob : v'.ownBlock = cv.ownBlock ∨ v'.ownBlock = some w.heap.size) : Ro N nk nc' kv v' kl cl' w' := by
  have hyl := h.keys.lt
  refine ⟨h.keys.kept hg ?_, hown, ?_⟩
  · cases hyb : kv.ownBlock with
    | none => exact .inl rfl
    | some g => exact .inr fun e => h.ap g hyb e.symm
  · intro g h2 h1
    rcases hob with h3 | h3
    · exact h.ap g h2 (h3.symm.trans h1)
    · have := (hyl g h2).2
      rw [h3] at h1
      have := Option.some.inj h1
      omega
theorem Ro.nil (N : Nat) (w : World) : Ro N 0 0 (.slice none 0 0) (.slice none 0 0) [] [] w := ⟨World.ownsRow_nil _ _ _ _, World.ownsRow_nil _ _ _ _, fun g h => by cases h⟩
/-- What lay below the rows is as it was. -/
theorem grown_below {N e size n : Nat} {w w' : World} {v : Value} {xs : List Value} (hown : w.ownsRow (N + 1) e size v n xs) (hN : N < w.heap.size) (hg : w.grownBy w' v.ownBlock) : Below (N + 1) w w' :=
  (Below.refl _ _).grown hg (by omega) (fun k hk => (hown.lt k hk).1)

theorem news_cells {w : World} {b : Nat} {news : List Value} (h : ∀ j, j < news.length → w.cell? ⟨b, j, none⟩ = news[j]?) : ∀ j u, news[j]? = some u → w.cell? ((⟨b, 0, none⟩ : Addr).add j) = some u := fun j u hu => by
  rw [Addr.add_mid, Nat.zero_add, h j (List.getElem?_eq_some_iff.1 hu).1]; exact hu
theorem news_block {w : World} {b : Nat} {cs : Array Value} {t : TypeId} {f : Nat × Nat} (h : w.heap[b]? = some (.cells cs t f)) : ∀ j u, cs.toList[j]? = some u → w.cell? ((⟨b, 0, none⟩ : Addr).add j) = some u := fun j u hu => by
  rw [Addr.add_mid, Nat.zero_add, cell_of_row w b j cs t f h]; simpa using hu

theorem wpAnyG_rest {P : Program} {ops : Array Oper} {Q : Exit → Act → World → Prop} {md : Region.Mode} {S : World → Prop} {tl : List Nat} : ∀ (fuel : Nat) (listed : Array Bool) (a : Act) (w : World), (∀ i, listed.getD i true = false → tl.contains i = true) → wpAny P md ops Q fuel listed a w → wpAnyG P md ops Q S tl fuel listed a w
  | 0, _, _, _, _, h => h
  | fuel + 1, listed, a, w, hl, h => ⟨h.1, fun i hi => wpOp_mono (fun a' w' h' => ⟨fun h0 => (by rw [hl i (mem_ready.1 hi).1] at h0; cases h0), wpAnyG_rest fuel _ a' w' (fun j hj => by
      by_cases hij : i = j
      · subst hij; exact hl i (mem_ready.1 hi).1
      · rw [getD_set_ne true hij] at hj; exact hl j hj) h'⟩) (h.2 i hi)⟩

end Go.Proofs.YtnpedhdonfdbmaaDoor
