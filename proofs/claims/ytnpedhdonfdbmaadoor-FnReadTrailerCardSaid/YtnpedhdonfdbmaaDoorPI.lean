/- The law FnReadTrailer within its bounds. Conditions: the numbers are within the bounds. -/
import Derived.Test.YtnpedhdonfdbmaaDoorPH
import Derived.Deep.DeepCutAuto
namespace Go.Proofs.YtnpedhdonfdbmaaDoor
open Go.ChangeShapes Go.WideShapes Go.ChangeAt Go.RowKit Go.Sort

attribute [local go_sem] run_store_float

def Nf (nf : Int) (n : Nat) (kl cl : List Value) : Prop := (nf = 0 ∧ n = 0 ∧ kl = [] ∧ cl = []) ∨ (0 < nf ∧ n = 1 ∧ kl = [.string ⟨#[73, 110, 102, 111]⟩] ∧ cl = oRef nf)
theorem Nf.le {nf : Int} {n : Nat} {kl cl : List Value} (h : Nf nf n kl cl) : n ≤ 1 := by rcases h with ⟨_, h, _⟩ | ⟨_, h, _⟩ <;> omega

theorem one_two (rt sz : Int) : ∀ u ∈ oRef rt ++ oInt sz, u.oneCell' = true := by
  have h : (oRef rt ++ oInt sz).all (·.oneCell') = true := by simp [oRef, oInt, Value.oneCell']
  exact fun u hu => List.all_eq_true.1 h u hu
theorem one_ref (rt : Int) : ∀ u ∈ oRef rt, u.oneCell' = true := by
  have h : (oRef rt).all (·.oneCell') = true := by simp [oRef, Value.oneCell']
  exact fun u hu => List.all_eq_true.1 h u hu

theorem St.dict {w0 w : World} {sz rt nf : Int} {n g cap cb cc : Nat} {kl cl : List Value} {k5 c6 : Value} (h : St w0 (n + 2) (n + 2) (.slice (some ⟨g, 0, none⟩) (n + 2) cap) (.slice (some ⟨cb, 0, none⟩) (n + 2) cc) (kl ++ [.string ⟨#[82, 111, 111, 116]⟩, .string ⟨#[83, 105, 122, 101]⟩]) (cl ++ (oRef rt ++ oInt sz)) k5 c6 w) (hn : Nf nf n kl cl) :
    ∃ es c, DictTo w (.slice (some ⟨g, 0, none⟩) (n + 2) cap) (.slice (some ⟨cb, 0, none⟩) (n + 2) cc) es c ∧ Mp es c sz rt nf := by
  rcases hn with ⟨rfl, rfl, rfl, rfl⟩ | ⟨h0, rfl, rfl, rfl⟩
  · exact ⟨_, _, trail2 sz rt _ _ _ _ _ w h.ro.keys h.ro.kids, mp2 sz rt⟩
  · exact ⟨_, _, trail3 sz rt nf _ _ _ _ _ w h.ro.keys h.ro.kids, mp3 sz rt nf h0⟩

theorem trL_len (s r k n : Int) : (trL s r k n).length = 29 := rfl
theorem store_tr (w : World) (s r k n : Int) : ∃ w', (storeCells ⟨w.heap.size, 0, none⟩ (trL s r k n)).run Tryd.prog (w.alloc (.cells trZ 43)) = .ok () w' ∧ w'.rangeAt w.heap.size 0 (trL s r k n) ∧ Below w.heap.size w w' ∧ w.heap.size < w'.heap.size := by
  have hth := there_block (heap_alloc_new w (.cells trZ 43)) (n := 29) rfl
  have h1 := trL_one s r k n
  have hb := setCells_below (N := w.heap.size) (B := w.heap.size) (Nat.le_refl _) (trL s r k n) 0 _ (below_al (Below.refl w.heap.size w) (.cells trZ 43))
  refine ⟨_, run_storeCells_cells w.heap.size 0 (trL s r k n) 0 (w.alloc (.cells trZ 43)) (fun j hj => (hth j (by simpa [trL_len] using hj)).1) (fun j hj => (hth j (by simpa [trL_len] using hj)).2) (fun v hv => Array.all_eq_true_iff_forall_mem.1 h1 v (by simpa using hv)), World.rangeAt_setCells_same _ w.heap.size 0 (trL s r k n) hth, hb, ?_⟩
  have hr := World.rangeAt_setCells_same _ w.heap.size 0 (trL s r k n) hth
  exact block_lt_of_cell (hr 0 (.int .i64 s) rfl)

theorem wp_region_any' {P : Program} {ops : Array Oper} {Q : Exit → Act → World → Prop} {id : Nat} {a : Act} {w : World} (hm : P.follows .mixedOrders = true) (h : wpAny P .any ops Q ops.size (Array.replicate ops.size false) a w.drew) : (Code.region id ops true).wp P Q a w := wp_region_any hm h

set_option maxHeartbeats 2000000 in
set_option maxRecDepth 100000 in
theorem law_core (sz rt nf : Int) (strict : Bool) (s1 : 1 ≤ sz) (s2 : sz ≤ 1048576) (r1 : 1 ≤ rt) (r2 : rt ≤ 1048576) (n1 : 0 ≤ nf) (n2 : nf ≤ 1048576) (w : World) :
    Calls Tryd.prog 5 #[.int .i64 sz, .int .i64 rt, .int .i64 nf, .bool strict] w fun e w' => e = .returned (.bool true) ∧ Below w.heap.size w w' := by
  obtain ⟨ik, hk, hk0, hk1, hk2⟩ := info_parts (show (Tryd.prog.info? 9).map (fun i => (i.zero, i.size, i.bytes)) = some (some (.string ⟨#[]⟩), 1, 16) by kernel_rfl)
  obtain ⟨ic, hc, hc0, hc1, hc2⟩ := info_parts (show (Tryd.prog.info? 36).map (fun i => (i.zero, i.size, i.bytes)) = some (some (.agg #[.int .i64 0, .int .i64 0, .int .i64 0, .float .f64 0, .string ⟨#[]⟩, .slice none 0 0, .slice none 0 0]), 7, 96) by kernel_rfl)
  have d1 : decide (sz < 1) = false := by simp; omega
  have d2 : decide (1048576 < sz) = false := by simp; omega
  have d3 : decide (rt < 1) = false := by simp; omega
  have d4 : decide (1048576 < rt) = false := by simp; omega
  have d5 : decide (nf < 0) = false := by simp; omega
  have d6 : decide (1048576 < nf) = false := by simp; omega
  have HK := Lib.hid hk
  have HC := Lib.hid hc
  have HN := Lib.hid (And.intro s1 (And.intro s2 (And.intro r1 (And.intro r2 (And.intro n1 n2)))))
  have HI := fun n w => int_obj n w
  clear s1 s2 r1 r2 n1 n2 hk hc
  go_enter Tryd.func5, Tryd.ntmps5
  go_upto_if 37 with (fail)
  go_cut [] (fun wx => ∃ n kl cl kp kk cp ck, Nf nf n kl cl ∧ St w n n (.slice kp n kk) (.slice cp n ck) kl cl (.slice kp n kk) (.slice cp n ck) wx)
  case first =>
    by_cases n0 : nf = 0
    · have d7 : decide (0 < nf) = false := by simp; omega
      have hS := St.first w
      have HS := Lib.hid hS
      have HN0 := Lib.hid n0
      clear hS n0
      rw [d7]
      go_wp2_with (fail)
      go_meet
      case rel => exact ⟨0, [], [], none, 0, none, 0, .inl ⟨HN0.out, rfl, rfl, rfl⟩, HS.out⟩
    · have d7 : decide (0 < nf) = true := by have := HN.out.2.2.2.2.1; simp; omega
      have H0 : Hid (0 < nf) := by have := HN.out.2.2.2.2.1; show 0 < nf; omega
      rw [d7]
      clear n0
      go_upto_region 5 with (fail)
      have HST : Hid (St w 0 0 (.slice none 0 0) (.slice none 0 0) [] [] (.slice none 0 0) (.slice none 0 0) (World.drew (w.alloc (.cells #[.int .i64 8, .int .i64 0, .int .i64 0, .float .f64 0, .string ⟨#[]⟩, .slice none 0 0, .slice none 0 0] 36)))) := (St.first w).above (below_dr (Below.refl _ _))
      refine wp_region_any' (by kernel_rfl) ?_
      generalize (World.drew (w.alloc (.cells #[.int .i64 8, .int .i64 0, .int .i64 0, .float .f64 0, .string ⟨#[]⟩, .slice none 0 0, .slice none 0 0] 36))) = v0 at *
      refine wpAny_take (i := 0) (oi := ⟨some 38, _, _, _, _, _⟩) (v := ?_) rfl (by kernel_rfl) (by kernel_rfl) (by kernel_rfl) (fun _ _ _ h => h) (Or.inl ⟨by rfl, ?_⟩) ?_
      rotate_left
      · intro w'
        go_simp
        try with_reducible rfl
      try simp only [Act.put, List.setIfInBounds_toArray, List.set_cons_zero, List.set_cons_succ]
      refine wpAny_take (i := 4) (oi := ⟨some 42, _, _, _, _, _⟩) (v := ?_) rfl (by kernel_rfl) (by kernel_rfl) (by kernel_rfl) (fun _ _ _ h => h) (Or.inl ⟨by rfl, ?_⟩) ?_
      rotate_left
      · intro w'
        go_simp
        try with_reducible rfl
      try simp only [Act.put, List.setIfInBounds_toArray, List.set_cons_zero, List.set_cons_succ]
      refine wpAny_take (i := 6) (oi := ⟨some 44, _, _, _, _, _⟩) (v := ?_) rfl (by kernel_rfl) (by kernel_rfl) (by kernel_rfl) (fun _ _ _ h => h) (Or.inl ⟨by rfl, ?_⟩) ?_
      rotate_left
      · intro w'
        go_simp
        try with_reducible rfl
      try simp only [Act.put, List.setIfInBounds_toArray, List.set_cons_zero, List.set_cons_succ]
      refine wpAny_take (i := 7) (oi := ⟨some 45, _, _, _, _, _⟩) (v := ?_) rfl (by kernel_rfl) (by kernel_rfl) (by kernel_rfl) (fun _ _ _ h => h) (Or.inl ⟨by rfl, ?_⟩) ?_
      rotate_left
      · intro w'
        go_simp
        try with_reducible rfl
      try simp only [Act.put, List.setIfInBounds_toArray, List.set_cons_zero, List.set_cons_succ]
      refine wpAny_of_G (S := St w 0 0 (.slice none 0 0) (.slice none 0 0) [] [] (.slice none 0 0) (.slice none 0 0)) (tl := [11, 12, 13]) _ _ _ _ ?_
      have HX := HST
      have hHeld := HX.out
      refine wpAnyG_take (i := 1) (oi := ⟨some 39, _, _, _, _, _⟩) (v := ?_) rfl (by kernel_rfl) (by kernel_rfl) (by kernel_rfl) (by kernel_rfl) (fun _ _ _ h => h) (Or.inl ⟨by rfl, ?_⟩) (by assumption) ?_
      rotate_left
      · intro w' hSw
        have g5 := hSw.c5
        have g6 := hSw.c6
        clear hSw
        go_simp
        try with_reducible rfl
      try simp only [Act.put, List.setIfInBounds_toArray, List.set_cons_zero, List.set_cons_succ]
      refine wpAnyG_take (i := 5) (oi := ⟨some 43, _, _, _, _, _⟩) (v := ?_) rfl (by kernel_rfl) (by kernel_rfl) (by kernel_rfl) (by kernel_rfl) (fun _ _ _ h => h) (Or.inl ⟨by rfl, ?_⟩) (by assumption) ?_
      rotate_left
      · intro w' hSw
        have g5 := hSw.c5
        have g6 := hSw.c6
        clear hSw
        go_simp
        try with_reducible rfl
      try simp only [Act.put, List.setIfInBounds_toArray, List.set_cons_zero, List.set_cons_succ]
      refine wpAnyG_ready (rs := [2, 8]) (by kernel_rfl) (by simp) ?_
      refine (AllReadyG.cons (o := ⟨some 40, _, _, _, _, _⟩) rfl (fun K hK => ?_) (AllReadyG.cons (o := ⟨some 46, _, _, _, _, _⟩) rfl (fun K hK => ?_) AllReadyG.nil))
      · go_simp
        refine hK.out _ _ ?_ (fun hHeld => ?_)
        · exact hHeld.above (below_al (Below.refl _ _) _)
        clear hHeld
        have hb := below_al (Below.refl v0.heap.size v0) (.cells #[.string ⟨#[73, 110, 102, 111]⟩] 9)
        have hnw := heap_alloc_new v0 (.cells #[.string ⟨#[73, 110, 102, 111]⟩] 9)
        have hsz : v0.heap.size < (v0.alloc (.cells #[.string ⟨#[73, 110, 102, 111]⟩] 9)).heap.size := by simp
        have H2 := Lib.hid (And.intro hnw hsz)
        replace HST := Lib.hid (HST.out.above hb)
        replace HX := Lib.hid (HX.out.above hb)
        clear hb hnw hsz
        clear hK K
        try simp only [Act.put, List.setIfInBounds_toArray, List.set_cons_zero, List.set_cons_succ]
        generalize v0.alloc (.cells #[.string ⟨#[73, 110, 102, 111]⟩] 9) = v1 at *
        generalize v0.heap.size = B2 at *
        have hHeld := HX.out
        refine wpAnyG_ready (rs := [3, 8]) (by kernel_rfl) (by simp) ?_
        refine (AllReadyG.cons (o := ⟨some 41, _, _, _, _, _⟩) rfl (fun K hK => ?_) (AllReadyG.cons (o := ⟨some 46, _, _, _, _, _⟩) rfl (fun K hK => ?_) AllReadyG.nil))
        · rw [if_pos (by simp [Region.wanted])]
          refine wp_append_own2 _ _ 32 rfl (w.heap.size + 1) 9 ik _ 1 16 Tryd.underlying32 HK.out hk0 hk1 hk2 rfl (by decide) (.slice none 0 0) 0 [] rfl HST.out.ro.keys ⟨B2, 0, none⟩ 1 1 [.string ⟨#[73, 110, 102, 111]⟩] rfl rfl (news_block H2.out.1) (by intro u hu; simp at hu; subst hu; rfl) (by unfold maxLen; omega) (by omega) HST.out.lt ?_
          intro p3 k3 c3 v2 hown hg hob
          obtain rfl : k3 = 1 := by
            rcases Joins.ownsRow_forms hown with ⟨_, h0⟩ | ⟨gg, cc, hcv⟩
            · omega
            · cases hcv; rfl
          have hb : Below v1.heap.size v1 v2 := (Below.refl _ _).grown hg (Nat.le_refl _) (fun k hk => by cases hk)
          replace HST := Lib.hid (HST.out.key hown hg hob)
          refine hK.out _ _ ?_ (fun hHeld => ?_)
          · exact HX.out.above hb
          clear hHeld
          replace HX := Lib.hid (HX.out.above hb)
          replace H2 := Lib.hid (And.intro ((hb.block _ H2.out.2).trans H2.out.1) (Nat.lt_of_lt_of_le H2.out.2 hb.size))
          clear hown hg hob hb
          clear hK K
          try simp only [Act.put, List.setIfInBounds_toArray, List.set_cons_zero, List.set_cons_succ]
          have hHeld := HX.out
          refine wpAnyG_take (i := 10) (oi := ⟨some 48, _, _, _, _, _⟩) (v := ?_) rfl (by kernel_rfl) (by kernel_rfl) (by kernel_rfl) (by kernel_rfl) (fun _ _ _ h => h) (Or.inl ⟨by rfl, ?_⟩) (by assumption) ?_
          rotate_left
          · intro w' hSw
            have g5 := hSw.c5
            have g6 := hSw.c6
            clear hSw
            go_simp
            try with_reducible rfl
          try simp only [Act.put, List.setIfInBounds_toArray, List.set_cons_zero, List.set_cons_succ]
          refine wpAnyG_ready (rs := [8]) (by kernel_rfl) (by simp) ?_
          refine (AllReadyG.cons (o := ⟨some 46, _, _, _, _, _⟩) rfl (fun K hK => ?_) AllReadyG.nil)
          go_simp
          refine hK.out _ _ ?_ (fun hHeld => ?_)
          · exact hHeld.above (below_al (Below.refl _ _) _)
          clear hHeld
          have hb := below_al (Below.refl v2.heap.size v2) (.cells #[.int .i64 9, .int .i64 nf, .int .i64 0, .float .f64 0, .string ⟨#[]⟩, .slice none 0 0, .slice none 0 0] 36)
          have hnw := heap_alloc_new v2 (.cells #[.int .i64 9, .int .i64 nf, .int .i64 0, .float .f64 0, .string ⟨#[]⟩, .slice none 0 0, .slice none 0 0] 36)
          have hsz : v2.heap.size < (v2.alloc (.cells #[.int .i64 9, .int .i64 nf, .int .i64 0, .float .f64 0, .string ⟨#[]⟩, .slice none 0 0, .slice none 0 0] 36)).heap.size := by simp
          replace H2 := Lib.hid (And.intro ((hb.block _ H2.out.2).trans H2.out.1) (Nat.lt_of_lt_of_le H2.out.2 hb.size))
          have H8 := Lib.hid (And.intro hnw hsz)
          replace HST := Lib.hid (HST.out.above hb)
          replace HX := Lib.hid (HX.out.above hb)
          clear hb hnw hsz
          clear hK K
          try simp only [Act.put, List.setIfInBounds_toArray, List.set_cons_zero, List.set_cons_succ]
          generalize v2.alloc (.cells #[.int .i64 9, .int .i64 nf, .int .i64 0, .float .f64 0, .string ⟨#[]⟩, .slice none 0 0, .slice none 0 0] 36) = v3 at *
          generalize v2.heap.size = B8 at *
          have hHeld := HX.out
          refine wpAnyG_ready (rs := [9]) (by kernel_rfl) (by simp) ?_
          refine (AllReadyG.cons (o := ⟨some 47, _, _, _, _, _⟩) rfl (fun K hK => ?_) AllReadyG.nil)
          rw [if_pos (by simp [Region.wanted])]
          refine wp_append_own2 _ _ 34 rfl (w.heap.size + 1) 36 ic _ 7 96 Tryd.underlying34 HC.out hc0 hc1 hc2 rfl (by decide) (.slice none 0 0) 0 [] rfl HST.out.ro.kids ⟨B8, 0, none⟩ 1 1 (oRef nf) rfl rfl (news_block H8.out.1) (one_ref nf) (by unfold maxLen; omega) (by omega) HST.out.lt ?_
          intro p9 k9 c9 v4 hown hg hob
          obtain rfl : k9 = 1 := by
            rcases Joins.ownsRow_forms hown with ⟨_, h0⟩ | ⟨gg, cc, hcv⟩
            · omega
            · cases hcv; rfl
          have hb : Below v3.heap.size v3 v4 := (Below.refl _ _).grown hg (Nat.le_refl _) (fun k hk => by cases hk)
          replace HST := Lib.hid (HST.out.kid hown hg hob)
          refine hK.out _ _ ?_ (fun hHeld => ?_)
          · exact HX.out.above hb
          clear hHeld
          replace HX := Lib.hid (HX.out.above hb)
          replace H2 := Lib.hid (And.intro ((hb.block _ H2.out.2).trans H2.out.1) (Nat.lt_of_lt_of_le H2.out.2 hb.size))
          replace H8 := Lib.hid (And.intro ((hb.block _ H8.out.2).trans H8.out.1) (Nat.lt_of_lt_of_le H8.out.2 hb.size))
          clear hown hg hob hb
          clear hK K
          try simp only [Act.put, List.setIfInBounds_toArray, List.set_cons_zero, List.set_cons_succ]
          have hHeld := HX.out
          refine wpAnyG_ready (rs := [11]) (by kernel_rfl) (by simp) ?_
          refine (AllReadyG.last (o := ⟨none, _, _, _, _, _⟩) rfl (by kernel_rfl) (fun K hK => ?_) AllReadyG.nil)
          have f5 := HST.out.f5
          have c5' := HST.out.c5
          go_simp
          refine hK.out _ _ ?_
          replace HST := Lib.hid (HST.out.set5 p3 1 c3)
          clear f5 c5' hHeld HX
          clear hK K
          try simp only [Act.put, List.setIfInBounds_toArray, List.set_cons_zero, List.set_cons_succ]
          generalize v4.setCell ⟨w.heap.size, 5, none⟩ (.slice p3 1 c3) = v5 at *
          refine wpAnyG_rest _ _ _ _ (by intro i hi; match i, hi with | 12, _ => rfl | 13, _ => rfl) ?_
          refine wpAny_take (i := 12) (oi := ⟨some 49, _, _, _, _, _⟩) (v := ?_) rfl (by kernel_rfl) (by kernel_rfl) (by kernel_rfl) (fun _ _ _ h => h) (Or.inl ⟨by rfl, ?_⟩) ?_
          rotate_left
          · intro w'
            go_simp
            try with_reducible rfl
          try simp only [Act.put, List.setIfInBounds_toArray, List.set_cons_zero, List.set_cons_succ]
          refine wpAny_ready (rs := [13]) (by kernel_rfl) (by simp) ?_
          refine AllReady.cons (o := ⟨none, _, _, _, _, _⟩) rfl (fun K hK => ?_) AllReady.nil
          have f6 := HST.out.f6
          have c6' := HST.out.c6
          have HKK := Lib.hid hK
          clear hK
          go_simp
          refine HKK.out _ _ ?_
          clear f6 c6' HKK K
          try simp only [Act.put, List.setIfInBounds_toArray, List.set_cons_zero, List.set_cons_succ]
          replace HST := Lib.hid (HST.out.set6 p9 1 c9)
          refine wpAny_done (by kernel_rfl) ?_ _
          go_wp2_with (fail)
          go_meet
          case rel => exact ⟨1, _, _, p3, c3, p9, c9, .inr ⟨H0.out, rfl, rfl, rfl⟩, HST.out⟩
        · go_simp
          refine hK.out _ _ ?_ (fun hHeld => ?_)
          · exact hHeld.above (below_al (Below.refl _ _) _)
          clear hHeld
          have hb := below_al (Below.refl v1.heap.size v1) (.cells #[.int .i64 9, .int .i64 nf, .int .i64 0, .float .f64 0, .string ⟨#[]⟩, .slice none 0 0, .slice none 0 0] 36)
          have hnw := heap_alloc_new v1 (.cells #[.int .i64 9, .int .i64 nf, .int .i64 0, .float .f64 0, .string ⟨#[]⟩, .slice none 0 0, .slice none 0 0] 36)
          have hsz : v1.heap.size < (v1.alloc (.cells #[.int .i64 9, .int .i64 nf, .int .i64 0, .float .f64 0, .string ⟨#[]⟩, .slice none 0 0, .slice none 0 0] 36)).heap.size := by simp
          replace H2 := Lib.hid (And.intro ((hb.block _ H2.out.2).trans H2.out.1) (Nat.lt_of_lt_of_le H2.out.2 hb.size))
          have H8 := Lib.hid (And.intro hnw hsz)
          replace HST := Lib.hid (HST.out.above hb)
          replace HX := Lib.hid (HX.out.above hb)
          clear hb hnw hsz
          clear hK K
          try simp only [Act.put, List.setIfInBounds_toArray, List.set_cons_zero, List.set_cons_succ]
          generalize v1.alloc (.cells #[.int .i64 9, .int .i64 nf, .int .i64 0, .float .f64 0, .string ⟨#[]⟩, .slice none 0 0, .slice none 0 0] 36) = v2 at *
          generalize v1.heap.size = B8 at *
          have hHeld := HX.out
          refine wpAnyG_ready (rs := [3]) (by kernel_rfl) (by simp) ?_
          refine (AllReadyG.cons (o := ⟨some 41, _, _, _, _, _⟩) rfl (fun K hK => ?_) AllReadyG.nil)
          rw [if_pos (by simp [Region.wanted])]
          refine wp_append_own2 _ _ 32 rfl (w.heap.size + 1) 9 ik _ 1 16 Tryd.underlying32 HK.out hk0 hk1 hk2 rfl (by decide) (.slice none 0 0) 0 [] rfl HST.out.ro.keys ⟨B2, 0, none⟩ 1 1 [.string ⟨#[73, 110, 102, 111]⟩] rfl rfl (news_block H2.out.1) (by intro u hu; simp at hu; subst hu; rfl) (by unfold maxLen; omega) (by omega) HST.out.lt ?_
          intro p3 k3 c3 v3 hown hg hob
          obtain rfl : k3 = 1 := by
            rcases Joins.ownsRow_forms hown with ⟨_, h0⟩ | ⟨gg, cc, hcv⟩
            · omega
            · cases hcv; rfl
          have hb : Below v2.heap.size v2 v3 := (Below.refl _ _).grown hg (Nat.le_refl _) (fun k hk => by cases hk)
          replace HST := Lib.hid (HST.out.key hown hg hob)
          refine hK.out _ _ ?_ (fun hHeld => ?_)
          · exact HX.out.above hb
          clear hHeld
          replace HX := Lib.hid (HX.out.above hb)
          replace H2 := Lib.hid (And.intro ((hb.block _ H2.out.2).trans H2.out.1) (Nat.lt_of_lt_of_le H2.out.2 hb.size))
          replace H8 := Lib.hid (And.intro ((hb.block _ H8.out.2).trans H8.out.1) (Nat.lt_of_lt_of_le H8.out.2 hb.size))
          clear hown hg hob hb
          clear hK K
          try simp only [Act.put, List.setIfInBounds_toArray, List.set_cons_zero, List.set_cons_succ]
          have hHeld := HX.out
          refine wpAnyG_take (i := 10) (oi := ⟨some 48, _, _, _, _, _⟩) (v := ?_) rfl (by kernel_rfl) (by kernel_rfl) (by kernel_rfl) (by kernel_rfl) (fun _ _ _ h => h) (Or.inl ⟨by rfl, ?_⟩) (by assumption) ?_
          rotate_left
          · intro w' hSw
            have g5 := hSw.c5
            have g6 := hSw.c6
            clear hSw
            go_simp
            try with_reducible rfl
          try simp only [Act.put, List.setIfInBounds_toArray, List.set_cons_zero, List.set_cons_succ]
          refine wpAnyG_ready (rs := [9]) (by kernel_rfl) (by simp) ?_
          refine (AllReadyG.cons (o := ⟨some 47, _, _, _, _, _⟩) rfl (fun K hK => ?_) AllReadyG.nil)
          rw [if_pos (by simp [Region.wanted])]
          refine wp_append_own2 _ _ 34 rfl (w.heap.size + 1) 36 ic _ 7 96 Tryd.underlying34 HC.out hc0 hc1 hc2 rfl (by decide) (.slice none 0 0) 0 [] rfl HST.out.ro.kids ⟨B8, 0, none⟩ 1 1 (oRef nf) rfl rfl (news_block H8.out.1) (one_ref nf) (by unfold maxLen; omega) (by omega) HST.out.lt ?_
          intro p9 k9 c9 v4 hown hg hob
          obtain rfl : k9 = 1 := by
            rcases Joins.ownsRow_forms hown with ⟨_, h0⟩ | ⟨gg, cc, hcv⟩
            · omega
            · cases hcv; rfl
          have hb : Below v3.heap.size v3 v4 := (Below.refl _ _).grown hg (Nat.le_refl _) (fun k hk => by cases hk)
          replace HST := Lib.hid (HST.out.kid hown hg hob)
          refine hK.out _ _ ?_ (fun hHeld => ?_)
          · exact HX.out.above hb
          clear hHeld
          replace HX := Lib.hid (HX.out.above hb)
          replace H2 := Lib.hid (And.intro ((hb.block _ H2.out.2).trans H2.out.1) (Nat.lt_of_lt_of_le H2.out.2 hb.size))
          replace H8 := Lib.hid (And.intro ((hb.block _ H8.out.2).trans H8.out.1) (Nat.lt_of_lt_of_le H8.out.2 hb.size))
          clear hown hg hob hb
          clear hK K
          try simp only [Act.put, List.setIfInBounds_toArray, List.set_cons_zero, List.set_cons_succ]
          have hHeld := HX.out
          refine wpAnyG_ready (rs := [11]) (by kernel_rfl) (by simp) ?_
          refine (AllReadyG.last (o := ⟨none, _, _, _, _, _⟩) rfl (by kernel_rfl) (fun K hK => ?_) AllReadyG.nil)
          have f5 := HST.out.f5
          have c5' := HST.out.c5
          go_simp
          refine hK.out _ _ ?_
          replace HST := Lib.hid (HST.out.set5 p3 1 c3)
          clear f5 c5' hHeld HX
          clear hK K
          try simp only [Act.put, List.setIfInBounds_toArray, List.set_cons_zero, List.set_cons_succ]
          generalize v4.setCell ⟨w.heap.size, 5, none⟩ (.slice p3 1 c3) = v5 at *
          refine wpAnyG_rest _ _ _ _ (by intro i hi; match i, hi with | 12, _ => rfl | 13, _ => rfl) ?_
          refine wpAny_take (i := 12) (oi := ⟨some 49, _, _, _, _, _⟩) (v := ?_) rfl (by kernel_rfl) (by kernel_rfl) (by kernel_rfl) (fun _ _ _ h => h) (Or.inl ⟨by rfl, ?_⟩) ?_
          rotate_left
          · intro w'
            go_simp
            try with_reducible rfl
          try simp only [Act.put, List.setIfInBounds_toArray, List.set_cons_zero, List.set_cons_succ]
          refine wpAny_ready (rs := [13]) (by kernel_rfl) (by simp) ?_
          refine AllReady.cons (o := ⟨none, _, _, _, _, _⟩) rfl (fun K hK => ?_) AllReady.nil
          have f6 := HST.out.f6
          have c6' := HST.out.c6
          have HKK := Lib.hid hK
          clear hK
          go_simp
          refine HKK.out _ _ ?_
          clear f6 c6' HKK K
          try simp only [Act.put, List.setIfInBounds_toArray, List.set_cons_zero, List.set_cons_succ]
          replace HST := Lib.hid (HST.out.set6 p9 1 c9)
          refine wpAny_done (by kernel_rfl) ?_ _
          go_wp2_with (fail)
          go_meet
          case rel => exact ⟨1, _, _, p3, c3, p9, c9, .inr ⟨H0.out, rfl, rfl, rfl⟩, HST.out⟩
      · go_simp
        refine hK.out _ _ ?_ (fun hHeld => ?_)
        · exact hHeld.above (below_al (Below.refl _ _) _)
        clear hHeld
        have hb := below_al (Below.refl v0.heap.size v0) (.cells #[.int .i64 9, .int .i64 nf, .int .i64 0, .float .f64 0, .string ⟨#[]⟩, .slice none 0 0, .slice none 0 0] 36)
        have hnw := heap_alloc_new v0 (.cells #[.int .i64 9, .int .i64 nf, .int .i64 0, .float .f64 0, .string ⟨#[]⟩, .slice none 0 0, .slice none 0 0] 36)
        have hsz : v0.heap.size < (v0.alloc (.cells #[.int .i64 9, .int .i64 nf, .int .i64 0, .float .f64 0, .string ⟨#[]⟩, .slice none 0 0, .slice none 0 0] 36)).heap.size := by simp
        have H8 := Lib.hid (And.intro hnw hsz)
        replace HST := Lib.hid (HST.out.above hb)
        replace HX := Lib.hid (HX.out.above hb)
        clear hb hnw hsz
        clear hK K
        try simp only [Act.put, List.setIfInBounds_toArray, List.set_cons_zero, List.set_cons_succ]
        generalize v0.alloc (.cells #[.int .i64 9, .int .i64 nf, .int .i64 0, .float .f64 0, .string ⟨#[]⟩, .slice none 0 0, .slice none 0 0] 36) = v1 at *
        generalize v0.heap.size = B8 at *
        have hHeld := HX.out
        refine wpAnyG_ready (rs := [2]) (by kernel_rfl) (by simp) ?_
        refine (AllReadyG.cons (o := ⟨some 40, _, _, _, _, _⟩) rfl (fun K hK => ?_) AllReadyG.nil)
        go_simp
        refine hK.out _ _ ?_ (fun hHeld => ?_)
        · exact hHeld.above (below_al (Below.refl _ _) _)
        clear hHeld
        have hb := below_al (Below.refl v1.heap.size v1) (.cells #[.string ⟨#[73, 110, 102, 111]⟩] 9)
        have hnw := heap_alloc_new v1 (.cells #[.string ⟨#[73, 110, 102, 111]⟩] 9)
        have hsz : v1.heap.size < (v1.alloc (.cells #[.string ⟨#[73, 110, 102, 111]⟩] 9)).heap.size := by simp
        replace H8 := Lib.hid (And.intro ((hb.block _ H8.out.2).trans H8.out.1) (Nat.lt_of_lt_of_le H8.out.2 hb.size))
        have H2 := Lib.hid (And.intro hnw hsz)
        replace HST := Lib.hid (HST.out.above hb)
        replace HX := Lib.hid (HX.out.above hb)
        clear hb hnw hsz
        clear hK K
        try simp only [Act.put, List.setIfInBounds_toArray, List.set_cons_zero, List.set_cons_succ]
        generalize v1.alloc (.cells #[.string ⟨#[73, 110, 102, 111]⟩] 9) = v2 at *
        generalize v1.heap.size = B2 at *
        have hHeld := HX.out
        refine wpAnyG_ready (rs := [3]) (by kernel_rfl) (by simp) ?_
        refine (AllReadyG.cons (o := ⟨some 41, _, _, _, _, _⟩) rfl (fun K hK => ?_) AllReadyG.nil)
        rw [if_pos (by simp [Region.wanted])]
        refine wp_append_own2 _ _ 32 rfl (w.heap.size + 1) 9 ik _ 1 16 Tryd.underlying32 HK.out hk0 hk1 hk2 rfl (by decide) (.slice none 0 0) 0 [] rfl HST.out.ro.keys ⟨B2, 0, none⟩ 1 1 [.string ⟨#[73, 110, 102, 111]⟩] rfl rfl (news_block H2.out.1) (by intro u hu; simp at hu; subst hu; rfl) (by unfold maxLen; omega) (by omega) HST.out.lt ?_
        intro p3 k3 c3 v3 hown hg hob
        obtain rfl : k3 = 1 := by
          rcases Joins.ownsRow_forms hown with ⟨_, h0⟩ | ⟨gg, cc, hcv⟩
          · omega
          · cases hcv; rfl
        have hb : Below v2.heap.size v2 v3 := (Below.refl _ _).grown hg (Nat.le_refl _) (fun k hk => by cases hk)
        replace HST := Lib.hid (HST.out.key hown hg hob)
        refine hK.out _ _ ?_ (fun hHeld => ?_)
        · exact HX.out.above hb
        clear hHeld
        replace HX := Lib.hid (HX.out.above hb)
        replace H2 := Lib.hid (And.intro ((hb.block _ H2.out.2).trans H2.out.1) (Nat.lt_of_lt_of_le H2.out.2 hb.size))
        replace H8 := Lib.hid (And.intro ((hb.block _ H8.out.2).trans H8.out.1) (Nat.lt_of_lt_of_le H8.out.2 hb.size))
        clear hown hg hob hb
        clear hK K
        try simp only [Act.put, List.setIfInBounds_toArray, List.set_cons_zero, List.set_cons_succ]
        have hHeld := HX.out
        refine wpAnyG_take (i := 10) (oi := ⟨some 48, _, _, _, _, _⟩) (v := ?_) rfl (by kernel_rfl) (by kernel_rfl) (by kernel_rfl) (by kernel_rfl) (fun _ _ _ h => h) (Or.inl ⟨by rfl, ?_⟩) (by assumption) ?_
        rotate_left
        · intro w' hSw
          have g5 := hSw.c5
          have g6 := hSw.c6
          clear hSw
          go_simp
          try with_reducible rfl
        try simp only [Act.put, List.setIfInBounds_toArray, List.set_cons_zero, List.set_cons_succ]
        refine wpAnyG_ready (rs := [9]) (by kernel_rfl) (by simp) ?_
        refine (AllReadyG.cons (o := ⟨some 47, _, _, _, _, _⟩) rfl (fun K hK => ?_) AllReadyG.nil)
        rw [if_pos (by simp [Region.wanted])]
        refine wp_append_own2 _ _ 34 rfl (w.heap.size + 1) 36 ic _ 7 96 Tryd.underlying34 HC.out hc0 hc1 hc2 rfl (by decide) (.slice none 0 0) 0 [] rfl HST.out.ro.kids ⟨B8, 0, none⟩ 1 1 (oRef nf) rfl rfl (news_block H8.out.1) (one_ref nf) (by unfold maxLen; omega) (by omega) HST.out.lt ?_
        intro p9 k9 c9 v4 hown hg hob
        obtain rfl : k9 = 1 := by
          rcases Joins.ownsRow_forms hown with ⟨_, h0⟩ | ⟨gg, cc, hcv⟩
          · omega
          · cases hcv; rfl
        have hb : Below v3.heap.size v3 v4 := (Below.refl _ _).grown hg (Nat.le_refl _) (fun k hk => by cases hk)
        replace HST := Lib.hid (HST.out.kid hown hg hob)
        refine hK.out _ _ ?_ (fun hHeld => ?_)
        · exact HX.out.above hb
        clear hHeld
        replace HX := Lib.hid (HX.out.above hb)
        replace H2 := Lib.hid (And.intro ((hb.block _ H2.out.2).trans H2.out.1) (Nat.lt_of_lt_of_le H2.out.2 hb.size))
        replace H8 := Lib.hid (And.intro ((hb.block _ H8.out.2).trans H8.out.1) (Nat.lt_of_lt_of_le H8.out.2 hb.size))
        clear hown hg hob hb
        clear hK K
        try simp only [Act.put, List.setIfInBounds_toArray, List.set_cons_zero, List.set_cons_succ]
        have hHeld := HX.out
        refine wpAnyG_ready (rs := [11]) (by kernel_rfl) (by simp) ?_
        refine (AllReadyG.last (o := ⟨none, _, _, _, _, _⟩) rfl (by kernel_rfl) (fun K hK => ?_) AllReadyG.nil)
        have f5 := HST.out.f5
        have c5' := HST.out.c5
        go_simp
        refine hK.out _ _ ?_
        replace HST := Lib.hid (HST.out.set5 p3 1 c3)
        clear f5 c5' hHeld HX
        clear hK K
        try simp only [Act.put, List.setIfInBounds_toArray, List.set_cons_zero, List.set_cons_succ]
        generalize v4.setCell ⟨w.heap.size, 5, none⟩ (.slice p3 1 c3) = v5 at *
        refine wpAnyG_rest _ _ _ _ (by intro i hi; match i, hi with | 12, _ => rfl | 13, _ => rfl) ?_
        refine wpAny_take (i := 12) (oi := ⟨some 49, _, _, _, _, _⟩) (v := ?_) rfl (by kernel_rfl) (by kernel_rfl) (by kernel_rfl) (fun _ _ _ h => h) (Or.inl ⟨by rfl, ?_⟩) ?_
        rotate_left
        · intro w'
          go_simp
          try with_reducible rfl
        try simp only [Act.put, List.setIfInBounds_toArray, List.set_cons_zero, List.set_cons_succ]
        refine wpAny_ready (rs := [13]) (by kernel_rfl) (by simp) ?_
        refine AllReady.cons (o := ⟨none, _, _, _, _, _⟩) rfl (fun K hK => ?_) AllReady.nil
        have f6 := HST.out.f6
        have c6' := HST.out.c6
        have HKK := Lib.hid hK
        clear hK
        go_simp
        refine HKK.out _ _ ?_
        clear f6 c6' HKK K
        try simp only [Act.put, List.setIfInBounds_toArray, List.set_cons_zero, List.set_cons_succ]
        replace HST := Lib.hid (HST.out.set6 p9 1 c9)
        refine wpAny_done (by kernel_rfl) ?_ _
        go_wp2_with (fail)
        go_meet
        case rel => exact ⟨1, _, _, p3, c3, p9, c9, .inr ⟨H0.out, rfl, rfl, rfl⟩, HST.out⟩
  case rest =>
    obtain ⟨n, kl, cl, kp, kk, cp, ck, hnf, hst⟩ := hcut
    have HST := Lib.hid hst
    have HNF := Lib.hid hnf
    have c5 := hst.c5
    have f5 := hst.f5
    have hlt := hst.lt
    have hn1 := hnf.le
    clear hst hnf
    go_upto_region 7 with (
      at_builtin
      refine wpList_append_own_at _ rfl _ _ 32 rfl (w.heap.size + 1) 9 ik (.string ⟨#[]⟩) 1 16 Tryd.underlying32 HK.out hk0 hk1 hk2 rfl (by decide) (.slice kp n kk) n kl rfl (HST.out.above (below_al (Below.refl _ _) _)).ro.keys ⟨wc.heap.size, 0, none⟩ 2 2 [.string ⟨#[82, 111, 111, 116]⟩, .string ⟨#[83, 105, 122, 101]⟩] rfl rfl (news_cells (by intro j hj; match j, hj with | 0, _ => go_simp | 1, _ => go_simp)) (by intro u hu; simp at hu; rcases hu with rfl | rfl <;> rfl) (by unfold maxLen; omega) (by omega) (by simp; omega) ?_
      intro v' w1 hown hg hz hob
      clear hz
      rcases Joins.ownsRow_forms hown with ⟨_, h0⟩ | ⟨g, cap, rfl⟩
      · omega
      have hst1 := (HST.out.above (below_al (Below.refl _ _) _)).key hown hg hob
      have c5' := hst1.c5
      have f5' := hst1.f5
      have HST1 := Lib.hid hst1
      clear hst1 hown hg hob c5 f5 hlt)
    have HST2 := Lib.hid (HST1.out.set5 (some ⟨g, 0, none⟩) (n + 2) cap)
    clear c5' f5'
    generalize w1.setCell ⟨w.heap.size, 5, none⟩ (.slice (some ⟨g, 0, none⟩) (n + 2) cap) = w2 at *
    clear HST1 HST
    go_cut [] (fun wx => ∃ cb cc, St w (n + 2) (n + 2) (.slice (some ⟨g, 0, none⟩) (n + 2) cap) (.slice (some ⟨cb, 0, none⟩) (n + 2) cc) (kl ++ [.string ⟨#[82, 111, 111, 116]⟩, .string ⟨#[83, 105, 122, 101]⟩]) (cl ++ (oRef rt ++ oInt sz)) (.slice (some ⟨g, 0, none⟩) (n + 2) cap) (.slice (some ⟨cb, 0, none⟩) (n + 2) cc) wx)
    case first =>
      have hx : St w 0 0 (.slice none 0 0) (.slice none 0 0) [] [] (.slice (some ⟨g, 0, none⟩) (n + 2) cap) (.slice cp n ck) w2.drew := HST2.out.re (below_drewN (Below.refl _ _) 1) (Ro.nil _ _)
      have HST3 := Lib.hid (HST2.out.above (below_dr (Below.refl _ _)))
      clear HST2
      refine wp_region_G (S := St w 0 0 (.slice none 0 0) (.slice none 0 0) [] [] (.slice (some ⟨g, 0, none⟩) (n + 2) cap) (.slice cp n ck)) [8, 9] (by kernel_rfl) hx (fun hHeld => ?_)
      clear hx
      generalize w2.drew = w3 at *
      refine wpAnyG_take (i := 0) (oi := ⟨some 55, _, _, _, _, _⟩) (v := ?_) rfl (by kernel_rfl) (by kernel_rfl) (by kernel_rfl) (by kernel_rfl) (fun _ _ _ h => h) (Or.inl ⟨by rfl, ?_⟩) (by assumption) ?_
      rotate_left
      · intro w' hSw
        have g5 := hSw.c5
        have g6 := hSw.c6
        clear hSw
        go_simp
        try with_reducible rfl
      try simp only [Act.put, List.setIfInBounds_toArray, List.set_cons_zero, List.set_cons_succ]
      refine wpAnyG_take (i := 1) (oi := ⟨some 56, _, _, _, _, _⟩) (v := ?_) rfl (by kernel_rfl) (by kernel_rfl) (by kernel_rfl) (by kernel_rfl) (fun _ _ _ h => h) (Or.inl ⟨by rfl, ?_⟩) (by assumption) ?_
      rotate_left
      · intro w' hSw
        have g5 := hSw.c5
        have g6 := hSw.c6
        clear hSw
        go_simp
        try with_reducible rfl
      try simp only [Act.put, List.setIfInBounds_toArray, List.set_cons_zero, List.set_cons_succ]
      refine wpAnyG_take (i := 2) (oi := ⟨some 57, _, _, _, _, _⟩) (v := ?_) rfl (by kernel_rfl) (by kernel_rfl) (by kernel_rfl) (by kernel_rfl) (fun _ _ _ h => h) (Or.inl ⟨by rfl, ?_⟩) (by assumption) ?_
      rotate_left
      · intro w' hSw
        have g5 := hSw.c5
        have g6 := hSw.c6
        clear hSw
        go_simp
        try with_reducible rfl
      try simp only [Act.put, List.setIfInBounds_toArray, List.set_cons_zero, List.set_cons_succ]
      refine wpAnyG_take (i := 3) (oi := ⟨some 58, _, _, _, _, _⟩) (v := ?_) rfl (by kernel_rfl) (by kernel_rfl) (by kernel_rfl) (by kernel_rfl) (fun _ _ _ h => h) (Or.inl ⟨by rfl, ?_⟩) (by assumption) ?_
      rotate_left
      · intro w' hSw
        have g5 := hSw.c5
        have g6 := hSw.c6
        clear hSw
        go_simp
        try with_reducible rfl
      try simp only [Act.put, List.setIfInBounds_toArray, List.set_cons_zero, List.set_cons_succ]
      refine wpAnyG_take (i := 4) (oi := ⟨some 59, _, _, _, _, _⟩) (v := ?_) rfl (by kernel_rfl) (by kernel_rfl) (by kernel_rfl) (by kernel_rfl) (fun _ _ _ h => h) (Or.inl ⟨by rfl, ?_⟩) (by assumption) ?_
      rotate_left
      · intro w' hSw
        have g5 := hSw.c5
        have g6 := hSw.c6
        clear hSw
        go_simp
        try with_reducible rfl
      try simp only [Act.put, List.setIfInBounds_toArray, List.set_cons_zero, List.set_cons_succ]
      refine wpAnyG_ready (rs := [5]) (by kernel_rfl) (by simp) ?_
      refine AllReadyG.cons (o := ⟨some 60, _, _, _, _, _⟩) rfl (fun K hK => ?_) AllReadyG.nil
      go_simp
      go_at_call 9; refine Calls.mono (by with_reducible exact HI _ _) ?_; rintro e w4 ⟨rfl, rfl⟩
      go_wp2_with (fail)
      refine hK.out _ _ ?_ (fun hHeld => ?_)
      · exact hHeld.above (below_al (Below.refl _ _) _)
      clear hK K
      try simp only [Act.put, List.setIfInBounds_toArray, List.set_cons_zero, List.set_cons_succ]
      refine wpAnyG_ready (rs := [6]) (by kernel_rfl) (by simp) ?_
      refine AllReadyG.cons (o := ⟨some 61, _, _, _, _, _⟩) rfl (fun K hK => ?_) AllReadyG.nil
      go_simp
      refine hK.out _ _ ?_ (fun hHeld => ?_)
      · exact hHeld.above (below_al (Below.refl _ _) _)
      clear hK K
      try simp only [Act.put, List.setIfInBounds_toArray, List.set_cons_zero, List.set_cons_succ]
      have HST4 := Lib.hid (HST3.out.above (below_al (below_al (Below.refl _ _) (.cells (oInt sz).toArray 36)) (.cells (oRef rt ++ oInt sz).toArray 36)))
      have hb4 := heap_alloc_new (w3.alloc (.cells (oInt sz).toArray 36)) (.cells (oRef rt ++ oInt sz).toArray 36)
      have hs4 : (w3.alloc (.cells (oInt sz).toArray 36)).heap.size = w3.heap.size + 1 := by simp
      rw [hs4] at hb4
      have HX4 := Lib.hid hHeld
      have hlt4 := HST4.out.lt
      clear hHeld HST3 hs4
      unfold oRef oInt at hb4 hlt4
      simp only [List.cons_append, List.nil_append] at hb4 hlt4
      refine wpAnyG_ready (rs := [7]) (by kernel_rfl) (by simp) ?_
      refine AllReadyG.cons (o := ⟨some 62, _, _, _, _, _⟩) rfl (fun K hK => ?_) AllReadyG.nil
      rw [if_pos (by simp [Region.wanted])]
      refine wp_append_own2 _ _ 34 rfl (w.heap.size + 1) 36 ic _ 7 96 Tryd.underlying34 HC.out hc0 hc1 hc2 rfl (by decide) (.slice cp n ck) n cl rfl HST4.out.ro.kids ⟨w3.heap.size + 1, 0, none⟩ 2 2 (oRef rt ++ oInt sz) rfl rfl (news_block hb4) (one_two rt sz) (by unfold maxLen; omega) (by omega) hlt4 ?_
      intro p k c5 w5 hown hg hob
      rcases Joins.ownsRow_forms hown with ⟨_, h0⟩ | ⟨cb, cc, hcv⟩
      · omega
      obtain ⟨rfl, rfl, rfl⟩ : p = some ⟨cb, 0, none⟩ ∧ k = n + 2 ∧ c5 = cc := by cases hcv; exact ⟨rfl, rfl, rfl⟩
      have HST5 := Lib.hid (HST4.out.kid hown hg hob)
      refine hK.out _ _ ?_ (fun hHeld => ?_)
      · exact HX4.out.re (grown_below HST4.out.ro.kids HST4.out.lt hg) (Ro.nil _ _)
      clear hown hg hob hcv HST4 HX4 hb4 hlt4
      clear hK K
      try simp only [Act.put, List.setIfInBounds_toArray, List.set_cons_zero, List.set_cons_succ]
      refine wpAnyG_ready (rs := [8]) (by kernel_rfl) (by simp) ?_
      refine AllReadyG.last (o := ⟨some 63, _, _, _, _, _⟩) rfl (by kernel_rfl) (fun K hK => ?_) AllReadyG.nil
      go_simp
      refine hK.out _ _ ?_
      clear hK K
      try simp only [Act.put, List.setIfInBounds_toArray, List.set_cons_zero, List.set_cons_succ]
      have f6 := HST5.out.f6
      have c6 := HST5.out.c6
      refine wpAnyG_ready (rs := [9]) (by kernel_rfl) (by simp) ?_
      refine AllReadyG.last (o := ⟨none, _, _, _, _, _⟩) rfl (by kernel_rfl) (fun K hK => ?_) AllReadyG.nil
      go_simp
      refine hK.out _ _ ?_
      clear hK K
      try simp only [Act.put, List.setIfInBounds_toArray, List.set_cons_zero, List.set_cons_succ]
      refine wpAnyG_done (by kernel_rfl) ?_ _
      go_wp2_with (fail)
      go_meet
      case rel => exact ⟨cb, _, HST5.out.set6 _ _ _⟩
    case rest =>
      obtain ⟨cb, cc, hst3⟩ := hcut
      clear HST2
      obtain ⟨es, c, hD, hM⟩ := hst3.dict HNF.out
      have hR := rt11 wc g cb (n + 2) cap (n + 2) cc es c sz rt nf strict (by have := HN.out.2.2.1; omega) hD hM
      obtain ⟨kf, hkf⟩ : ∃ kf, rfK nf = kf := ⟨_, rfl⟩
      rw [hkf] at hR
      have hkf' : (nf = 0 ∧ kf = 0) ∨ (0 < nf ∧ kf = 9) := by
        have := HN.out.2.2.2.2.1
        by_cases h0 : nf = 0
        · exact .inl ⟨h0, by rw [← hkf, rfK, if_pos h0]⟩
        · exact .inr ⟨by omega, by rw [← hkf, rfK, if_neg h0]⟩
      have HKF := Lib.hid hkf'
      have HST3 := Lib.hid hst3
      have e0 := hst3.c0
      have e1 := hst3.c1
      have e2 := hst3.c2
      have e3 := hst3.c3
      have e4 := hst3.c4
      have e5 := hst3.c5
      have e6 := hst3.c6
      clear hD hM hkf hkf' hst3
      go_upto_region 9 with (
        first
        | (
          go_at_call 11
          refine Calls.mono (by with_reducible exact hR) ?_
          rintro e w4 ⟨rfl, hb4⟩
          have HB4 : Hid (Below w.heap.size w w4) := HST3.out.b.trans (hb4.mono (Nat.le_of_lt HST3.out.lt))
          obtain ⟨w5, hS, hr5, hb5, hl5⟩ := store_tr w4 sz rt kf nf
          unfold trZ at hS
          have hlen := trL_len sz rt kf nf
          have H5 : Hid (w5.rangeAt w4.heap.size 0 (trL sz rt kf nf) ∧ Below w.heap.size w w5 ∧ w4.heap.size < w5.heap.size) := ⟨hr5, HB4.out.trans (hb5.mono HB4.out.size), hl5⟩
          clear hb4 hR hr5 hb5 hl5 e0 e1 e2 e3 e4 e5 e6)
        | fail)
      clear hS hlen HST3
      have HE := fun k n w => equal_same k n w
      go_upto_if 72 with (fail)
      go_cut [] (fun wx => wx.cell? ⟨w5.heap.size, 0, none⟩ = some (.int .i64 kf) ∧ wx.cell? ⟨w5.heap.size, 1, none⟩ = some (.int .i64 nf) ∧ wx.cell? ⟨w5.heap.size, 2, none⟩ = some (.int .i64 0) ∧ wx.cell? ⟨w5.heap.size, 3, none⟩ = some (.float .f64 0) ∧ wx.cell? ⟨w5.heap.size, 4, none⟩ = some (.string ⟨#[]⟩) ∧ wx.cell? ⟨w5.heap.size, 5, none⟩ = some (.slice none 0 0) ∧ wx.cell? ⟨w5.heap.size, 6, none⟩ = some (.slice none 0 0) ∧ Below w5.heap.size w5 wx)
      case first =>
        rcases HKF.out with ⟨h0, hk0'⟩ | ⟨h0, hk0'⟩
        · have d7 : decide (0 < nf) = false := by simp; omega
          rw [d7]
          have H0 := Lib.hid h0
          subst hk0'
          clear h0 d7 HE HKF
          go_wp2_with (fail)
          go_meet
          case rel =>
            refine ⟨by go_simp, by rw [H0.out]; go_simp, by go_simp, by go_simp, by go_simp, by go_simp, by go_simp, ?_⟩
            repeat (first | exact Below.refl _ _ | refine below_al ?_ _ | refine Below.setCell ?_ (Nat.le_refl _) _)
        · have d7 : decide (0 < nf) = true := by simp; omega
          rw [d7]
          subst hk0'
          clear h0 d7 HE HKF
          go_wp2_with (fail)
          go_meet
          case rel =>
            refine ⟨by go_simp, by go_simp, by go_simp, by go_simp, by go_simp, by go_simp, by go_simp, ?_⟩
            repeat (first | exact Below.refl _ _ | refine below_al ?_ _ | refine Below.setCell ?_ (Nat.le_refl _) _)
      case rest =>
        obtain ⟨z0, z1, z2, z3, z4, z5, z6, hb6⟩ := hcut
        obtain ⟨hr5, hb5, lT5⟩ := H5.out
        have hq : ∀ j v, (trL sz rt kf nf)[j]? = some v → wc.cell? ⟨w4.heap.size, j, none⟩ = some v := fun j v hv => (below_cells hb6 _ j lT5).trans (by have := hr5 j v hv; rwa [Nat.zero_add] at this)
        have q0 := hq 0 _ rfl
        have q1 := hq 1 _ rfl
        have q2 := hq 2 _ rfl
        have q3 := hq 3 _ rfl
        have q4 := hq 4 _ rfl
        have q5 := hq 5 _ rfl
        have q6 := hq 6 _ rfl
        have q7 := hq 7 _ rfl
        have q8 := hq 8 _ rfl
        have q9 := hq 9 _ rfl
        have q10 := hq 10 _ rfl
        have q11 := hq 11 _ rfl
        have q12 := hq 12 _ rfl
        have q13 := hq 13 _ rfl
        have q14 := hq 14 _ rfl
        have q15 := hq 15 _ rfl
        have q22 := hq 22 _ rfl
        have HB7 : Hid (Below w.heap.size w wc) := hb5.trans (hb6.mono hb5.size)
        have lT : w4.heap.size < wc.heap.size := block_lt_of_cell q0
        have lW : w5.heap.size < wc.heap.size := block_lt_of_cell z0
        have g1 : (sz == sz) = true := by simp
        clear hq hr5 hb5 lT5 hb6 H5
        go_wp2_with (
          go_at_call 12
          refine Calls.mono (by with_reducible exact HE _ _ _) ?_
          rintro e w7 ⟨rfl, hb7⟩
          have hcc := below_cells hb7
          replace q8 := (hcc _ 8 lT).trans q8
          replace q9 := (hcc _ 9 lT).trans q9
          replace q10 := (hcc _ 10 lT).trans q10
          replace q11 := (hcc _ 11 lT).trans q11
          replace q12 := (hcc _ 12 lT).trans q12
          replace q13 := (hcc _ 13 lT).trans q13
          replace q14 := (hcc _ 14 lT).trans q14
          replace q15 := (hcc _ 15 lT).trans q15
          replace q22 := (hcc _ 22 lT).trans q22
          replace z0 := (hcc _ 0 lW).trans z0
          replace z1 := (hcc _ 1 lW).trans z1
          replace z2 := (hcc _ 2 lW).trans z2
          replace z3 := (hcc _ 3 lW).trans z3
          replace z4 := (hcc _ 4 lW).trans z4
          replace z5 := (hcc _ 5 lW).trans z5
          replace z6 := (hcc _ 6 lW).trans z6
          replace HB7 := Lib.hid (HB7.out.trans (hb7.mono HB7.out.size))
          replace lT := Nat.lt_of_lt_of_le lT hb7.size
          replace lW := Nat.lt_of_lt_of_le lW hb7.size
          clear hb7 hcc)
        go_ret
        exact ⟨rfl, HB7.out⟩

end Go.Proofs.YtnpedhdonfdbmaaDoor
