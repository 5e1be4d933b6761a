/- The law FnMultiply returns true, and leaves what was there as it was. Conditions: none. -/
import Derived.Test.YtolmmgemahohoaaMatI
namespace Go.Proofs.Ytolmmgemahohoaa
open Go.ChangeShapes Go.WideShapes Go.ChangeAt Go.RowKit Go.Dy Go.Sort
attribute [local go_sem] run_store_float

/-- The bounds that the law's first loop asks for. -/
def In10 (x : Nat) : Prop := FloatKind.f64.format.order x 13875590451928498176 ≠ some .lt ∧ FloatKind.f64.format.order x 4652218415073722368 ≠ some .gt

theorem is_m10 : Is 13875590451928498176 (-1024) 0 := is_of_read (s := true) (m := 4503599627370496) (e := -42) (by decide) 1024 0 42 (by decide) (by decide) (by decide) (by decide)
theorem is_p10 : Is 4652218415073722368 1024 0 := is_of_read (s := false) (m := 4503599627370496) (e := -42) (by decide) 1024 0 42 (by decide) (by decide) (by decide) (by decide)

theorem in10_half {x : Nat} {n : Int} (h : Is x n 1) (h10 : In10 x) : n.natAbs ≤ 2048 := by
  have h1 := h10.1
  have h2 := h10.2
  rw [Is.order h (is_m10.finer (by omega))] at h1
  rw [Is.order h (is_p10.finer (by omega))] at h2
  have h3 : ¬ n < -1024 * 2 := fun e => h1 (by rw [cmp_lt e])
  have h4 : ¬ 1024 * 2 < n := fun e => h2 (by rw [cmp_gt e])
  omega

def Six6 (w : World) (b : Nat) (f : Nat → Nat) : Prop := ∀ c, c < 6 → w.cell? ⟨b, c, none⟩ = some (.float .f64 (f c))
theorem Six6.below {w w' : World} {b B : Nat} {f : Nat → Nat} (h : Six6 w b f) (hb : Below B w w') (hB : b < B) : Six6 w' b f := fun c hc => (hb.cell (p := ⟨b, c, none⟩) hB).trans (h c hc)

abbrev S6 (f : Nat → Nat) : Value := .agg #[.float .f64 (f 0), .float .f64 (f 1), .float .f64 (f 2), .float .f64 (f 3), .float .f64 (f 4), .float .f64 (f 5)]
theorem six_alloc (w : World) (f : Nat → Nat) : Six6 (w.alloc (.cells #[.float .f64 (f 0), .float .f64 (f 1), .float .f64 (f 2), .float .f64 (f 3), .float .f64 (f 4), .float .f64 (f 5)] 37)) w.heap.size f := by
  intro c hc
  match c, hc with
  | 0, _ | 1, _ | 2, _ | 3, _ | 4, _ | 5, _ => go_simp

set_option maxHeartbeats 4000000 in
set_option maxRecDepth 100000 in
theorem mult_law' (a b : Nat → Nat) (x y : Nat) (w : World) :
    Calls Try.prog 7 #[S6 a, S6 b, .float .f64 x, .float .f64 y] w fun e w' => e = .returned (.bool true) ∧ Below w.heap.size w w' := by
  have HA0 : Six6 ((w.alloc (.cells #[.float .f64 (a 0), .float .f64 (a 1), .float .f64 (a 2), .float .f64 (a 3), .float .f64 (a 4), .float .f64 (a 5)] 37)).alloc (.cells #[.float .f64 (b 0), .float .f64 (b 1), .float .f64 (b 2), .float .f64 (b 3), .float .f64 (b 4), .float .f64 (b 5)] 37)) w.heap.size a :=
    (six_alloc w a).below ((Below.refl _ _).alloc (Nat.le_refl _) _) (by simp)
  have HB0 : Six6 ((w.alloc (.cells #[.float .f64 (a 0), .float .f64 (a 1), .float .f64 (a 2), .float .f64 (a 3), .float .f64 (a 4), .float .f64 (a 5)] 37)).alloc (.cells #[.float .f64 (b 0), .float .f64 (b 1), .float .f64 (b 2), .float .f64 (b 3), .float .f64 (b 4), .float .f64 (b 5)] 37)) (w.heap.size + 1) b := by
    have := six_alloc (w.alloc (.cells #[.float .f64 (a 0), .float .f64 (a 1), .float .f64 (a 2), .float .f64 (a 3), .float .f64 (a 4), .float .f64 (a 5)] 37)) b
    simpa using this
  have HL0 : Below w.heap.size w ((w.alloc (.cells #[.float .f64 (a 0), .float .f64 (a 1), .float .f64 (a 2), .float .f64 (a 3), .float .f64 (a 4), .float .f64 (a 5)] 37)).alloc (.cells #[.float .f64 (b 0), .float .f64 (b 1), .float .f64 (b 2), .float .f64 (b 3), .float .f64 (b 4), .float .f64 (b 5)] 37)) :=
    ((Below.refl _ _).alloc (Nat.le_refl _) _).alloc (by simp) _
  have HZ0 : w.heap.size + 1 < ((w.alloc (.cells #[.float .f64 (a 0), .float .f64 (a 1), .float .f64 (a 2), .float .f64 (a 3), .float .f64 (a 4), .float .f64 (a 5)] 37)).alloc (.cells #[.float .f64 (b 0), .float .f64 (b 1), .float .f64 (b 2), .float .f64 (b 3), .float .f64 (b 4), .float .f64 (b 5)] 37)).heap.size := by simp
  have HA := Lib.hid HA0
  have HB := Lib.hid HB0
  have HL := Lib.hid HL0
  clear HA0 HB0 HL0
  go_enter Try.func7, Try.ntmps7
  go_wp2_with fail
  generalize (w.alloc (.cells #[.float .f64 (a 0), .float .f64 (a 1), .float .f64 (a 2), .float .f64 (a 3), .float .f64 (a 4), .float .f64 (a 5)] 37)).alloc (.cells #[.float .f64 (b 0), .float .f64 (b 1), .float .f64 (b 2), .float .f64 (b 3), .float .f64 (b 4), .float .f64 (b 5)] 37) = W at *
  go_loop [15] (fun i => ∃ k : Nat, k ≤ 6 ∧ i = .int .i64 k ∧ Hid (∀ c, c < k → In10 (a c) ∧ In10 (b c))) (fun i => 6 - (intOf i).toNat)
  case atStart => exact ⟨0, by omega, rfl, fun c hc => by omega⟩
  case round =>
    obtain ⟨k, hk, rfl, HI⟩ := hrel
    by_cases hk6 : k < 6
    · have ca := HA.out k hk6
      have cb := HB.out k hk6
      have HN : Hid (In10 (a k) → In10 (b k) → ∀ c, c < k + 1 → In10 (a c) ∧ In10 (b c)) := fun h1 h2 c hc => by
        by_cases e : c = k
        · subst e; exact ⟨h1, h2⟩
        · exact HI.out c (by omega)
      clear HI
      generalize a k = xa at *
      generalize b k = xb at *
      by_cases t1 : FloatKind.f64.format.order xa 13875590451928498176 = some .lt
      · have t1' : (FloatKind.f64.format.order xa 13875590451928498176 == some .lt) = true := by rw [t1]; rfl
        clear t1 HN
        go_wp2
        go_ret
        exact ⟨rfl, HL.out⟩
      have t1' : (FloatKind.f64.format.order xa 13875590451928498176 == some .lt) = false := by simpa using t1
      by_cases t2 : FloatKind.f64.format.order xa 4652218415073722368 = some .gt
      · have t2' : (FloatKind.f64.format.order xa 4652218415073722368 == some .gt) = true := by rw [t2]; rfl
        clear t1 t2 HN
        go_wp2
        go_ret
        exact ⟨rfl, HL.out⟩
      have t2' : (FloatKind.f64.format.order xa 4652218415073722368 == some .gt) = false := by simpa using t2
      by_cases t3 : FloatKind.f64.format.order xb 13875590451928498176 = some .lt
      · have t3' : (FloatKind.f64.format.order xb 13875590451928498176 == some .lt) = true := by rw [t3]; rfl
        clear t1 t2 t3 HN
        go_wp2
        go_ret
        exact ⟨rfl, HL.out⟩
      have t3' : (FloatKind.f64.format.order xb 13875590451928498176 == some .lt) = false := by simpa using t3
      by_cases t4 : FloatKind.f64.format.order xb 4652218415073722368 = some .gt
      · have t4' : (FloatKind.f64.format.order xb 4652218415073722368 == some .gt) = true := by rw [t4]; rfl
        clear t1 t2 t3 t4 HN
        go_wp2
        go_ret
        exact ⟨rfl, HL.out⟩
      have t4' : (FloatKind.f64.format.order xb 4652218415073722368 == some .gt) = false := by simpa using t4
      have HN2 : Hid _ := HN.out ⟨t1, t2⟩ ⟨t3, t4⟩
      clear t1 t2 t3 t4 HN
      go_wp2
      go_round
      case rel => exact ⟨k + 1, by omega, by go_num, HN2⟩
      case measure => simp [intOf]; omega
    · have HA6 : Hid (∀ c, c < 6 → In10 (a c) ∧ In10 (b c)) := by
        have : k = 6 := by omega
        subst this; exact HI.out
      clear HI
      go_wp2_with fail
      refine (near_any w.heap.size 0 6 6 [a 0, a 1, a 2, a 3, a 4, a 5] _ rfl (by simp) ?_).mono ?_
      · intro i hi
        have := HA.out i hi
        rw [Nat.zero_add, this]
        match i, hi with
        | 0, _ | 1, _ | 2, _ | 3, _ | 4, _ | 5, _ => rfl
      rintro e w' ⟨⟨r, rfl, hr⟩, rfl⟩
      cases r with
      | false =>
        clear hr
        go_wp2
        go_ret
        exact ⟨rfl, HL.out⟩
      | true =>
      have HR1 : Hid (∀ c, c < 6 → Half (a c)) := by
        intro c hc
        apply hr rfl
        match c, hc with
        | 0, _ | 1, _ | 2, _ | 3, _ | 4, _ | 5, _ => simp
      clear hr
      go_wp2_with fail
      refine (near_any (w.heap.size + 1) 0 6 6 [b 0, b 1, b 2, b 3, b 4, b 5] _ rfl (by simp) ?_).mono ?_
      · intro i hi
        have := HB.out i hi
        rw [Nat.zero_add, this]
        match i, hi with
        | 0, _ | 1, _ | 2, _ | 3, _ | 4, _ | 5, _ => rfl
      rintro e w' ⟨⟨r, rfl, hr⟩, rfl⟩
      cases r with
      | false =>
        clear hr
        go_wp2
        go_ret
        exact ⟨rfl, HL.out⟩
      | true =>
      have HR2 : Hid (∀ c, c < 6 → Half (b c)) := by
        intro c hc
        apply hr rfl
        match c, hc with
        | 0, _ | 1, _ | 2, _ | 3, _ | 4, _ | 5, _ => simp
      clear hr
      go_wp2_with fail
      refine (near_any W.heap.size 0 2 2 [x, y] _ rfl (by simp) ?_).mono ?_
      · intro i hi
        match i, hi with
        | 0, _ => go_simp
        | 1, _ => go_simp
      rintro e w2 ⟨⟨r, rfl, hr⟩, rfl⟩
      have HL2 : Hid (Below w.heap.size w (W.alloc (.cells #[.float .f64 x, .float .f64 y] 26))) := HL.out.alloc (by omega) _
      have HA2 : Hid (Six6 (W.alloc (.cells #[.float .f64 x, .float .f64 y] 26)) w.heap.size a) := HA.out.below ((Below.refl W.heap.size W).alloc (Nat.le_refl _) _) (by omega)
      have HB2 : Hid (Six6 (W.alloc (.cells #[.float .f64 x, .float .f64 y] 26)) (w.heap.size + 1) b) := HB.out.below ((Below.refl W.heap.size W).alloc (Nat.le_refl _) _) (by omega)
      have HZ2 : w.heap.size + 1 < (W.alloc (.cells #[.float .f64 x, .float .f64 y] 26)).heap.size := by simp; omega
      clear HL HA HB HZ0
      generalize W.alloc (.cells #[.float .f64 x, .float .f64 y] 26) = W2 at *
      cases r with
      | false =>
        clear hr
        go_wp2
        go_ret
        exact ⟨rfl, HL2.out⟩
      | true =>
      have HX := Lib.hid (hr rfl x (by simp))
      have HY := Lib.hid (hr rfl y (by simp))
      clear hr
      by_cases t1 : FloatKind.f64.format.order x 13875590451928498176 = some .lt
      · have t1' : (FloatKind.f64.format.order x 13875590451928498176 == some .lt) = true := by rw [t1]; rfl
        clear t1
        go_wp2
        go_ret
        exact ⟨rfl, HL2.out⟩
      have t1' : (FloatKind.f64.format.order x 13875590451928498176 == some .lt) = false := by simpa using t1
      by_cases t2 : FloatKind.f64.format.order x 4652218415073722368 = some .gt
      · have t2' : (FloatKind.f64.format.order x 4652218415073722368 == some .gt) = true := by rw [t2]; rfl
        clear t1 t2
        go_wp2
        go_ret
        exact ⟨rfl, HL2.out⟩
      have t2' : (FloatKind.f64.format.order x 4652218415073722368 == some .gt) = false := by simpa using t2
      by_cases t3 : FloatKind.f64.format.order y 13875590451928498176 = some .lt
      · have t3' : (FloatKind.f64.format.order y 13875590451928498176 == some .lt) = true := by rw [t3]; rfl
        clear t1 t2 t3
        go_wp2
        go_ret
        exact ⟨rfl, HL2.out⟩
      have t3' : (FloatKind.f64.format.order y 13875590451928498176 == some .lt) = false := by simpa using t3
      by_cases t4 : FloatKind.f64.format.order y 4652218415073722368 = some .gt
      · have t4' : (FloatKind.f64.format.order y 4652218415073722368 == some .gt) = true := by rw [t4]; rfl
        clear t1 t2 t3 t4
        go_wp2
        go_ret
        exact ⟨rfl, HL2.out⟩
      have t4' : (FloatKind.f64.format.order y 4652218415073722368 == some .gt) = false := by simpa using t4
      obtain ⟨p1, q1, p2, q2, r, s, hM⟩ : ∃ p1 q1 p2 q2 r s, ML a b x y p1 q1 p2 q2 r s := by
        obtain ⟨X, hX, -⟩ := HX.out
        obtain ⟨Y, hY, -⟩ := HY.out
        obtain ⟨A, hA⟩ : ∃ A : Nat → Int, ∀ c, c < 6 → Is (a c) (A c) 1 := by
          have : ∀ c, ∃ n : Int, c < 6 → Is (a c) n 1 := fun c => by
            by_cases hc : c < 6
            · obtain ⟨n, h, -⟩ := HR1.out c hc
              exact ⟨n, fun _ => h⟩
            · exact ⟨0, fun h => absurd h hc⟩
          exact Classical.axiomOfChoice this
        obtain ⟨B, hB⟩ : ∃ B : Nat → Int, ∀ c, c < 6 → Is (b c) (B c) 1 := by
          have : ∀ c, ∃ n : Int, c < 6 → Is (b c) n 1 := fun c => by
            by_cases hc : c < 6
            · obtain ⟨n, h, -⟩ := HR2.out c hc
              exact ⟨n, fun _ => h⟩
            · exact ⟨0, fun h => absurd h hc⟩
          exact Classical.axiomOfChoice this
        exact ml_of ⟨fun c hc => ⟨hA c hc, in10_half (hA c hc) (HA6.out c hc).1⟩⟩ ⟨fun c hc => ⟨hB c hc, in10_half (hB c hc) (HA6.out c hc).2⟩⟩ hX hY (in10_half hX ⟨t1, t2⟩) (in10_half hY ⟨t3, t4⟩)
      have HM := Lib.hid hM
      clear hM t1 t2 t3 t4 HX HY HR1 HR2 HA6
      have ca0 := HA2.out 0 (by omega)
      have ca1 := HA2.out 1 (by omega)
      have ca2 := HA2.out 2 (by omega)
      have ca3 := HA2.out 3 (by omega)
      have ca4 := HA2.out 4 (by omega)
      have ca5 := HA2.out 5 (by omega)
      go_wp2_with fail
      refine (affine_any (a 0) (a 1) (a 2) (a 3) (a 4) (a 5) _).mono ?_
      rintro e W3 ⟨rfl, hb⟩
      have HL3 : Hid (Below w.heap.size w W3) := HL2.out.trans (hb.mono HL2.out.size)
      have HA3 : Hid (Six6 W3 w.heap.size a) := HA2.out.below hb (by omega)
      have HB3 : Hid (Six6 W3 (w.heap.size + 1) b) := HB2.out.below hb HZ2
      have HZ3 : w.heap.size + 1 < W3.heap.size := Nat.lt_of_lt_of_le HZ2 hb.size
      clear hb HL2 HA2 HB2 HZ2
      clear ca0 ca1 ca2 ca3 ca4 ca5
      go_wp2_with fail
      obtain ⟨u1, u2, u3, v1, v2, v3, T1⟩ := HM.out.t1
      refine (transform_any T1 _).mono ?_
      rintro e W4 ⟨rfl, hb⟩
      clear T1 u1 u2 u3 v1 v2 v3
      have HL4 : Hid (Below w.heap.size w W4) := HL3.out.trans (hb.mono HL3.out.size)
      have HA4 : Hid (Six6 W4 w.heap.size a) := HA3.out.below hb (by omega)
      have HB4 : Hid (Six6 W4 (w.heap.size + 1) b) := HB3.out.below hb HZ3
      have HZ4 : w.heap.size + 1 < W4.heap.size := Nat.lt_of_lt_of_le HZ3 hb.size
      clear hb HL3 HA3 HB3 HZ3
      have cb0 := HB4.out 0 (by omega)
      have cb1 := HB4.out 1 (by omega)
      have cb2 := HB4.out 2 (by omega)
      have cb3 := HB4.out 3 (by omega)
      have cb4 := HB4.out 4 (by omega)
      have cb5 := HB4.out 5 (by omega)
      go_wp2_with fail
      refine (affine_any (b 0) (b 1) (b 2) (b 3) (b 4) (b 5) _).mono ?_
      rintro e W5 ⟨rfl, hb⟩
      have HL5 : Hid (Below w.heap.size w W5) := HL4.out.trans (hb.mono HL4.out.size)
      have HA5 : Hid (Six6 W5 w.heap.size a) := HA4.out.below hb (by omega)
      have HB5 : Hid (Six6 W5 (w.heap.size + 1) b) := HB4.out.below hb HZ4
      have HZ5 : w.heap.size + 1 < W5.heap.size := Nat.lt_of_lt_of_le HZ4 hb.size
      clear hb HL4 HA4 HB4 HZ4
      clear cb0 cb1 cb2 cb3 cb4 cb5
      go_wp2_with fail
      obtain ⟨u1, u2, u3, v1, v2, v3, T2⟩ := HM.out.t2
      refine (transform_any T2 _).mono ?_
      rintro e W6 ⟨rfl, hb⟩
      clear T2 u1 u2 u3 v1 v2 v3
      have HL6 : Hid (Below w.heap.size w W6) := HL5.out.trans (hb.mono HL5.out.size)
      have HA6 : Hid (Six6 W6 w.heap.size a) := HA5.out.below hb (by omega)
      have HB6 : Hid (Six6 W6 (w.heap.size + 1) b) := HB5.out.below hb HZ5
      have HZ6 : w.heap.size + 1 < W6.heap.size := Nat.lt_of_lt_of_le HZ5 hb.size
      clear hb HL5 HA5 HB5 HZ5
      obtain ⟨u1, u2, u3, v1, v2, v3, T3⟩ := HM.out.t3
      have su := HM.out.su
      have ep : (FloatKind.f64.format.order p2 r == some .eq) = true := by rw [HM.out.ep]; rfl
      have eq : (FloatKind.f64.format.order q2 s == some .eq) = true := by rw [HM.out.eq]; rfl
      clear HM
      have cA : ∀ p os, Calls Try.prog 19 #[S6 a] (grow (redrawn W6 p) os) fun e w'' => e = .returned (M9 (affW a)) ∧ ∃ q : Regrown, w'' = grow (redrawn W6 q.d) q.os :=
        fun p os => Calls.regrown_of (affine_any (a 0) (a 1) (a 2) (a 3) (a 4) (a 5) _)
      have cB : ∀ p os, Calls Try.prog 19 #[S6 b] (grow (redrawn W6 p) os) fun e w'' => e = .returned (M9 (affW b)) ∧ ∃ q : Regrown, w'' = grow (redrawn W6 q.d) q.os :=
        fun p os => Calls.regrown_of (affine_any (b 0) (b 1) (b 2) (b 3) (b 4) (b 5) _)
      have cM : ∀ p os, Calls Try.prog 20 #[M9 (affW a), M9 (affW b)] (grow (redrawn W6 p) os) fun e w'' => e = .returned (M9 fun c => sumW (affW a) (affW b) (c / 3) (c % 3) 3) ∧ ∃ q : Regrown, w'' = grow (redrawn W6 q.d) q.os :=
        fun p os => Calls.regrown_of (multiply_any su _)
      have cT : ∀ p os, Calls Try.prog 18 #[M9 (fun c => sumW (affW a) (affW b) (c / 3) (c % 3) 3), .float .f64 x, .float .f64 y] (grow (redrawn W6 p) os) fun e w'' => e = .returned (.tuple #[.float .f64 r, .float .f64 s]) ∧ ∃ q : Regrown, w'' = grow (redrawn W6 q.d) q.os :=
        fun p os => Calls.regrown_of (transform_any T3 _)
      clear T3 su
      generalize (fun c => sumW (affW a) (affW b) (c / 3) (c % 3) 3) = F at *
      have la0 := cell_regrown (HA6.out 0 (by omega))
      have lb0 := cell_regrown (HB6.out 0 (by omega))
      have la1 := cell_regrown (HA6.out 1 (by omega))
      have lb1 := cell_regrown (HB6.out 1 (by omega))
      have la2 := cell_regrown (HA6.out 2 (by omega))
      have lb2 := cell_regrown (HB6.out 2 (by omega))
      have la3 := cell_regrown (HA6.out 3 (by omega))
      have lb3 := cell_regrown (HB6.out 3 (by omega))
      have la4 := cell_regrown (HA6.out 4 (by omega))
      have lb4 := cell_regrown (HB6.out 4 (by omega))
      have la5 := cell_regrown (HA6.out 5 (by omega))
      have lb5 := cell_regrown (HB6.out 5 (by omega))
      clear HA6 HB6
      go_wp2_with fail
      refine wp_region_quiet_below (by kernel_rfl) (by kernel_rfl) ?_
      repeat (quiet_step (first | (with_reducible exact cA _ _) | (with_reducible exact cB _ _) | (with_reducible exact cM _ _) | (with_reducible exact cT _ _)))
      refine wpQuiet_nil ?_
      intro _ hw'
      obtain ⟨⟨dq, osq⟩, hw''⟩ := hw'
      subst hw''
      have HL7 : Hid (Below w.heap.size w (grow (redrawn W6 dq) osq)) := HL6.out.trans ((below_regrown W6 dq osq).mono HL6.out.size)
      clear cA cB cM cT HL6 HZ6 la0 lb0 la1 lb1 la2 lb2 la3 lb3 la4 lb4 la5 lb5
      generalize grow (redrawn W6 dq) osq = W7 at *
      go_wp2_with fail
      refine (affine_any 4607182418800017408 0 0 4607182418800017408 0 0 _).mono ?_
      rintro e W8 ⟨rfl, hb⟩
      have HL8 : Hid (Below w.heap.size w W8) := HL7.out.trans (hb.mono HL7.out.size)
      have hz8 : w.heap.size ≤ W8.heap.size := HL8.out.size
      clear hb HL7
      go_wp2_with fail
      have HU : Hid (∀ w, Calls Try.prog 20 #[M9 (aff 4607182418800017408 0 0 4607182418800017408 0 0), M9 (aff 4607182418800017408 0 0 4607182418800017408 0 0)] w fun e w' =>
          e = .returned (M9 fun c => sumW (affW unitW) (affW unitW) (c / 3) (c % 3) 3) ∧ Below w.heap.size w w') :=
        fun w => multiply_any (sums_of unit_six.aff unit_six.aff) w
      have HQ : Hid (∀ w, (binOp .eql 42 (M9 fun c => sumW (affW unitW) (affW unitW) (c / 3) (c % 3) 3) (M9 (aff 4607182418800017408 0 0 4607182418800017408 0 0))).run Try.prog w = .ok (.bool true) w) :=
        fun w => eql42 _ _ unit_same w
      generalize (fun c => sumW (affW unitW) (affW unitW) (c / 3) (c % 3) 3) = G at *
      generalize aff 4607182418800017408 0 0 4607182418800017408 0 0 = U at *
      have HN := nine_alloc W8 U 42
      have HL9 : Hid (Below w.heap.size w (W8.alloc (.cells (C9 U) 42))) := HL8.out.alloc hz8 _
      have e8 : Hid (W8.heap.size = W8.heap.size) := rfl
      have cU : ∀ p os, Calls Try.prog 20 #[M9 U, M9 U] (grow (redrawn (W8.alloc (.cells (C9 U) 42)) p) os) fun e w'' => e = .returned (M9 G) ∧ ∃ q : Regrown, w'' = grow (redrawn (W8.alloc (.cells (C9 U) 42)) q.d) q.os :=
        fun p os => Calls.regrown_of (HU.out _)
      have qU := HQ.out
      clear HU HQ HL8 hz8
      generalize W8.heap.size = B8 at *
      generalize W8.alloc (.cells (C9 U) 42) = W9 at *
      have n0 := cell_regrown (HN 0 (by omega))
      have n1 := cell_regrown (HN 1 (by omega))
      have n2 := cell_regrown (HN 2 (by omega))
      have n3 := cell_regrown (HN 3 (by omega))
      have n4 := cell_regrown (HN 4 (by omega))
      have n5 := cell_regrown (HN 5 (by omega))
      have n6 := cell_regrown (HN 6 (by omega))
      have n7 := cell_regrown (HN 7 (by omega))
      have n8 := cell_regrown (HN 8 (by omega))
      clear HN e8
      refine wp_region_quiet_below (by kernel_rfl) (by kernel_rfl) ?_
      repeat (quiet_step (with_reducible exact cU _ _))
      refine wpQuiet_nil ?_
      intro _ hw'
      obtain ⟨⟨dq', osq'⟩, hw''⟩ := hw'
      subst hw''
      go_wp2
      go_ret
      exact ⟨rfl, HL9.out.trans ((below_regrown W9 dq' osq').mono HL9.out.size)⟩

/-- The same, word by word. -/
theorem mult_law (a0 a1 a2 a3 a4 a5 b0 b1 b2 b3 b4 b5 x y : Nat) (w : World) :
    Calls Try.prog 7 #[A6 a0 a1 a2 a3 a4 a5, A6 b0 b1 b2 b3 b4 b5, .float .f64 x, .float .f64 y] w fun e w' => e = .returned (.bool true) ∧ Below w.heap.size w w' :=
  mult_law' (fun c => match c with | 0 => a0 | 1 => a1 | 2 => a2 | 3 => a3 | 4 => a4 | _ => a5) (fun c => match c with | 0 => b0 | 1 => b1 | 2 => b2 | 3 => b3 | 4 => b4 | _ => b5) x y w
end Go.Proofs.Ytolmmgemahohoaa
