/- The law FnUserSpace returns true, and leaves what was there as it was. Conditions: the second argument fits an int. -/
import Derived.Test.YtolmmgemahohoaaUser
namespace Go.Proofs.Ytolmmgemahohoaa
open Go.ChangeShapes Go.WideShapes Go.ChangeAt Go.RowKit Go.Dy
attribute [local go_sem] unary_neg_float

/-- The law's two words, unit by unit. -/
def Units (f : Nat) (u : Int) (got want : Nat) : Prop :=
  u = 0 ∧ got = f ∧ floatBits .mul .f64 f 4607182418800017408 = some want ∨ u = 1 ∧ got = want ∧ floatBits .mul .f64 f 4634766966517661696 = some want ∨
  u = 2 ∧ got = want ∧ floatBits .mul .f64 f 4628672035919596310 = some want ∨ u = 3 ∧ got = want ∧ floatBits .mul .f64 f 4613565473389991339 = some want

theorem units {f : Nat} {n : Int} (h : Is f n 1) (hn : n.natAbs ≤ 2097152) (u : Int) (h0 : 0 ≤ u) (h3 : u ≤ 3) : ∃ got want d1 d2 M s1 s, Units f u got want ∧ Near got want d1 d2 M s1 s := by
  have hu : u = 0 ∨ u = 1 ∨ u = 2 ∨ u = 3 := by omega
  rcases hu with rfl | rfl | rfl | rfl
  · obtain ⟨r, d1, d2, M, s1, s, hr, hN⟩ := near_one h hn
    exact ⟨f, r, d1, d2, M, s1, s, .inl ⟨rfl, rfl, hr⟩, hN⟩
  · obtain ⟨r, d1, d2, M, s1, s, hr, hN⟩ := near_mul (c := 4634766966517661696) (m := 5066549580791808) (e := -46) h hn (by decide) (by decide) (by decide) (by decide)
    exact ⟨r, r, d1, d2, M, s1, s, .inr (.inl ⟨rfl, rfl, hr⟩), hN⟩
  · obtain ⟨r, d1, d2, M, s1, s, hr, hN⟩ := near_mul (c := 4628672035919596310) (m := 7978818237467414) (e := -48) h hn (by decide) (by decide) (by decide) (by decide)
    exact ⟨r, r, d1, d2, M, s1, s, .inr (.inr (.inl ⟨rfl, rfl, hr⟩)), hN⟩
  · obtain ⟨r, d1, d2, M, s1, s, hr, hN⟩ := near_mul (c := 4613565473389991339) (m := 6383054589973931) (e := -51) h hn (by decide) (by decide) (by decide) (by decide)
    exact ⟨r, r, d1, d2, M, s1, s, .inr (.inr (.inr ⟨rfl, rfl, hr⟩)), hN⟩

set_option maxHeartbeats 1000000 in
theorem user_law (f : Nat) (u : Int) (w : World) (_wu : (Lit.int .i64 u).wf = true) :
    Calls Try.prog 5 #[.float .f64 f, .int .i64 u] w fun e w' => e = .returned (.bool true) ∧ Below w.heap.size w w' := by
  go_enter Try.func5, Try.ntmps5
  go_wp2_with fail
  refine (near_any w.heap.size 0 1 1 [f] _ rfl (by simp) ?_).mono ?_
  · intro i hi
    match i, hi with
    | 0, _ => go_simp
  rintro e w' ⟨⟨r, rfl, hr⟩, rfl⟩
  have B1 : Hid (Below w.heap.size w (w.alloc (.cells #[.float .f64 f] 26))) := (Below.refl _ _).alloc (Nat.le_refl _) _
  cases r with
  | false =>
    clear hr
    go_wp2
    go_ret
    exact ⟨rfl, B1.out⟩
  | true =>
    obtain ⟨n, hx, gx⟩ := hr rfl f (by simp)
    clear hr
    by_cases h0 : u < 0
    · clear hx gx
      go_wp2
      go_ret
      exact ⟨rfl, B1.out⟩
    · by_cases h3 : 3 < u
      · clear hx gx
        go_wp2
        go_ret
        exact ⟨rfl, B1.out⟩
      · obtain ⟨got, want, d1, d2, M, s1, s, hU, hN⟩ := units hx gx u (by omega) (by omega)
        clear hx gx h0 h3
        have p1 := run_sub hN.hd1
        have p2 := run_sub hN.hd2
        have p3 := fun ts t w => hN.hm Try.prog ts t w
        have p4 := run_add hN.hs1
        have p5 := run_mul hN.hs
        have p6 := hN.hle1
        have p7 := hN.hle2
        clear hN
        have k1 : floatBits .mul .f64 4607182418800017408 4634766966517661696 = some 4634766966517661696 := by kernel_rfl
        have c1 := fun w => user_any 4607182418800017408 4634766966517661696 4634766966517661696 1 (.inl ⟨rfl, rfl⟩) k1 w
        have k2 : (FloatKind.f64.format.order 4634766966517661696 4634766966517661696 == some .eq) = true := by kernel_rfl
        clear k1
        unfold Units at hU
        rcases hU with ⟨rfl, rfl, hm⟩ | ⟨rfl, rfl, hm⟩ | ⟨rfl, rfl, hm⟩ | ⟨rfl, rfl, hm⟩
        · have p0 := run_mul hm
          clear hm
          go_wp2_with fail
          refine (user_zero _ _).mono ?_
          rintro e w' ⟨rfl, rfl⟩
          go_wp2_with fail
          refine (c1 _).mono ?_
          rintro e w' ⟨rfl, rfl⟩
          clear c1
          go_wp2
          go_ret
          exact ⟨rfl, B1.out.alloc (by simp) _⟩
        · have p0 := run_mul hm
          have c0 := fun w => user_any f got 4634766966517661696 _ (.inl ⟨rfl, rfl⟩) hm w
          clear hm
          go_wp2_with fail
          refine (c0 _).mono ?_
          rintro e w' ⟨rfl, rfl⟩
          clear c0
          go_wp2_with fail
          refine (c1 _).mono ?_
          rintro e w' ⟨rfl, rfl⟩
          clear c1
          go_wp2
          go_ret
          exact ⟨rfl, B1.out.alloc (by simp) _⟩
        · have p0 := run_mul hm
          have c0 := fun w => user_any f got 4628672035919596310 _ (.inr (.inl ⟨rfl, rfl⟩)) hm w
          clear hm
          go_wp2_with fail
          refine (c0 _).mono ?_
          rintro e w' ⟨rfl, rfl⟩
          clear c0
          go_wp2_with fail
          refine (c1 _).mono ?_
          rintro e w' ⟨rfl, rfl⟩
          clear c1
          go_wp2
          go_ret
          exact ⟨rfl, B1.out.alloc (by simp) _⟩
        · have p0 := run_mul hm
          have c0 := fun w => user_any f got 4613565473389991339 _ (.inr (.inr ⟨rfl, rfl⟩)) hm w
          clear hm
          go_wp2_with fail
          refine (c0 _).mono ?_
          rintro e w' ⟨rfl, rfl⟩
          clear c0
          go_wp2_with fail
          refine (c1 _).mono ?_
          rintro e w' ⟨rfl, rfl⟩
          clear c1
          go_wp2
          go_ret
          exact ⟨rfl, B1.out.alloc (by simp) _⟩
end Go.Proofs.Ytolmmgemahohoaa
