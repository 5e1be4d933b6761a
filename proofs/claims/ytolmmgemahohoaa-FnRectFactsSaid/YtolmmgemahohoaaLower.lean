/- The functions model.LowerLeftCorner and impl.LowerLeft return what they should. Conditions: the words of the sums, differences and halves are handed in. -/
import Derived.Test.YtolmmgemahohoaaNormW
namespace Go.Proofs.Ytolmmgemahohoaa
open Go.ChangeShapes Go.WideShapes Go.ChangeAt Go.RowKit Go.Dy Go.Sort
attribute [local go_sem] run_store_float

/-- The words that an anchored box leads to. -/
structure LF (a b c d bw bh wd ht wd2 bw2 ht2 bh2 dx dy xm xr yt ym : Nat) : Prop where
  hwd : floatBits .sub .f64 c a = some wd
  hht : floatBits .sub .f64 d b = some ht
  hwd2 : floatBits .quo .f64 wd 4611686018427387904 = some wd2
  hbw2 : floatBits .quo .f64 bw 4611686018427387904 = some bw2
  hht2 : floatBits .quo .f64 ht 4611686018427387904 = some ht2
  hbh2 : floatBits .quo .f64 bh 4611686018427387904 = some bh2
  hdx : floatBits .sub .f64 wd2 bw2 = some dx
  hdy : floatBits .sub .f64 ht2 bh2 = some dy
  hxm : floatBits .add .f64 a dx = some xm
  hxr : floatBits .sub .f64 c bw = some xr
  hyt : floatBits .sub .f64 d bh = some yt
  hym : floatBits .add .f64 b dy = some ym

def cornX (k : Int) (a xm xr : Nat) : Nat := if k = 0 ∨ k = 3 ∨ k = 6 then a else if k = 1 ∨ k = 4 ∨ k = 7 then xm else xr
def cornY (k : Int) (yt ym b : Nat) : Nat := if k ≤ 2 then yt else if k ≤ 5 then ym else b

set_option maxHeartbeats 2000000 in
set_option maxRecDepth 100000 in
theorem corner_any {a b c d bw bh wd ht wd2 bw2 ht2 bh2 dx dy xm xr yt ym : Nat} (h : LF a b c d bw bh wd ht wd2 bw2 ht2 bh2 dx dy xm xr yt ym) (p : Nat) (k : Int) (k0 : 0 ≤ k) (k8 : k ≤ 8) (w : World) (hp : p < w.heap.size)
    (c0 : w.cell? ⟨p, 0, none⟩ = some (.float .f64 a)) (c1 : w.cell? ⟨p, 1, none⟩ = some (.float .f64 b))
    (c2 : w.cell? ⟨p, 2, none⟩ = some (.float .f64 c)) (c3 : w.cell? ⟨p, 3, none⟩ = some (.float .f64 d)) :
    Calls Try.prog 39 #[.pointer (some ⟨p, 0, none⟩), .float .f64 bw, .float .f64 bh, .int .i64 k] w fun e w' =>
      e = .returned (.agg #[.float .f64 (cornX k a xm xr), .float .f64 (cornY k yt ym b)]) ∧ Below w.heap.size w w' := by
  have wdt := fun w => width_any a b c d wd w (run_sub h.hwd)
  have hgt := fun w => height_any a b c d ht w (run_sub h.hht)
  have r3 := run_quo h.hwd2
  have r4 := run_quo h.hbw2
  have r5 := run_quo h.hht2
  have r6 := run_quo h.hbh2
  have r7 := run_sub h.hdx
  have r8 := run_sub h.hdy
  have r9 := run_add h.hxm
  have r10 := run_sub h.hxr
  have r11 := run_sub h.hyt
  have r12 := run_add h.hym
  clear h
  have hk : k = 0 ∨ k = 1 ∨ k = 2 ∨ k = 3 ∨ k = 4 ∨ k = 5 ∨ k = 6 ∨ k = 7 ∨ k = 8 := by omega
  go_enter Try.func39, Try.ntmps39
  go_wp2_with fail
  refine (wdt _).mono ?_
  rintro e w1 ⟨rfl, hb1⟩
  have s1 : w.heap.size + 1 < w1.heap.size := by have := hb1.size; simp at this; omega
  have q0 : w1.cell? ⟨w.heap.size, 0, none⟩ = some (.float .f64 0) := by rw [hb1.cell (by simp; omega)]; go_simp
  have q1 : w1.cell? ⟨w.heap.size, 1, none⟩ = some (.float .f64 0) := by rw [hb1.cell (by simp; omega)]; go_simp
  have q2 : w1.cell? ⟨w.heap.size + 1, 0, none⟩ = some (.float .f64 0) := by rw [hb1.cell (by simp)]; go_simp
  have q3 : w1.cell? ⟨w.heap.size + 1, 1, none⟩ = some (.float .f64 0) := by rw [hb1.cell (by simp)]; go_simp
  have f0 (i : Nat) : w1.frozen? ⟨w.heap.size, i, none⟩ = false := by rw [hb1.frozen (by simp; omega)]; go_simp
  have f1 (i : Nat) : w1.frozen? ⟨w.heap.size + 1, i, none⟩ = false := by rw [hb1.frozen (by simp)]; go_simp
  have B1 : Hid (Below w.heap.size w w1) := (((Below.refl _ _).alloc (Nat.le_refl _) _).alloc (by simp) _).trans (hb1.mono (by simp; omega))
  have p0 : w1.cell? ⟨p, 0, none⟩ = some (.float .f64 a) := (B1.out.cell (p := ⟨p, 0, none⟩) hp).trans c0
  have p1 : w1.cell? ⟨p, 1, none⟩ = some (.float .f64 b) := (B1.out.cell (p := ⟨p, 1, none⟩) hp).trans c1
  have p2 : w1.cell? ⟨p, 2, none⟩ = some (.float .f64 c) := (B1.out.cell (p := ⟨p, 2, none⟩) hp).trans c2
  have p3 : w1.cell? ⟨p, 3, none⟩ = some (.float .f64 d) := (B1.out.cell (p := ⟨p, 3, none⟩) hp).trans c3
  clear hb1 c0 c1 c2 c3
  go_wp2_with fail
  refine (hgt _).mono ?_
  rintro e w2 ⟨rfl, hb2⟩
  have P0 : w2.cell? ⟨p, 0, none⟩ = some (.float .f64 a) := by rw [hb2.cell (by simp; omega)]; exact p0
  have P1 : w2.cell? ⟨p, 1, none⟩ = some (.float .f64 b) := by rw [hb2.cell (by simp; omega)]; exact p1
  have P2 : w2.cell? ⟨p, 2, none⟩ = some (.float .f64 c) := by rw [hb2.cell (by simp; omega)]; exact p2
  have P3 : w2.cell? ⟨p, 3, none⟩ = some (.float .f64 d) := by rw [hb2.cell (by simp; omega)]; exact p3
  have Q0 : w2.cell? ⟨w.heap.size, 0, none⟩ = some (.float .f64 0) := by rw [hb2.cell (by simp; omega)]; exact q0
  have Q1 : w2.cell? ⟨w.heap.size, 1, none⟩ = some (.float .f64 0) := by rw [hb2.cell (by simp; omega)]; exact q1
  have Q2 : w2.cell? ⟨w.heap.size + 1, 0, none⟩ = some (.float .f64 0) := by rw [hb2.cell (by simp; omega)]; exact q2
  have Q3 : w2.cell? ⟨w.heap.size + 1, 1, none⟩ = some (.float .f64 0) := by rw [hb2.cell (by simp; omega)]; exact q3
  have F0 (i : Nat) : w2.frozen? ⟨w.heap.size, i, none⟩ = false := by rw [hb2.frozen (by simp; omega)]; exact f0 i
  have F1 (i : Nat) : w2.frozen? ⟨w.heap.size + 1, i, none⟩ = false := by rw [hb2.frozen (by simp; omega)]; exact f1 i
  have B2 : Hid (Below w.heap.size w w2) := B1.out.trans (hb2.mono B1.out.size)
  have ne : p ≠ w.heap.size + 1 := by omega
  clear hb2 B1 p0 p1 p2 p3 q0 q1 q2 q3 f0 f1 s1 wdt hgt
  rcases hk with rfl | rfl | rfl | rfl | rfl | rfl | rfl | rfl | rfl
  · go_wp2
    exact bodyPost_ret (v := .agg #[.float .f64 a, .float .f64 yt]) (by simp [results, Try.results39, go_sem, Q0, Q1]) rfl ⟨rfl, (((B2.out.setCell (by simp) _).setCell (by simp) _).setCell (by simp) _).setCell (by simp) _⟩
  · go_wp2
    exact bodyPost_ret (v := .agg #[.float .f64 xm, .float .f64 yt]) (by simp [results, Try.results39, go_sem, Q0, Q1]) rfl ⟨rfl, (((B2.out.setCell (by simp) _).setCell (by simp) _).setCell (by simp) _).setCell (by simp) _⟩
  · go_wp2
    exact bodyPost_ret (v := .agg #[.float .f64 xr, .float .f64 yt]) (by simp [results, Try.results39, go_sem, Q0, Q1]) rfl ⟨rfl, (((B2.out.setCell (by simp) _).setCell (by simp) _).setCell (by simp) _).setCell (by simp) _⟩
  · go_wp2
    exact bodyPost_ret (v := .agg #[.float .f64 a, .float .f64 ym]) (by simp [results, Try.results39, go_sem, Q0, Q1]) rfl ⟨rfl, (((B2.out.setCell (by simp) _).setCell (by simp) _).setCell (by simp) _).setCell (by simp) _⟩
  · go_wp2
    exact bodyPost_ret (v := .agg #[.float .f64 xm, .float .f64 ym]) (by simp [results, Try.results39, go_sem, Q0, Q1]) rfl ⟨rfl, (((B2.out.setCell (by simp) _).setCell (by simp) _).setCell (by simp) _).setCell (by simp) _⟩
  · go_wp2
    exact bodyPost_ret (v := .agg #[.float .f64 xr, .float .f64 ym]) (by simp [results, Try.results39, go_sem, Q0, Q1]) rfl ⟨rfl, (((B2.out.setCell (by simp) _).setCell (by simp) _).setCell (by simp) _).setCell (by simp) _⟩
  · go_wp2
    exact bodyPost_ret (v := .agg #[.float .f64 a, .float .f64 b]) (by simp [results, Try.results39, go_sem, Q0, Q1]) rfl ⟨rfl, (((B2.out.setCell (by simp) _).setCell (by simp) _).setCell (by simp) _).setCell (by simp) _⟩
  · go_wp2
    exact bodyPost_ret (v := .agg #[.float .f64 xm, .float .f64 b]) (by simp [results, Try.results39, go_sem, Q0, Q1]) rfl ⟨rfl, (((B2.out.setCell (by simp) _).setCell (by simp) _).setCell (by simp) _).setCell (by simp) _⟩
  · go_wp2
    exact bodyPost_ret (v := .agg #[.float .f64 xr, .float .f64 b]) (by simp [results, Try.results39, go_sem, Q0, Q1]) rfl ⟨rfl, (((B2.out.setCell (by simp) _).setCell (by simp) _).setCell (by simp) _).setCell (by simp) _⟩

theorem lowerLeft_any {a b c d bw bh wd ht wd2 bw2 ht2 bh2 dx dy xm xr yt ym : Nat} (h : LF a b c d bw bh wd ht wd2 bw2 ht2 bh2 dx dy xm xr yt ym) (k : Int) (k0 : 0 ≤ k) (k8 : k ≤ 8) (w : World) :
    Calls Try.prog 23 #[R4 a b c d, .float .f64 bw, .float .f64 bh, .int .i64 k] w fun e w' =>
      e = .returned (.tuple #[.float .f64 (cornX k a xm xr), .float .f64 (cornY k yt ym b)]) ∧ Below w.heap.size w w' := by
  generalize hX : cornX k a xm xr = X
  generalize hY : cornY k yt ym b = Y
  have CA := fun p w hp c0 c1 c2 c3 => corner_any h p k k0 k8 w hp c0 c1 c2 c3
  rw [hX, hY] at CA
  clear hX hY h k0 k8
  go_enter Try.func23, Try.ntmps23
  go_wp2_with (go_at_call 25; refine (rectangle_any _ _ _ _ _).mono ?_; rintro e w' ⟨rfl, rfl⟩)
  refine (CA _ _ (by simp) (by go_simp) (by go_simp) (by go_simp) (by go_simp)).mono ?_
  rintro e w1 ⟨rfl, hb⟩
  clear CA
  have B1 : Hid (Below w.heap.size w w1) := by
    refine Below.trans ?_ (hb.mono (by simp; omega))
    exact (((Below.refl _ _).alloc (Nat.le_refl _) _).alloc (by simp) _).alloc (by simp; omega) _
  have hz : w.heap.size ≤ w1.heap.size := B1.out.size
  clear hb
  go_wp2_with fail
  go_quiet (fail)
  go_wp2
  go_ret2
  exact ⟨rfl, by
    first
    | exact (B1.out.alloc hz _)
    | exact below_drewN (B1.out.alloc hz _) _⟩
end Go.Proofs.Ytolmmgemahohoaa
