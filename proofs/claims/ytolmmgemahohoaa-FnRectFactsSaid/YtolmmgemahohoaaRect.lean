/- The functions that make, measure, move and read a rectangle return what they should. Conditions: the words of the sums and differences are handed in. -/
import Derived.Test.YtolmmgemahohoaaPlain
import Derived.Deep.RegionHeld3
import Derived.Deep.DrawnRows
import Derived.Lib.QuietBelow
import Derived.StillTactics
namespace Go.Proofs.Ytolmmgemahohoaa
open Go.ChangeShapes Go.WideShapes Go.ChangeAt Go.RowKit Go.Dy

theorem run_store_float (P : Program) (w : World) (a : Addr) (m : Mode) (k : FloatKind) (b : Nat) : (store a (.float k b) m).run P w = stored P w a (.float k b) m := run_store P w a _ m rfl
attribute [local go_sem] run_store_float

/-- A rectangle's value. -/
abbrev R4 (a b c d : Nat) : Value := .agg #[.float .f64 a, .float .f64 b, .float .f64 c, .float .f64 d]

/-- The four cells of a rectangle. -/
def Cells4 (w : World) (p : Nat) (a b c d : Nat) : Prop :=
  w.cell? ⟨p, 0, none⟩ = some (.float .f64 a) ∧ w.cell? ⟨p, 1, none⟩ = some (.float .f64 b) ∧ w.cell? ⟨p, 2, none⟩ = some (.float .f64 c) ∧ w.cell? ⟨p, 3, none⟩ = some (.float .f64 d)

theorem new_any (a b c d : Nat) (w : World) :
    Calls Try.prog 40 #[.float .f64 a, .float .f64 b, .float .f64 c, .float .f64 d] w fun e w' => e = .returned (.pointer (some ⟨w.heap.size, 0, none⟩)) ∧
      w.alloc (.cells #[.float .f64 a, .float .f64 b, .float .f64 c, .float .f64 d] 59) = w' := by
  go_enter Try.func40, Try.ntmps40
  go_wp2
  go_ret
  exact ⟨rfl, rfl⟩

theorem rectangle_any (a b c d : Nat) (w : World) :
    Calls Try.prog 25 #[R4 a b c d] w fun e w' => e = .returned (.pointer (some ⟨w.heap.size + 1, 0, none⟩)) ∧
      (w.alloc (.cells #[.float .f64 a, .float .f64 b, .float .f64 c, .float .f64 d] 28)).alloc (.cells #[.float .f64 a, .float .f64 b, .float .f64 c, .float .f64 d] 59) = w' := by
  go_enter Try.func25, Try.ntmps25
  go_wp2
  go_ret
  exact ⟨rfl, rfl⟩

theorem width_any (a b c d r : Nat) (w : World) (h : ∀ w, (binOp .sub 26 (.float .f64 c) (.float .f64 a)).run Try.prog w = .ok (.float .f64 r) w) :
    Calls Try.prog 34 #[R4 a b c d] w fun e w' => e = .returned (.float .f64 r) ∧ Below w.heap.size w w' := by
  go_enter Try.func34, Try.ntmps34
  go_wp2
  go_ret
  exact ⟨rfl, (Below.refl _ _).alloc (Nat.le_refl _) _⟩

theorem height_any (a b c d r : Nat) (w : World) (h : ∀ w, (binOp .sub 26 (.float .f64 d) (.float .f64 b)).run Try.prog w = .ok (.float .f64 r) w) :
    Calls Try.prog 35 #[R4 a b c d] w fun e w' => e = .returned (.float .f64 r) ∧ Below w.heap.size w w' := by
  go_enter Try.func35, Try.ntmps35
  go_wp2
  go_ret
  exact ⟨rfl, (Below.refl _ _).alloc (Nat.le_refl _) _⟩

/-- 'impl.plain': the rectangle that a pointer leads to. -/
theorem unbox_any (p a b c d : Nat) (w : World) (_hp : p < w.heap.size) (h0 : w.cell? ⟨p, 0, none⟩ = some (.float .f64 a)) (h1 : w.cell? ⟨p, 1, none⟩ = some (.float .f64 b))
    (h2 : w.cell? ⟨p, 2, none⟩ = some (.float .f64 c)) (h3 : w.cell? ⟨p, 3, none⟩ = some (.float .f64 d)) :
    Calls Try.prog 29 #[.pointer (some ⟨p, 0, none⟩)] w fun e w' => e = .returned (R4 a b c d) ∧ Below w.heap.size w w' := by
  go_enter Try.func29, Try.ntmps29
  go_wp2
  go_region_held3 (fun w' => w'.cell? ⟨p, 0, none⟩ = some (.float .f64 a) ∧ w'.cell? ⟨p, 1, none⟩ = some (.float .f64 b) ∧ w'.cell? ⟨p, 2, none⟩ = some (.float .f64 c) ∧ w'.cell? ⟨p, 3, none⟩ = some (.float .f64 d)) (go_keep) (fail)
  go_wp2
  exact bodyPost_ret (v := R4 a b c d) (by simp [results, Try.results29, go_sem]) rfl ⟨rfl, ((Below.refl _ _).alloc (Nat.le_refl _) _).drew⟩

theorem translate_any (p a b c d x y a' b' c' d' : Nat) (w : World) (hp : p = w.heap.size)
    (ha : ∀ w, (binOp .add 26 (.float .f64 a) (.float .f64 x)).run Try.prog w = .ok (.float .f64 a') w)
    (hb : ∀ w, (binOp .add 26 (.float .f64 b) (.float .f64 y)).run Try.prog w = .ok (.float .f64 b') w)
    (hc : ∀ w, (binOp .add 26 (.float .f64 c) (.float .f64 x)).run Try.prog w = .ok (.float .f64 c') w)
    (hd : ∀ w, (binOp .add 26 (.float .f64 d) (.float .f64 y)).run Try.prog w = .ok (.float .f64 d') w) :
    Calls Try.prog 28 #[.pointer (some ⟨p, 0, none⟩), .float .f64 x, .float .f64 y] (w.alloc (.cells #[.float .f64 a, .float .f64 b, .float .f64 c, .float .f64 d] 59))
      fun e w' => e = .returned (.tuple #[]) ∧ w.alloc (.cells #[.float .f64 a', .float .f64 b', .float .f64 c', .float .f64 d'] 59) = w' := by
  subst hp
  go_enter Try.func28, Try.ntmps28
  go_wp2
  go_end0
  go_wp2
  go_end0
  go_wp2
  go_end0
  exact ⟨rfl, rfl⟩

theorem moved_any (a b c d x y a' b' c' d' : Nat) (w : World)
    (ha : ∀ w, (binOp .add 26 (.float .f64 a) (.float .f64 x)).run Try.prog w = .ok (.float .f64 a') w)
    (hb : ∀ w, (binOp .add 26 (.float .f64 b) (.float .f64 y)).run Try.prog w = .ok (.float .f64 b') w)
    (hc : ∀ w, (binOp .add 26 (.float .f64 c) (.float .f64 x)).run Try.prog w = .ok (.float .f64 c') w)
    (hd : ∀ w, (binOp .add 26 (.float .f64 d) (.float .f64 y)).run Try.prog w = .ok (.float .f64 d') w) :
    Calls Try.prog 17 #[R4 a b c d, .float .f64 x, .float .f64 y] w fun e w' => e = .returned (R4 a' b' c' d') ∧ Below w.heap.size w w' := by
  go_enter Try.func17, Try.ntmps17
  go_wp2_with (go_at_call 25; refine (rectangle_any _ _ _ _ _).mono ?_; rintro e w' ⟨rfl, rfl⟩)
  refine (translate_any _ a b c d x y a' b' c' d' _ (by simp) ha hb hc hd).mono ?_
  rintro e w' ⟨rfl, rfl⟩
  go_wp2_with fail
  refine (unbox_any _ a' b' c' d' _ (by simp) (by go_simp) (by go_simp) (by go_simp) (by go_simp)).mono ?_
  rintro e w' ⟨rfl, hb⟩
  have f (i : Nat) : w'.frozen? ⟨w.heap.size + 1, i, none⟩ = false := by rw [hb.frozen (by simp)]; go_simp
  have c0 : w'.cell? ⟨w.heap.size + 1, 0, none⟩ = some (.float .f64 0) := by rw [hb.cell (by simp)]; go_simp
  have c1 : w'.cell? ⟨w.heap.size + 1, 1, none⟩ = some (.float .f64 0) := by rw [hb.cell (by simp)]; go_simp
  have c2 : w'.cell? ⟨w.heap.size + 1, 2, none⟩ = some (.float .f64 0) := by rw [hb.cell (by simp)]; go_simp
  have c3 : w'.cell? ⟨w.heap.size + 1, 3, none⟩ = some (.float .f64 0) := by rw [hb.cell (by simp)]; go_simp
  have hB : Hid (Below w.heap.size w w') := by
    refine Below.trans ?_ (hb.mono (by simp; omega))
    exact ((((Below.refl _ _).alloc (Nat.le_refl _) _).alloc (by simp) _).alloc (by simp; omega) _).alloc (by simp; omega) _
  clear hb
  go_wp2
  exact bodyPost_ret (v := R4 a' b' c' d') (by simp [results, Try.results17, go_sem, c0, c1, c2, c3]) rfl ⟨rfl, by
    exact (((hB.out.setCell (by simp) _).setCell (by simp) _).setCell (by simp) _).setCell (by simp) _⟩
end Go.Proofs.Ytolmmgemahohoaa
