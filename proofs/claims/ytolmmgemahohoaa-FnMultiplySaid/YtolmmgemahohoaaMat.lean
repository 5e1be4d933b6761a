/- The functions that multiply and apply matrices return what they should. Conditions: the words of the products and sums are handed in. -/
import Derived.Test.YtolmmgemahohoaaNormW
import Derived.BigRegion
import Derived.RegionTactic
import Derived.ChangeAlike
namespace Go.Proofs.Ytolmmgemahohoaa
open Go.ChangeShapes Go.WideShapes Go.ChangeAt Go.RowKit Go.Dy Go.Sort
attribute [local go_sem] run_store_float
attribute [local go_sem ↓] Go.wp_at_zero Go.wp_at_succ

/-- Nine floats in a row. -/
abbrev M9 (m : Nat → Nat) : Value := .agg #[.float .f64 (m 0), .float .f64 (m 1), .float .f64 (m 2), .float .f64 (m 3), .float .f64 (m 4), .float .f64 (m 5), .float .f64 (m 6), .float .f64 (m 7), .float .f64 (m 8)]
abbrev C9 (m : Nat → Nat) : Array Value := #[.float .f64 (m 0), .float .f64 (m 1), .float .f64 (m 2), .float .f64 (m 3), .float .f64 (m 4), .float .f64 (m 5), .float .f64 (m 6), .float .f64 (m 7), .float .f64 (m 8)]

/-- What the product's loops have written: all before place t whole, at place t the sum of the first k products, nought behind it. -/
def val (S : Nat → Nat → Nat → Nat) (t k c : Nat) : Nat := if c < t then S (c / 3) (c % 3) 3 else if c = t then S (c / 3) (c % 3) k else 0

def Nine (w : World) (b : Nat) (f : Nat → Nat) : Prop := ∀ c, c < 9 → w.cell? ⟨b, c, none⟩ = some (.float .f64 (f c))
def Free9 (w : World) (b : Nat) : Prop := ∀ c, c < 9 → w.frozen? ⟨b, c, none⟩ = false

theorem nine_alloc (w : World) (m : Nat → Nat) (t : TypeId) : Nine (w.alloc (.cells (C9 m) t)) w.heap.size m := by
  intro c hc
  match c, hc with
  | 0, _ | 1, _ | 2, _ | 3, _ | 4, _ | 5, _ | 6, _ | 7, _ | 8, _ => go_simp
theorem Nine.below {w w' : World} {b B : Nat} {f : Nat → Nat} (h : Nine w b f) (hb : Below B w w') (hB : b < B) : Nine w' b f := fun c hc => (hb.cell (p := ⟨b, c, none⟩) hB).trans (h c hc)


theorem far (w : World) (p q : Addr) (v : Value) (h : p ≠ q) : (w.setCell p v).cell? q = w.cell? q := by apply World.cell?_setCell_other; exact h
theorem at_it (w : World) (p : Addr) (u v : Value) (h : w.cell? p = some u) : (w.setCell p v).cell? p = some v := by apply World.cell?_setCell_same; exact h

structure Inv (w : World) (m n : Nat → Nat) (S : Nat → Nat → Nat → Nat) (t k : Nat) (wr : World) : Prop where
  hm : Nine wr w.heap.size m
  hn : Nine wr (w.heap.size + 1) n
  hq : Nine wr (w.heap.size + 1 + 1) fun _ => 0
  fq : Free9 wr (w.heap.size + 1 + 1)
  hp : Nine wr (w.heap.size + 1 + 1 + 1) (val S t k)
  fp : Free9 wr (w.heap.size + 1 + 1 + 1)
  bel : Below w.heap.size w wr

theorem Inv.next {w wr : World} {m n : Nat → Nat} {S : Nat → Nat → Nat → Nat} {t : Nat} (h0 : ∀ i j, S i j 0 = 0) (h : Inv w m n S t 3 wr) : Inv w m n S (t + 1) 0 wr := by
  have e : val S (t + 1) 0 = val S t 3 := by
    funext c
    unfold val
    by_cases h1 : c < t
    · rw [if_pos (by omega), if_pos h1]
    · by_cases h2 : c = t
      · rw [if_pos (by omega), if_neg h1, if_pos h2]
      · rw [if_neg (by omega), if_neg h1, if_neg h2]
        split
        · exact h0 _ _
        · rfl
  exact ⟨h.hm, h.hn, h.hq, h.fq, by rw [e]; exact h.hp, h.fp, h.bel⟩

theorem Inv.store {w wr : World} {m n : Nat → Nat} {S : Nat → Nat → Nat → Nat} {t k : Nat} (h : Inv w m n S t k wr) (ht : t < 9) : Inv w m n S t (k + 1) (wr.setCell ⟨w.heap.size + 1 + 1 + 1, t, none⟩ (.float .f64 (S (t / 3) (t % 3) (k + 1)))) := by
  refine ⟨fun c hc => ?_, fun c hc => ?_, fun c hc => ?_, fun c hc => ?_, fun c hc => ?_, fun c hc => ?_, h.bel.setCell (by simp; omega) _⟩
  · rw [far _ _ _ _ (by simp)]; exact h.hm c hc
  · rw [far _ _ _ _ (by simp)]; exact h.hn c hc
  · rw [far _ _ _ _ (by simp)]; exact h.hq c hc
  · rw [World.frozen?_setCell]; exact h.fq c hc
  · by_cases e : c = t
    · subst e
      rw [at_it _ _ _ _ (h.hp c hc)]
      simp [val]
    · rw [far _ _ _ _ (by simp only [ne_eq, Addr.mk.injEq]; omega), h.hp c hc]
      simp [val, e]
  · rw [World.frozen?_setCell]; exact h.fp c hc

theorem Inv.drew {w wr : World} {m n : Nat → Nat} {S : Nat → Nat → Nat → Nat} {t k : Nat} (h : Inv w m n S t k wr) : Inv w m n S t k wr.drew :=
  ⟨h.hm, h.hn, h.hq, h.fq, h.hp, h.fp, h.bel.drew⟩

theorem Nine.alloc {w : World} {b : Nat} {f : Nat → Nat} (h : Nine w b f) (o : Obj) (hb : b < w.heap.size) : Nine (w.alloc o) b f :=
  h.below ((Below.refl w.heap.size w).alloc (Nat.le_refl _) o) hb

theorem inv_start (w : World) (m n : Nat → Nat) (S : Nat → Nat → Nat → Nat) (h0 : ∀ i j, S i j 0 = 0) :
    Inv w m n S 0 0 ((((w.alloc (.cells (C9 m) 64)).alloc (.cells (C9 n) 64)).alloc (.cells (C9 fun _ => 0) 64)).alloc (.cells (C9 fun _ => 0) 64)) := by
  have e : val S 0 0 = fun _ => 0 := by
    funext c
    unfold val
    rw [if_neg (by omega)]
    split
    · exact h0 _ _
    · rfl
  have a1 := nine_alloc w m 64
  have a2 := nine_alloc (w.alloc (.cells (C9 m) 64)) n 64
  have a3 := nine_alloc ((w.alloc (.cells (C9 m) 64)).alloc (.cells (C9 n) 64)) (fun _ => 0) 64
  have a4 := nine_alloc (((w.alloc (.cells (C9 m) 64)).alloc (.cells (C9 n) 64)).alloc (.cells (C9 fun _ => 0) 64)) (fun _ => 0) 64
  simp only [World.size_alloc] at a2 a3 a4
  refine ⟨((a1.alloc _ (by simp)).alloc _ (by simp; omega)).alloc _ (by simp; omega), (a2.alloc _ (by simp)).alloc _ (by simp), a3.alloc _ (by simp), fun c hc => ?_, by rw [e]; exact a4, fun c hc => ?_, ?_⟩
  · go_simp
  · go_simp
  · exact ((((Below.refl _ _).alloc (Nat.le_refl _) _).alloc (by simp) _).alloc (by simp; omega) _).alloc (by simp; omega) _

theorem mulMat_any (m n : Nat → Nat) (S : Nat → Nat → Nat → Nat) (pr : Nat → Nat → Nat → Nat) (h0 : ∀ i j, S i j 0 = 0)
    (hmul : ∀ i j k, i < 3 → j < 3 → k < 3 → floatBits .mul .f64 (m (i * 3 + k)) (n (k * 3 + j)) = some (pr i j k))
    (hadd : ∀ i j k, i < 3 → j < 3 → k < 3 → floatBits .add .f64 (S i j k) (pr i j k) = some (S i j (k + 1))) (w : World) :
    Calls Try.prog 32 #[M9 m, M9 n] w fun e w' => e = .returned (M9 fun c => S (c / 3) (c % 3) 3) ∧ Below w.heap.size w w' := by
  have HS := Lib.hid (inv_start w m n S h0)
  go_enter Try.func32, Try.ntmps32
  go_wp2_with fail
  go_loopw [6] (fun i wr => ∃ i' : Nat, i' ≤ 3 ∧ i = .int .i64 i' ∧ Hid (Inv w m n S (i' * 3) 0 wr)) (fun i _ => 3 - (intOf i).toNat)
  case atStart => exact ⟨0, by omega, rfl, HS⟩
  case round =>
    obtain ⟨i, hi, rfl, HI⟩ := hrel
    obtain ⟨wo, rfl⟩ : ∃ wo : World, wo = wr := ⟨_, rfl⟩
    by_cases hi3 : i < 3
    · go_wp2_with fail
      go_loopw [7] (fun j wr => ∃ j' : Nat, j' ≤ 3 ∧ j = .int .i64 j' ∧ Hid (Inv w m n S (i * 3 + j') 0 wr)) (fun j _ => 3 - (intOf j).toNat)
      case atStart => exact ⟨0, by omega, rfl, HI⟩
      case round =>
        obtain ⟨j, hj, rfl, HJ⟩ := hrel
        obtain ⟨wp, rfl⟩ : ∃ wp : World, wp = wr := ⟨_, rfl⟩
        by_cases hj3 : j < 3
        · go_wp2_with fail
          go_loopw [8] (fun k wr => ∃ k' : Nat, k' ≤ 3 ∧ k = .int .i64 k' ∧ Hid (Inv w m n S (i * 3 + j) k' wr)) (fun k _ => 3 - (intOf k).toNat)
          case atStart => exact ⟨0, by omega, rfl, HJ⟩
          case round =>
            obtain ⟨k, hk, rfl, HK⟩ := hrel
            obtain ⟨wq, rfl⟩ : ∃ wq : World, wq = wr := ⟨_, rfl⟩
            by_cases hk3 : k < 3
            · have ht : i * 3 + j < 9 := by omega
              have a1 : wq.cell? ⟨w.heap.size + 1 + 1 + 1, i * 3 + j, none⟩ = some (.float .f64 (S i j k)) := by
                rw [HK.out.hp _ ht]
                simp only [val]
                rw [if_neg (by omega), if_pos trivial, show (i * 3 + j) / 3 = i by omega, show (i * 3 + j) % 3 = j by omega]
              have a2 : wq.cell? ⟨w.heap.size, i * 3 + k, none⟩ = some (.float .f64 (m (i * 3 + k))) := HK.out.hm _ (by omega)
              have a3 : wq.cell? ⟨w.heap.size + 1, k * 3 + j, none⟩ = some (.float .f64 (n (k * 3 + j))) := HK.out.hn _ (by omega)
              have f1 : wq.frozen? ⟨w.heap.size + 1 + 1 + 1, i * 3 + j, none⟩ = false := HK.out.fp _ ht
              have r1 := run_mul (hmul i j k hi3 hj3 hk3)
              have r2 := run_add (hadd i j k hi3 hj3 hk3)
              have HN : Hid (Inv w m n S (i * 3 + j) (k + 1) (wq.drew.setCell ⟨w.heap.size + 1 + 1 + 1, i * 3 + j, none⟩ (.float .f64 (S i j (k + 1))))) := by
                have := (HK.out.drew).store ht
                rw [show (i * 3 + j) / 3 = i by omega, show (i * 3 + j) % 3 = j by omega] at this
                exact this
              have b1 : (0 : Int) ≤ (i : Int) := by omega
              have b2 : (0 : Int) ≤ (j : Int) := by omega
              have b3 : (0 : Int) ≤ (k : Int) := by omega
              have b4 : (i : Int) < 3 := by omega
              have b5 : (j : Int) < 3 := by omega
              have b6 : (k : Int) < 3 := by omega
              go_wp2_with fail
              go_region
              go_wp2
              go_roundw
              case rel => exact ⟨k + 1, by omega, by go_num, HN⟩
              case measure => simp [intOf]; omega
            · have HN : Hid (Inv w m n S (i * 3 + (j + 1)) 0 wq) := by
                have hk' : k = 3 := by omega
                subst hk'
                exact HK.out.next h0
              go_wp2
              go_roundw
              case rel => exact ⟨j + 1, by omega, by go_num, HN⟩
              case measure => simp [intOf]; omega
        · have HN : Hid (Inv w m n S ((i + 1) * 3) 0 wp) := by
            have hj' : j = 3 := by omega
            subst hj'
            rw [show (i + 1) * 3 = i * 3 + 3 by omega]
            exact HJ.out
          go_wp2
          go_roundw
          case rel => exact ⟨i + 1, by omega, by go_num, HN⟩
          case measure => simp [intOf]; omega
    · have HN : Hid (Inv w m n S 9 0 wo) := by
        have hi' : i = 3 := by omega
        subst hi'
        exact HI.out
      have cv (c : Nat) (hc : c < 9) : wo.cell? ⟨w.heap.size + 1 + 1 + 1, c, none⟩ = some (.float .f64 (S (c / 3) (c % 3) 3)) := by
        rw [HN.out.hp c hc]; simp only [val]; rw [if_pos hc]
      have p0 := cv 0 (by omega)
      have p1 := cv 1 (by omega)
      have p2 := cv 2 (by omega)
      have p3 := cv 3 (by omega)
      have p4 := cv 4 (by omega)
      have p5 := cv 5 (by omega)
      have p6 := cv 6 (by omega)
      have p7 := cv 7 (by omega)
      have p8 := cv 8 (by omega)
      have q0 := HN.out.hq 0 (by omega)
      have q1 := HN.out.hq 1 (by omega)
      have q2 := HN.out.hq 2 (by omega)
      have q3 := HN.out.hq 3 (by omega)
      have q4 := HN.out.hq 4 (by omega)
      have q5 := HN.out.hq 5 (by omega)
      have q6 := HN.out.hq 6 (by omega)
      have q7 := HN.out.hq 7 (by omega)
      have q8 := HN.out.hq 8 (by omega)
      have f0 := HN.out.fq 0 (by omega)
      have f1 := HN.out.fq 1 (by omega)
      have f2 := HN.out.fq 2 (by omega)
      have f3 := HN.out.fq 3 (by omega)
      have f4 := HN.out.fq 4 (by omega)
      have f5 := HN.out.fq 5 (by omega)
      have f6 := HN.out.fq 6 (by omega)
      have f7 := HN.out.fq 7 (by omega)
      have f8 := HN.out.fq 8 (by omega)
      have HB : Hid (Below w.heap.size w wo) := HN.out.bel
      have hge : w.heap.size ≤ w.heap.size + 1 + 1 := by omega
      have HM : Hid ((M9 fun c => S (c / 3) (c % 3) 3) = .agg #[.float .f64 (S 0 0 3), .float .f64 (S 0 1 3), .float .f64 (S 0 2 3), .float .f64 (S 1 0 3), .float .f64 (S 1 1 3), .float .f64 (S 1 2 3), .float .f64 (S 2 0 3), .float .f64 (S 2 1 3), .float .f64 (S 2 2 3)]) := rfl
      clear cv HI HN HS hmul hadd h0
      simp only [Nat.reduceDiv, Nat.reduceMod] at p0 p1 p2 p3 p4 p5 p6 p7 p8
      generalize S 0 0 3 = s00 at *
      generalize S 0 1 3 = s01 at *
      generalize S 0 2 3 = s02 at *
      generalize S 1 0 3 = s10 at *
      generalize S 1 1 3 = s11 at *
      generalize S 1 2 3 = s12 at *
      generalize S 2 0 3 = s20 at *
      generalize S 2 1 3 = s21 at *
      generalize S 2 2 3 = s22 at *
      go_wp2
      exact bodyPost_ret (v := .agg #[.float .f64 s00, .float .f64 s01, .float .f64 s02, .float .f64 s10, .float .f64 s11, .float .f64 s12, .float .f64 s20, .float .f64 s21, .float .f64 s22])
        (by simp [results, Try.results32, go_sem, q0, q1, q2, q3, q4, q5, q6, q7, q8]) rfl ⟨by rw [HM.out], ((((((((HB.out.setCell hge _).setCell hge _).setCell hge _).setCell hge _).setCell hge _).setCell hge _).setCell hge _).setCell hge _).setCell hge _⟩
end Go.Proofs.Ytolmmgemahohoaa
