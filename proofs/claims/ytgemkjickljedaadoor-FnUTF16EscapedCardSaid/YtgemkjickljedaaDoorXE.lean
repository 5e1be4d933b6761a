/- What the reader of what stands behind a reverse solidus answers. Conditions: at most 32000 bytes. -/
import Derived.Test.YtgemkjickljedaaDoorXR
import Derived.Laws.Bits64b
namespace Go.Proofs.YtgemkjickljedaaDoor.Lit
open Go.ChangeShapes Go.WideShapes Go.ChangeAt Go.RowKit

/-- Digits, of which m have been read, that are worth v. -/
def more : Nat → Nat → List UInt8 → UInt8 × Bool × Nat
  | m, v, [] => (UInt8.ofNat v, true, m)
  | m, v, c :: t => if m < 3 ∧ oct c = true then more (m + 1) (8 * v + (c.toNat - 48)) t else (UInt8.ofNat v, true, m)
theorem more_stop {m v : Nat} {l : List UInt8} (h : ∀ c, l[0]? = some c → ¬ (m < 3 ∧ oct c = true)) : more m v l = (UInt8.ofNat v, true, m) := by
  cases l with
  | nil => rfl
  | cons c t => rw [more, if_neg (h c rfl)]
theorem more_go {m v : Nat} {c : UInt8} {t : List UInt8} (h : m < 3) (hc : oct c = true) : more m v (c :: t) = more (m + 1) (8 * v + (c.toNat - 48)) t := by rw [more, if_pos ⟨h, hc⟩]
theorem more_3 (v : Nat) (l : List UInt8) : more 3 v l = (UInt8.ofNat v, true, 3) := more_stop fun c _ h => by omega
theorem v3_eq (c d e : UInt8) : v3 c d e = UInt8.ofNat (8 * (8 * (c.toNat - 48) + (d.toNat - 48)) + (e.toNat - 48)) := by
  unfold v3
  rw [show 64 * (c.toNat - 48) + 8 * (d.toNat - 48) + (e.toNat - 48) = 8 * (8 * (c.toNat - 48) + (d.toNat - 48)) + (e.toNat - 48) by omega]
theorem esc_oct {c : UInt8} (t : List UInt8) (hc : oct c = true) : esc1 (c :: t) = more 1 (c.toNat - 48) t := by
  match t with
  | [] => simp [esc1, hc, more, v1]
  | [d] =>
    by_cases hd : oct d = true
    · simp [esc1, hc, hd, more, v2]
    · simp [esc1, hc, hd, more, v1]
  | d :: e :: t =>
    by_cases hd : oct d = true
    · by_cases he : oct e = true
      · rw [more_go (by decide) hd, more_go (by decide) he, more_3]
        simp only [esc1, hc, hd, he, if_true]
        rw [v3_eq]
      · simp [esc1, hc, hd, he, more, v2]
    · simp [esc1, hc, hd, more, v1]
theorem esc_cons {c : UInt8} (t : List UInt8) (hc : oct c = false) (h10 : c ≠ 10) (h13 : c ≠ 13) : esc1 (c :: t) = (escv c, true, 1) := by
  match t with
  | [] => simp [esc1, hc, h10, h13]
  | [d] => simp [esc1, hc, h10, h13]
  | d :: e :: t => simp [esc1, hc, h10, h13]
theorem esc_10 (t : List UInt8) : esc1 (10 :: t) = (0, false, 1) := by
  have h : oct 10 = false := by decide
  match t with
  | [] => simp [esc1, h]
  | [d] => simp [esc1, h]
  | d :: e :: t => simp [esc1, h]
theorem esc_13 (t : List UInt8) (ht : t[0]? ≠ some 10) : esc1 (13 :: t) = (0, false, 1) := by
  have h : oct 13 = false := by decide
  match t, ht with
  | [], _ => simp [esc1, h]
  | [d], ht => have : d ≠ 10 := fun e => ht (by rw [e]; rfl)
               simp [esc1, h, this]
  | d :: e :: t, ht => have : d ≠ 10 := fun e => ht (by rw [e]; rfl)
                       simp [esc1, h, this]
theorem esc_1310 (t : List UInt8) : esc1 (13 :: 10 :: t) = (0, false, 2) := by
  have h : oct 13 = false := by decide
  match t with
  | [] => simp [esc1, h]
  | d :: t => simp [esc1, h]

theorem and64 (x : Nat) (hx : x < 65536) : bits .and .i64 (x : Int) 255 = ((x % 256 : Nat) : Int) := by
  have h1 : (BitVec.ofInt 64 (x : Int)).toNat = x := by
    rw [BitVec.ofInt_natCast, BitVec.toNat_ofNat]; exact Nat.mod_eq_of_lt (by omega)
  have h2 : (BitVec.ofInt 64 (255 : Int)).toNat = 255 := by decide
  have h3 : x &&& 255 = x % 256 := Nat.and_two_pow_sub_one_eq_mod x 8
  show IntKind.i64.wrap ((BitVec.ofInt 64 (x : Int) &&& BitVec.ofInt 64 (255 : Int)).toNat : Int) = _
  rw [BitVec.toNat_and, h1, h2, h3, IntKind.wrap_i64]
  omega

/-- A reader: its cells. -/
structure Rl (b : Nat) (t : ByteArray) (at_ : Int) (w : World) : Prop where
  s : w.cell? ⟨b, 0, none⟩ = some (.string t)
  at_ : w.cell? ⟨b, 1, none⟩ = some (.int .i64 at_)
  bad : w.cell? ⟨b, 2, none⟩ = some (.int .i64 0)
  ends : w.cell? ⟨b, 5, none⟩ = some (.bool false)
  f1 : w.frozen? ⟨b, 1, none⟩ = false
  f2 : w.frozen? ⟨b, 2, none⟩ = false
  f5 : w.frozen? ⟨b, 5, none⟩ = false

/-- Only the reader's place turns. -/
structure Turn (b : Nat) (w w' : World) : Prop where
  below : Below b w w'
  size : w'.heap.size = w.heap.size
  other : ∀ k, k ≠ b → w'.heap[k]? = w.heap[k]?
theorem Turn.refl (b : Nat) (w : World) : Turn b w w := ⟨Below.refl _ _, rfl, fun _ _ => rfl⟩
theorem Turn.trans {b : Nat} {x y z : World} (h : Turn b x y) (k : Turn b y z) : Turn b x z := ⟨h.below.trans k.below, k.size.trans h.size, fun i hi => (k.other i hi).trans (h.other i hi)⟩
theorem Turn.drewN {b : Nat} {x y : World} (h : Turn b x y) (q : Nat) : Turn b x (y.drewN q) := ⟨below_drewN h.below q, h.size, h.other⟩
theorem Rl.drewN {b : Nat} {t : ByteArray} {x : Int} {w : World} (R : Rl b t x w) (q : Nat) : Rl b t x (w.drewN q) := ⟨R.s, R.at_, R.bad, R.ends, R.f1, R.f2, R.f5⟩
theorem Rl.step {b : Nat} {t : ByteArray} {x : Int} {w : World} (R : Rl b t x w) (y : Int) : Rl b t y (w.setCell ⟨b, 1, none⟩ (.int .i64 y)) ∧ Turn b w (w.setCell ⟨b, 1, none⟩ (.int .i64 y)) := by
  obtain ⟨c0, c1, c2, c3, f1, f2, f5⟩ := R
  refine ⟨?_, (Below.refl b w).setCell (p := ⟨b, 1, none⟩) (Nat.le_refl _) _, by simp, fun k hk => Below.heap_setCell _ _ _ _ hk⟩
  constructor <;> go_simp <;> assumption

/-- What the escape's reader leaves. -/
def EscQ (b : Nat) (t : ByteArray) (a : Nat) (w : World) (e : Ending) (w' : World) : Prop :=
  e = .returned (.tuple #[.int .u8 (esc1 (t.data.toList.drop a)).1.toNat, .bool (esc1 (t.data.toList.drop a)).2.1]) ∧ Rl b t ((a + (esc1 (t.data.toList.drop a)).2.2 : Nat) : Int) w' ∧ Turn b w w'

set_option maxHeartbeats 4000000 in
set_option maxRecDepth 100000 in
theorem escape_any (b a : Nat) (t : ByteArray) (w : World) (hR : Rl b t a w) (ha : a < t.size) (ht : t.size ≤ 32000) :
    Calls Tryd.prog 59 #[.pointer (some ⟨b, 0, none⟩)] w (EscQ b t a w) := by
  have hget := get_of ha
  have hlen : t.data.toList.length = t.size := by simp
  have HLEN : Hid (t.data.toList.length = t.size) := hlen
  obtain ⟨c, hc⟩ : ∃ c, t[a] = c := ⟨_, rfl⟩
  rw [hc] at hget
  have hdrop := drop1' hget
  have HD : Hid (t.data.toList.drop a = c :: t.data.toList.drop (a + 1)) := hdrop
  have HR := hR
  obtain ⟨r0, r1, r2, r3, r4, r5, r6⟩ := hR
  have d0 : decide ((t.size : Int) ≤ (a : Int)) = false := by simp; omega
  have la := c.toNat_lt
  have S1 := fun q => (HR.drewN q).step ((a : Int) + 1)
  have a1 : (a : Int) < (t.size : Int) := by omega
  have a2 : (t.size : Int) ≤ 32000 := by omega
  clear hdrop hget hlen
  by_cases h110 : c.toNat = 110
  · have e : c = 110 := u8_of (by decide) h110
    have z : ((c.toNat : Int) == 110) = true := by simp; omega
    have hq : esc1 (t.data.toList.drop a) = (10, true, 1) := by rw [HD.out, e]; exact esc_cons _ (by decide) (by decide) (by decide)
    have HQ : Hid (esc1 (t.data.toList.drop a) = (10, true, 1)) := hq
    clear hq e h110
    go_enter Tryd.func59, Tryd.ntmps59
    go_wp2
    go_quiet (fail)
    go_wp2
    go_quiet (fail)
    go_wp2
    go_ret2
    refine ⟨by rw [HQ.out]; rfl, by rw [HQ.out]; exact (S1 _).1, (Turn.refl b w).drewN _ |>.trans (S1 _).2⟩
  have n110 : ((c.toNat : Int) == 110) = false := by simp; omega
  by_cases h114 : c.toNat = 114
  · have e : c = 114 := u8_of (by decide) h114
    have z : ((c.toNat : Int) == 114) = true := by simp; omega
    have hq : esc1 (t.data.toList.drop a) = (13, true, 1) := by rw [HD.out, e]; exact esc_cons _ (by decide) (by decide) (by decide)
    have HQ : Hid (esc1 (t.data.toList.drop a) = (13, true, 1)) := hq
    clear hq e h114
    go_enter Tryd.func59, Tryd.ntmps59
    go_wp2
    go_quiet (fail)
    go_wp2
    go_quiet (fail)
    go_wp2
    go_ret2
    refine ⟨by rw [HQ.out]; rfl, by rw [HQ.out]; exact (S1 _).1, (Turn.refl b w).drewN _ |>.trans (S1 _).2⟩
  have n114 : ((c.toNat : Int) == 114) = false := by simp; omega
  by_cases h116 : c.toNat = 116
  · have e : c = 116 := u8_of (by decide) h116
    have z : ((c.toNat : Int) == 116) = true := by simp; omega
    have hq : esc1 (t.data.toList.drop a) = (9, true, 1) := by rw [HD.out, e]; exact esc_cons _ (by decide) (by decide) (by decide)
    have HQ : Hid (esc1 (t.data.toList.drop a) = (9, true, 1)) := hq
    clear hq e h116
    go_enter Tryd.func59, Tryd.ntmps59
    go_wp2
    go_quiet (fail)
    go_wp2
    go_quiet (fail)
    go_wp2
    go_ret2
    refine ⟨by rw [HQ.out]; rfl, by rw [HQ.out]; exact (S1 _).1, (Turn.refl b w).drewN _ |>.trans (S1 _).2⟩
  have n116 : ((c.toNat : Int) == 116) = false := by simp; omega
  by_cases h98 : c.toNat = 98
  · have e : c = 98 := u8_of (by decide) h98
    have z : ((c.toNat : Int) == 98) = true := by simp; omega
    have hq : esc1 (t.data.toList.drop a) = (8, true, 1) := by rw [HD.out, e]; exact esc_cons _ (by decide) (by decide) (by decide)
    have HQ : Hid (esc1 (t.data.toList.drop a) = (8, true, 1)) := hq
    clear hq e h98
    go_enter Tryd.func59, Tryd.ntmps59
    go_wp2
    go_quiet (fail)
    go_wp2
    go_quiet (fail)
    go_wp2
    go_ret2
    refine ⟨by rw [HQ.out]; rfl, by rw [HQ.out]; exact (S1 _).1, (Turn.refl b w).drewN _ |>.trans (S1 _).2⟩
  have n98 : ((c.toNat : Int) == 98) = false := by simp; omega
  by_cases h102 : c.toNat = 102
  · have e : c = 102 := u8_of (by decide) h102
    have z : ((c.toNat : Int) == 102) = true := by simp; omega
    have hq : esc1 (t.data.toList.drop a) = (12, true, 1) := by rw [HD.out, e]; exact esc_cons _ (by decide) (by decide) (by decide)
    have HQ : Hid (esc1 (t.data.toList.drop a) = (12, true, 1)) := hq
    clear hq e h102
    go_enter Tryd.func59, Tryd.ntmps59
    go_wp2
    go_quiet (fail)
    go_wp2
    go_quiet (fail)
    go_wp2
    go_ret2
    refine ⟨by rw [HQ.out]; rfl, by rw [HQ.out]; exact (S1 _).1, (Turn.refl b w).drewN _ |>.trans (S1 _).2⟩
  have n102 : ((c.toNat : Int) == 102) = false := by simp; omega
  by_cases h10 : c.toNat = 10
  · have e : c = 10 := u8_of (by decide) h10
    have z : ((c.toNat : Int) == 10) = true := by simp; omega
    have hq : esc1 (t.data.toList.drop a) = (0, false, 1) := by rw [HD.out, e]; exact esc_10 _
    have HQ : Hid (esc1 (t.data.toList.drop a) = (0, false, 1)) := hq
    clear hq e h10
    go_enter Tryd.func59, Tryd.ntmps59
    go_wp2
    go_quiet (fail)
    go_wp2
    go_quiet (fail)
    go_wp2
    go_ret2
    refine ⟨by rw [HQ.out]; rfl, by rw [HQ.out]; exact (S1 _).1, (Turn.refl b w).drewN _ |>.trans (S1 _).2⟩
  have n10 : ((c.toNat : Int) == 10) = false := by simp; omega
  by_cases h13 : c.toNat = 13
  · have e : c = 13 := u8_of (by decide) h13
    have z : ((c.toNat : Int) == 13) = true := by simp; omega
    clear h13
    have S2 := fun q q' => ((S1 q).1.drewN q').step ((a : Int) + 1 + 1)
    by_cases hl : a + 1 < t.size
    · have hg1 := get_of hl
      obtain ⟨d, hd⟩ : ∃ d, t[a + 1] = d := ⟨_, rfl⟩
      rw [hd] at hg1
      have d1 : decide ((a : Int) + 1 < (t.size : Int)) = true := by simp; omega
      have d2 : (a : Int) + 1 < (t.size : Int) := by omega
      by_cases h10' : d.toNat = 10
      · have HQ : Hid (esc1 (t.data.toList.drop a) = (0, false, 2)) := by
          show _ = _
          rw [HD.out, e, drop1' hg1, (u8_eq d 10 (by decide)).2 h10']; exact esc_1310 _
        have z2 : ((d.toNat : Int) == 10) = true := by simp; omega
        clear h10' hg1 e
        go_enter Tryd.func59, Tryd.ntmps59
        go_wp2
        go_quiet (fail)
        go_wp2
        go_quiet (fail)
        go_wp2
        go_quiet (fail)
        go_wp2
        go_ret2
        refine ⟨by rw [HQ.out]; rfl, by rw [HQ.out]; exact (S2 _ _).1, (((Turn.refl b w).drewN _).trans (S1 _).2).trans ((((Turn.refl b _).drewN _)).trans (S2 _ _).2)⟩
      · have HQ : Hid (esc1 (t.data.toList.drop a) = (0, false, 1)) := by
          show _ = _
          rw [HD.out, e]; exact esc_13 _ (by rw [List.getElem?_drop, Nat.add_zero, hg1]; intro h; apply h10'; cases h; rfl)
        have z2 : ((d.toNat : Int) == 10) = false := by simp; omega
        clear h10' hg1 e
        go_enter Tryd.func59, Tryd.ntmps59
        go_wp2
        go_quiet (fail)
        go_wp2
        go_quiet (fail)
        go_wp2
        go_quiet (fail)
        go_wp2
        go_ret2
        refine ⟨by rw [HQ.out]; rfl, by rw [HQ.out]; exact (S1 _).1.drewN _, (((Turn.refl b w).drewN _).trans (S1 _).2).drewN _⟩
    · have HQ : Hid (esc1 (t.data.toList.drop a) = (0, false, 1)) := by
        show _ = _
        rw [HD.out, e]; exact esc_13 _ (by rw [List.getElem?_drop, List.getElem?_eq_none (by have := HLEN.out; omega)]; intro h; cases h)
      have d1 : decide ((a : Int) + 1 < (t.size : Int)) = false := by simp; omega
      clear e
      go_enter Tryd.func59, Tryd.ntmps59
      go_wp2
      go_quiet (fail)
      go_wp2
      go_quiet (fail)
      go_wp2
      go_quiet (fail)
      go_wp2
      go_ret2
      refine ⟨by rw [HQ.out]; rfl, by rw [HQ.out]; exact (S1 _).1.drewN _, (((Turn.refl b w).drewN _).trans (S1 _).2).drewN _⟩
  have n13 : ((c.toNat : Int) == 13) = false := by simp; omega
  have hcs : (c.toNat < 48 ∨ (48 ≤ c.toNat ∧ 55 < c.toNat)) ∨ (48 ≤ c.toNat ∧ c.toNat ≤ 55) := by omega
  rcases hcs with hcs | ⟨o1, o2⟩
  · have HQ : Hid (esc1 (t.data.toList.drop a) = (c, true, 1)) := by
      show _ = _
      have ho : oct c = false := by unfold oct; simp; omega
      rw [HD.out, esc_cons _ ho (fun e => h10 (by rw [e]; rfl)) (fun e => h13 (by rw [e]; rfl))]
      unfold escv
      rw [if_neg (fun e => h110 (by rw [e]; rfl)), if_neg (fun e => h114 (by rw [e]; rfl)), if_neg (fun e => h116 (by rw [e]; rfl)), if_neg (fun e => h98 (by rw [e]; rfl)), if_neg (fun e => h102 (by rw [e]; rfl))]
    clear h110 h114 h116 h98 h102 h10 h13
    rcases hcs with h1 | ⟨h1, h2⟩
    · have z1 : decide ((c.toNat : Int) < 48) = true := by simp; omega
      clear h1
      go_enter Tryd.func59, Tryd.ntmps59
      go_wp2
      go_quiet (fail)
      go_wp2
      go_quiet (fail)
      go_wp2
      go_ret2
      refine ⟨by rw [HQ.out]; rfl, by rw [HQ.out]; exact (S1 _).1, ((Turn.refl b w).drewN _).trans (S1 _).2⟩
    · have z1 : decide ((c.toNat : Int) < 48) = false := by simp; omega
      have z2 : decide (55 < (c.toNat : Int)) = true := by simp; omega
      clear h1 h2
      go_enter Tryd.func59, Tryd.ntmps59
      go_wp2
      go_quiet (fail)
      go_wp2
      go_quiet (fail)
      go_wp2
      go_ret2
      refine ⟨by rw [HQ.out]; rfl, by rw [HQ.out]; exact (S1 _).1, ((Turn.refl b w).drewN _).trans (S1 _).2⟩
  · have ho : oct c = true := by unfold oct; simp; omega
    have HQ : Hid (esc1 (t.data.toList.drop a) = more 1 (c.toNat - 48) (t.data.toList.drop (a + 1))) := by
      show _ = _
      rw [HD.out, esc_oct _ ho]
    have z1 : decide ((c.toNat : Int) < 48) = false := by simp; omega
    have z2 : decide (55 < (c.toNat : Int)) = false := by simp; omega
    obtain ⟨v0, hv0⟩ : ∃ v0 : Nat, v0 = c.toNat - 48 := ⟨_, rfl⟩
    have z3 : (c.toNat : Int) - 48 = (v0 : Int) := by omega
    have z4 : 48 ≤ (c.toNat : Int) := by omega
    rw [← hv0] at HQ
    have v7 : v0 ≤ 7 := by omega
    clear h110 h114 h116 h98 h102 h10 h13 ho hv0 o1 o2
    go_enter Tryd.func59, Tryd.ntmps59
    go_wp2
    go_quiet (fail)
    go_wp2
    go_quiet (fail)
    go_wp2
    go_loopw [5, 6] (fun ov nv wr => ∃ (m v p : Nat), ov = .int .i64 v ∧ nv = .int .i64 m ∧ ((m = 1 ∧ v ≤ 7) ∨ (m = 2 ∧ v ≤ 63) ∨ (m = 3 ∧ v ≤ 511)) ∧ p ≤ t.size ∧ Rl b t (p : Int) wr ∧
        Hid (p = a + m ∧ more 1 v0 (t.data.toList.drop (a + 1)) = more m v (t.data.toList.drop p)) ∧ Hid (Turn b w wr)) (fun _ nv _ => 4 - (intOf nv).toNat)
    case atStart => exact ⟨1, v0, a + 1, by simp, rfl, .inl ⟨rfl, v7⟩, by omega, by simpa using (S1 _).1, ⟨rfl, rfl⟩, ((Turn.refl b w).drewN _).trans (S1 _).2⟩
    case round =>
      clear S1 HR
      obtain ⟨m, v, p, rfl, rfl, hmv, hp, hRw, HM, HT⟩ := hrel
      have hRR := hRw
      obtain ⟨q0, q1, q2, q3, q4, q5, q6⟩ := hRR
      have hm3 : 1 ≤ m ∧ m ≤ 3 := by omega
      have hv5 : v ≤ 511 := by omega
      have hand : Value.int .i64 (bits .and .i64 (v : Int) 255) = .int .i64 ((v : Int) % 256) := by rw [and64 v (by omega)]; rfl
      have hof : (UInt8.ofNat v).toNat = v % 256 := by rw [UInt8.toNat_ofNat']
      by_cases hl : p < t.size
      · have d1 : decide ((p : Int) < (t.size : Int)) = true := by simp; omega
        have hg := get_of hl
        obtain ⟨d, hd⟩ : ∃ d, t[p] = d := ⟨_, rfl⟩
        rw [hd] at hg
        have ld := d.toNat_lt
        have hdr := drop1' hg
        by_cases h3 : m = 3
        · have HSTOP : more m v (t.data.toList.drop p) = (UInt8.ofNat v, true, m) := more_stop fun c _ h => by omega
          have d2 : decide ((m : Int) < 3) = false := by simp; omega
          have HS : Hid (more m v (t.data.toList.drop p) = (UInt8.ofNat v, true, m)) := HSTOP
          clear HSTOP hg hdr h3 hmv hm3
          go_wp2
          go_quiet (fail)
          go_wp2
          go_ret2
          refine ⟨by rw [HQ.out, HM.out.2, HS.out]; simp only [hof]; first | rfl | simp, by rw [HQ.out, HM.out.2, HS.out, ← HM.out.1]; exact hRw.drewN _, HT.out.drewN _⟩
        · have d2 : decide ((m : Int) < 3) = true := by simp; omega
          by_cases ho : oct d = true
          · have ho2 : 48 ≤ d.toNat ∧ d.toNat ≤ 55 := by unfold oct at ho; simpa using ho
            have e1 : decide (48 ≤ (d.toNat : Int)) = true := by simp; omega
            have e2 : decide ((d.toNat : Int) ≤ 55) = true := by simp; omega
            obtain ⟨x, hx⟩ : ∃ x : Nat, x = d.toNat - 48 := ⟨_, rfl⟩
            have e3 : (d.toNat : Int) - 48 = (x : Int) := by omega
            have e4 : 48 ≤ (d.toNat : Int) := by omega
            have x7 : x ≤ 7 := by omega
            have HG : Hid (more m v (t.data.toList.drop p) = more (m + 1) (8 * v + x) (t.data.toList.drop (p + 1))) := by
              show _ = _
              rw [hdr, more_go (by omega) ho, hx]
            have S2 := fun q => (hRw.drewN q).step ((p : Int) + 1)
            have hmv2 : ((m + 1 = 1 ∧ 8 * v + x ≤ 7) ∨ (m + 1 = 2 ∧ 8 * v + x ≤ 63) ∨ (m + 1 = 3 ∧ 8 * v + x ≤ 511)) := by omega
            have HMV : Hid (((m + 1 = 1 ∧ 8 * v + x ≤ 7) ∨ (m + 1 = 2 ∧ 8 * v + x ≤ 63) ∨ (m + 1 = 3 ∧ 8 * v + x ≤ 511)) ∧ m < 3) := ⟨hmv2, by omega⟩
            clear hg hdr ho ho2 hx hmv hmv2 hand hof h3
            go_wp2
            go_quiet (fail)
            go_wp2
            go_quiet (fail)
            go_wp2
            exact ⟨⟨m + 1, 8 * v + x, p + 1, by simp, by simp, HMV.out.1, by omega, by simpa using (S2 _).1, ⟨by have := HM.out.1; omega, HM.out.2.trans HG.out⟩, HT.out.trans (((Turn.refl b _).drewN _).trans (S2 _).2)⟩, by have := HMV.out.2; simp [intOf]; omega⟩
          · have ho' : oct d = false := by simpa using ho
            have ho2 : d.toNat < 48 ∨ (48 ≤ d.toNat ∧ 55 < d.toNat) := by unfold oct at ho; simp at ho; omega
            have HSTOP : more m v (t.data.toList.drop p) = (UInt8.ofNat v, true, m) := more_stop fun c hc h => by
              rw [hdr] at hc; simp at hc; subst hc; rw [ho'] at h; exact absurd h.2 (by decide)
            have HS : Hid (more m v (t.data.toList.drop p) = (UInt8.ofNat v, true, m)) := HSTOP
            clear HSTOP hg hdr h3 hmv hm3 ho ho'
            rcases ho2 with ho2 | ⟨ho2, ho3⟩
            · have e1 : decide (48 ≤ (d.toNat : Int)) = false := by simp; omega
              clear ho2
              go_wp2
              go_quiet (fail)
              go_wp2
              go_ret2
              refine ⟨by rw [HQ.out, HM.out.2, HS.out]; simp only [hof]; first | rfl | simp, by rw [HQ.out, HM.out.2, HS.out, ← HM.out.1]; exact hRw.drewN _, HT.out.drewN _⟩
            · have e1 : decide (48 ≤ (d.toNat : Int)) = true := by simp; omega
              have e2 : decide ((d.toNat : Int) ≤ 55) = false := by simp; omega
              clear ho2 ho3
              go_wp2
              go_quiet (fail)
              go_wp2
              go_ret2
              refine ⟨by rw [HQ.out, HM.out.2, HS.out]; simp only [hof]; first | rfl | simp, by rw [HQ.out, HM.out.2, HS.out, ← HM.out.1]; exact hRw.drewN _, HT.out.drewN _⟩
      · have d1 : decide ((p : Int) < (t.size : Int)) = false := by simp; omega
        have HSTOP : more m v (t.data.toList.drop p) = (UInt8.ofNat v, true, m) := more_stop fun c hc h => by
          rw [List.drop_eq_nil_of_le (by have := HLEN.out; omega)] at hc; simp at hc
        have HS : Hid (more m v (t.data.toList.drop p) = (UInt8.ofNat v, true, m)) := HSTOP
        clear HSTOP hmv hm3
        go_wp2
        go_quiet (fail)
        go_wp2
        go_ret2
        refine ⟨by rw [HQ.out, HM.out.2, HS.out]; simp only [hof]; first | rfl | simp, by rw [HQ.out, HM.out.2, HS.out, ← HM.out.1]; exact hRw.drewN _, HT.out.drewN _⟩

end Go.Proofs.YtgemkjickljedaaDoor.Lit
