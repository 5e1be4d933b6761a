/- The bytes that a literal string's text stands for, read sign by sign. Conditions: none. -/
import Derived.Test.YtgemkjickljedaaGreatDoorNmP
namespace Go.Proofs.YtgemkjickljedaaGreatDoor.Lit
open Go.Lib

def oct (c : UInt8) : Bool := decide (48 ≤ c.toNat ∧ c.toNat ≤ 55)
/-- What stands behind a reverse solidus, no digit and no end of a line. -/
def escv (c : UInt8) : UInt8 := if c = 110 then 10 else if c = 114 then 13 else if c = 116 then 9 else if c = 98 then 8 else if c = 102 then 12 else c
def v1 (d : UInt8) : UInt8 := UInt8.ofNat (d.toNat - 48)
def v2 (d e : UInt8) : UInt8 := UInt8.ofNat (8 * (d.toNat - 48) + (e.toNat - 48))
def v3 (d e f : UInt8) : UInt8 := UInt8.ofNat (64 * (d.toNat - 48) + 8 * (e.toNat - 48) + (f.toNat - 48))

/-- Where the reading stands: between signs; behind a reverse solidus; behind one and a carriage return; behind one and digits. -/
inductive St where
  | n | e | l
  | o1 (d : UInt8)
  | o2 (d e : UInt8)

def un : St → List UInt8 → List UInt8
  | .n, [] => []
  | .e, [] => []
  | .l, [] => []
  | .o1 d, [] => [v1 d]
  | .o2 d e, [] => [v2 d e]
  | .n, c :: t => if c = 92 then un .e t else c :: un .n t
  | .e, c :: t => if oct c = true then un (.o1 c) t else if c = 10 then un .n t else if c = 13 then un .l t else escv c :: un .n t
  | .l, c :: t => if c = 10 then un .n t else if c = 92 then un .e t else c :: un .n t
  | .o1 d, c :: t => if oct c = true then un (.o2 d c) t else v1 d :: (if c = 92 then un .e t else c :: un .n t)
  | .o2 d e, c :: t => if oct c = true then v3 d e c :: un .n t else v2 d e :: (if c = 92 then un .e t else c :: un .n t)

theorem un_n {c : UInt8} (t : List UInt8) (h : c ≠ 92) : un .n (c :: t) = c :: un .n t := by rw [un, if_neg h]
theorem un_s (t : List UInt8) : un .n (92 :: t) = un .e t := by rw [un, if_pos rfl]
theorem un_l {c : UInt8} (t : List UInt8) (h : c ≠ 10) : un .l (c :: t) = un .n (c :: t) := by rw [un, un, if_neg h]
theorem un_l10 (t : List UInt8) : un .l (10 :: t) = un .n t := by rw [un, if_pos rfl]
theorem un_l0 : un .l [] = un .n [] := rfl
theorem un_o1 {c d : UInt8} (t : List UInt8) (h : oct c = false) : un (.o1 d) (c :: t) = v1 d :: un .n (c :: t) := by rw [un, un, if_neg (by simp [h])]
theorem un_o2 {c d e : UInt8} (t : List UInt8) (h : oct c = false) : un (.o2 d e) (c :: t) = v2 d e :: un .n (c :: t) := by rw [un, un, if_neg (by simp [h])]
theorem un_o1o {c d : UInt8} (t : List UInt8) (h : oct c = true) : un (.o1 d) (c :: t) = un (.o2 d c) t := by rw [un, if_pos h]
theorem un_o2o {c d e : UInt8} (t : List UInt8) (h : oct c = true) : un (.o2 d e) (c :: t) = v3 d e c :: un .n t := by rw [un, if_pos h]
theorem un_eo {c : UInt8} (t : List UInt8) (h : oct c = true) : un .e (c :: t) = un (.o1 c) t := by rw [un, if_pos h]
theorem un_e10 (t : List UInt8) : un .e (10 :: t) = un .n t := by rw [un, if_neg (by decide), if_pos rfl]
theorem un_e13 (t : List UInt8) : un .e (13 :: t) = un .l t := by rw [un, if_neg (by decide), if_neg (by decide), if_pos rfl]
theorem un_ev {c : UInt8} (t : List UInt8) (h : oct c = false) (h1 : c ≠ 10) (h2 : c ≠ 13) : un .e (c :: t) = escv c :: un .n t := by rw [un, if_neg (by simp [h]), if_neg h1, if_neg h2]

/-- A carriage return stands there without a reverse solidus. -/
def rt : Bool → List UInt8 → Bool
  | _, [] => false
  | true, _ :: t => rt false t
  | false, c :: t => if c = 92 then rt true t else if c = 13 then true else rt false t
theorem rt_n {c : UInt8} (t : List UInt8) (h : c ≠ 92) (h1 : c ≠ 13) : rt false (c :: t) = rt false t := by rw [rt, if_neg h, if_neg h1]
theorem rt_s (t : List UInt8) : rt false (92 :: t) = rt true t := by rw [rt, if_pos rfl]
theorem rt_13 (t : List UInt8) : rt false (13 :: t) = true := by rw [rt, if_neg (by decide), if_pos rfl]
theorem rt_t (c : UInt8) (t : List UInt8) : rt true (c :: t) = rt false t := by rw [rt]
theorem rt_oct {c : UInt8} (t : List UInt8) (h : oct c = true) : rt false (c :: t) = rt false t := by
  refine rt_n t ?_ ?_
  · rintro rfl; revert h; decide
  · rintro rfl; revert h; decide

/-- No parenthesis and no carriage return stands there without a reverse solidus, and no reverse solidus alone at the end. -/
def np : Bool → List UInt8 → Bool
  | false, [] => true
  | true, [] => false
  | true, _ :: t => np false t
  | false, c :: t => if c = 92 then np true t else if c = 13 ∨ c = 40 ∨ c = 41 then false else np false t
theorem np_n {c : UInt8} (t : List UInt8) (h : c ≠ 92) (h1 : ¬ (c = 13 ∨ c = 40 ∨ c = 41)) : np false (c :: t) = np false t := by rw [np, if_neg h, if_neg h1]
theorem np_s (t : List UInt8) : np false (92 :: t) = np true t := by rw [np, if_pos rfl]
theorem np_no {c : UInt8} (t : List UInt8) (h1 : c = 13 ∨ c = 40 ∨ c = 41) : np false (c :: t) = false := by rw [np, if_neg (by rcases h1 with rfl | rfl | rfl <;> decide), if_pos h1]
theorem np_t (c : UInt8) (t : List UInt8) : np true (c :: t) = np false t := by rw [np]
theorem np_oct {c : UInt8} (t : List UInt8) (h : oct c = true) : np false (c :: t) = np false t := by
  refine np_n t ?_ ?_
  · rintro rfl; revert h; decide
  · rintro (rfl | rfl | rfl) <;> (revert h; decide)

/-- What spec's escape reads: the byte, whether there is one, how many signs. -/
def esc1 : List UInt8 → UInt8 × Bool × Nat
  | [] => (0, false, 0)
  | [c] => if oct c = true then (v1 c, true, 1) else if c = 10 ∨ c = 13 then (0, false, 1) else (escv c, true, 1)
  | [c, d] => if oct c = true then (if oct d = true then (v2 c d, true, 2) else (v1 c, true, 1)) else if c = 10 then (0, false, 1) else if c = 13 then (if d = 10 then (0, false, 2) else (0, false, 1)) else (escv c, true, 1)
  | c :: d :: e :: _ => if oct c = true then (if oct d = true then (if oct e = true then (v3 c d e, true, 3) else (v2 c d, true, 2)) else (v1 c, true, 1)) else if c = 10 then (0, false, 1) else if c = 13 then (if d = 10 then (0, false, 2) else (0, false, 1)) else (escv c, true, 1)

theorem esc_app (l : List UInt8) (h : l ≠ []) : esc1 (l ++ [41]) = esc1 l := by
  have h41 : oct 41 = false := by decide
  match l, h with
  | [c], _ => simp [esc1, h41]; split <;> simp_all; split <;> simp_all
  | [c, d], _ => simp [esc1, h41]
  | c :: d :: e :: t, _ => simp [esc1]

/-- What is read, and what is left. -/
theorem esc_un (l : List UInt8) (h : l ≠ []) : un .e l = (if (esc1 l).2.1 = true then [(esc1 l).1] else []) ++ un .n (l.drop (esc1 l).2.2) ∧ rt true l = rt false (l.drop (esc1 l).2.2) ∧ 1 ≤ (esc1 l).2.2 ∧ (esc1 l).2.2 ≤ l.length := by
  match l, h with
  | [c], _ =>
    by_cases hc : oct c = true
    · simp [esc1, hc, un, rt]
    · have hc' : oct c = false := by simpa using hc
      by_cases h10 : c = 10
      · subst h10; simp [esc1, hc, un, rt]
      · by_cases h13 : c = 13
        · subst h13; simp [esc1, hc, un, rt]
        · simp [esc1, hc, h10, h13, un, rt]
  | [c, d], _ =>
    by_cases hc : oct c = true
    · by_cases hd : oct d = true
      · simp [esc1, hc, hd, un, rt]
        intro _ h; subst h; revert hd; decide
      · have hd' : oct d = false := by simpa using hd
        simp [esc1, hc, hd, un_eo, un_o1 _ hd', rt_t]
    · have hc' : oct c = false := by simpa using hc
      by_cases h10 : c = 10
      · subst h10; simp [esc1, hc, un_e10, rt_t]
      · by_cases h13 : c = 13
        · subst h13
          by_cases hd : d = 10
          · subst hd; simp [esc1, hc, un_e13, un_l10, rt]
          · simp [esc1, hc, hd, un_e13, un_l _ hd, rt_t]
        · simp [esc1, hc, h10, h13, un_ev _ hc' h10 h13, rt_t]
  | c :: d :: e :: t, _ =>
    by_cases hc : oct c = true
    · by_cases hd : oct d = true
      · by_cases he : oct e = true
        · simp [esc1, hc, hd, he, un_eo, un_o1o, un_o2o, rt_t, rt_oct _ hd, rt_oct _ he]
        · have he' : oct e = false := by simpa using he
          simp [esc1, hc, hd, he, un_eo, un_o1o, un_o2 _ he', rt_t, rt_oct _ hd]
      · have hd' : oct d = false := by simpa using hd
        simp [esc1, hc, hd, un_eo, un_o1 _ hd', rt_t]
    · have hc' : oct c = false := by simpa using hc
      by_cases h10 : c = 10
      · subst h10; simp [esc1, hc, un_e10, rt_t]
      · by_cases h13 : c = 13
        · subst h13
          by_cases hd : d = 10
          · subst hd; simp [esc1, hc, un_e13, un_l10, rt_t, rt_n (c := 10) _ (by decide) (by decide)]
          · simp [esc1, hc, hd, un_e13, un_l _ hd, rt_t]
        · simp [esc1, hc, h10, h13, un_ev _ hc' h10 h13, rt_t]

/-- What is left of a text without such signs is one too. -/
theorem esc_np (l : List UInt8) (h : l ≠ []) : np true l = np false (l.drop (esc1 l).2.2) := by
  match l, h with
  | [c], _ =>
    by_cases hc : oct c = true
    · simp [esc1, hc, np]
    · by_cases h10 : c = 10 ∨ c = 13
      · simp [esc1, hc, h10, np]
      · simp [esc1, hc, h10, np]
  | [c, d], _ =>
    by_cases hc : oct c = true
    · by_cases hd : oct d = true
      · simp [esc1, hc, hd, np_t, np_oct _ hd]
      · simp [esc1, hc, hd, np_t]
    · by_cases h10 : c = 10
      · subst h10; simp [esc1, hc, np_t]
      · by_cases h13 : c = 13
        · subst h13
          by_cases hd : d = 10
          · subst hd; simp [esc1, hc, np_t, np_n (c := 10) _ (by decide) (by decide)]
          · simp [esc1, hc, hd, np_t]
        · simp [esc1, hc, h10, h13, np_t]
  | c :: d :: e :: t, _ =>
    by_cases hc : oct c = true
    · by_cases hd : oct d = true
      · by_cases he : oct e = true
        · simp [esc1, hc, hd, he, np_t, np_oct _ hd, np_oct _ he]
        · simp [esc1, hc, hd, he, np_t, np_oct _ hd]
      · simp [esc1, hc, hd, np_t]
    · by_cases h10 : c = 10
      · subst h10; simp [esc1, hc, np_t]
      · by_cases h13 : c = 13
        · subst h13
          by_cases hd : d = 10
          · subst hd; simp [esc1, hc, np_t, np_n (c := 10) _ (by decide) (by decide)]
          · simp [esc1, hc, hd, np_t]
        · simp [esc1, hc, h10, h13, np_t]

/-- A byte, escaped. -/
def escB (c : UInt8) : List UInt8 := if c = 10 then [92, 110] else if c = 13 then [92, 114] else if c = 9 then [92, 116] else if c = 8 then [92, 98] else if c = 12 then [92, 102] else if c = 92 ∨ c = 40 ∨ c = 41 then [92, c] else [c]
def escs (l : List UInt8) : List UInt8 := l.flatMap escB
theorem escs_cons (c : UInt8) (t : List UInt8) : escs (c :: t) = escB c ++ escs t := by simp [escs]
theorem escs_snoc (l : List UInt8) (c : UInt8) : escs (l ++ [c]) = escs l ++ escB c := by simp [escs]
theorem escB_len (c : UInt8) : 1 ≤ (escB c).length ∧ (escB c).length ≤ 2 := by
  unfold escB
  repeat' split
  all_goals simp
theorem escs_len (l : List UInt8) : (escs l).length ≤ 2 * l.length := by
  induction l with
  | nil => simp [escs]
  | cons c t ih => rw [escs_cons, List.length_append, List.length_cons]; have := (escB_len c).2; omega
theorem escB_un (c : UInt8) (t : List UInt8) : un .n (escB c ++ t) = c :: un .n t ∧ rt false (escB c ++ t) = rt false t ∧ np false (escB c ++ t) = np false t := by
  by_cases h1 : c = 10
  · subst h1; simp [escB, un_s, rt_s, np_s, rt_t, np_t, un_ev (c := 110) _ (by decide) (by decide) (by decide)]; decide
  by_cases h2 : c = 13
  · subst h2; simp [escB, un_s, rt_s, np_s, rt_t, np_t, un_ev (c := 114) _ (by decide) (by decide) (by decide)]; decide
  by_cases h3 : c = 9
  · subst h3; simp [escB, un_s, rt_s, np_s, rt_t, np_t, un_ev (c := 116) _ (by decide) (by decide) (by decide)]; decide
  by_cases h4 : c = 8
  · subst h4; simp [escB, un_s, rt_s, np_s, rt_t, np_t, un_ev (c := 98) _ (by decide) (by decide) (by decide)]; decide
  by_cases h5 : c = 12
  · subst h5; simp [escB, un_s, rt_s, np_s, rt_t, np_t, un_ev (c := 102) _ (by decide) (by decide) (by decide)]; decide
  by_cases h6 : c = 92 ∨ c = 40 ∨ c = 41
  · rcases h6 with rfl | rfl | rfl
    · simp [escB, un_s, rt_s, np_s, rt_t, np_t, un_ev (c := 92) _ (by decide) (by decide) (by decide)]; decide
    · simp [escB, un_s, rt_s, np_s, rt_t, np_t, un_ev (c := 40) _ (by decide) (by decide) (by decide)]; decide
    · simp [escB, un_s, rt_s, np_s, rt_t, np_t, un_ev (c := 41) _ (by decide) (by decide) (by decide)]; decide
  · have e : escB c = [c] := by simp [escB, h1, h2, h3, h4, h5, h6]
    have h7 : c ≠ 92 := fun h => h6 (.inl h)
    rw [e]
    refine ⟨un_n _ h7, rt_n _ h7 h2, np_n _ h7 ?_⟩
    rintro (h | h | h)
    · exact h2 h
    · exact h6 (.inr (.inl h))
    · exact h6 (.inr (.inr h))
/-- Escaped bytes are read as these bytes. -/
theorem escs_un (l : List UInt8) : un .n (escs l) = l ∧ rt false (escs l) = false ∧ np false (escs l) = true := by
  induction l with
  | nil => exact ⟨rfl, rfl, rfl⟩
  | cons c t ih =>
    rw [escs_cons]
    obtain ⟨h1, h2, h3⟩ := escB_un c (escs t)
    exact ⟨by rw [h1, ih.1], by rw [h2, ih.2.1], by rw [h3, ih.2.2]⟩

end Go.Proofs.YtgemkjickljedaaGreatDoor.Lit
