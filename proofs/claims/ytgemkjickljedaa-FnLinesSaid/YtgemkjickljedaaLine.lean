/- Lines of bytes: what a line is, that it is one alone, and that lines in a row are chained. Conditions: none. -/
import Derived.Lib.IndexLaws
namespace Go.Proofs.Ytgemkjickljedaa

/-- No end of a line stands from f on ahead of i. -/
def NoEnd (s : List UInt8) (f i : Nat) : Prop := ∀ k, f ≤ k → k < i → s[k]? ≠ some 13 ∧ s[k]? ≠ some 10

/-- The line of s that begins at f is t; the next one begins at m. -/
def Line (s : List UInt8) (f : Nat) (t : List UInt8) (m : Nat) : Prop :=
  ∃ i, f ≤ i ∧ i ≤ s.length ∧ f < s.length ∧ NoEnd s f i ∧ t = (s.drop f).take (i - f) ∧
    ((i = s.length ∧ m = i) ∨ (s[i]? = some 10 ∧ m = i + 1) ∨ (s[i]? = some 13 ∧ s[i+1]? ≠ some 10 ∧ m = i + 1) ∨ (s[i]? = some 13 ∧ s[i+1]? = some 10 ∧ m = i + 2))

theorem NoEnd.refl (s : List UInt8) (f : Nat) : NoEnd s f f := fun k h1 h2 => by omega
theorem NoEnd.succ {s : List UInt8} {f i : Nat} (h : NoEnd s f i) (h1 : s[i]? ≠ some 13) (h2 : s[i]? ≠ some 10) : NoEnd s f (i + 1) := fun k a b => by
  rcases Nat.lt_or_eq_of_le (Nat.le_of_lt_succ b) with hlt | rfl
  · exact h k a hlt
  · exact ⟨h1, h2⟩

theorem Line.one {s : List UInt8} {f : Nat} {t t' : List UInt8} {m m' : Nat} (h : Line s f t m) (h' : Line s f t' m') : t = t' ∧ m = m' := by
  obtain ⟨i, a1, a2, a3, a4, rfl, a6⟩ := h
  obtain ⟨j, b1, b2, b3, b4, rfl, b6⟩ := h'
  have key : ∀ {i j : Nat}, f ≤ i → i < j → j ≤ s.length → NoEnd s f j → ¬ (s[i]? = some 10 ∨ s[i]? = some 13 ∨ i = s.length) := by
    intro i j h1 h2 h3 h4 h5
    have := h4 i h1 h2
    rcases h5 with h5 | h5 | h5
    · exact this.2 h5
    · exact this.1 h5
    · omega
  have hij : i = j := by
    rcases Nat.lt_trichotomy i j with h | h | h
    · exact absurd (by rcases a6 with ⟨h, _⟩ | ⟨h, _⟩ | ⟨h, _⟩ | ⟨h, _⟩ <;> simp [h]) (key a1 h b2 b4)
    · exact h
    · exact absurd (by rcases b6 with ⟨h, _⟩ | ⟨h, _⟩ | ⟨h, _⟩ | ⟨h, _⟩ <;> simp [h]) (key b1 h a2 a4)
  subst hij
  refine ⟨rfl, ?_⟩
  have e1 : i = s.length → s[i]? = none := fun h => by subst h; simp
  rcases a6 with ⟨h, rfl⟩ | ⟨h, rfl⟩ | ⟨h, g, rfl⟩ | ⟨h, g, rfl⟩ <;> rcases b6 with ⟨h', rfl⟩ | ⟨h', rfl⟩ | ⟨h', g', rfl⟩ | ⟨h', g', rfl⟩ <;> simp_all

theorem Line.lt {s : List UInt8} {f : Nat} {t : List UInt8} {m : Nat} (h : Line s f t m) : f < m ∧ m ≤ s.length ∧ f + t.length ≤ m := by
  obtain ⟨i, a1, a2, a3, a4, rfl, a6⟩ := h
  have g : ∀ {k : Nat} {c : UInt8}, s[k]? = some c → k < s.length := fun h => (List.getElem?_eq_some_iff.1 h).1
  rcases a6 with ⟨h, rfl⟩ | ⟨h, rfl⟩ | ⟨h, _, rfl⟩ | ⟨h, h', rfl⟩
  · simp; omega
  · have := g h; simp; omega
  · have := g h; simp; omega
  · have := g h'; simp; omega

/-- A line of what is left is a line. -/
theorem Line.drop {s : List UInt8} {f : Nat} {t : List UInt8} {m : Nat} (h : Line (s.drop f) 0 t m) : Line s f t (f + m) := by
  obtain ⟨i, a1, a2, a3, a4, rfl, a6⟩ := h
  simp only [List.length_drop] at a2 a3
  refine ⟨f + i, by omega, by omega, by omega, ?_, ?_, ?_⟩
  · intro k h1 h2
    have := a4 (k - f) (by omega) (by omega)
    rw [List.getElem?_drop] at this
    rwa [show f + (k - f) = k by omega] at this
  · simp
  · simp only [List.getElem?_drop, List.length_drop] at a6
    rcases a6 with ⟨h, rfl⟩ | ⟨h, rfl⟩ | ⟨h, g, rfl⟩ | ⟨h, g, rfl⟩
    · exact .inl ⟨by omega, rfl⟩
    · exact .inr (.inl ⟨h, rfl⟩)
    · exact .inr (.inr (.inl ⟨h, by rwa [Nat.add_assoc], rfl⟩))
    · exact .inr (.inr (.inr ⟨h, by rwa [Nat.add_assoc], rfl⟩))

/-- Lines in a row. -/
def Chain (s : List UInt8) : Nat → List (List UInt8) → Nat → Prop
  | f, [], m => f = m
  | f, t :: ts, m => ∃ k, Line s f t k ∧ Chain s k ts m

theorem Chain.snoc {s : List UInt8} : ∀ {f : Nat} {ts : List (List UInt8)} {m : Nat} {t : List UInt8} {n : Nat}, Chain s f ts m → Line s m t n → Chain s f (ts ++ [t]) n
  | f, [], m, t, n, h, hl => by cases h; exact ⟨n, hl, rfl⟩
  | f, u :: ts, m, t, n, ⟨k, h1, h2⟩, hl => ⟨k, h1, h2.snoc hl⟩

theorem Chain.le {s : List UInt8} : ∀ {f : Nat} {ts : List (List UInt8)} {m : Nat}, Chain s f ts m → f + ts.length ≤ m
  | f, [], m, h => by cases h; simp
  | f, u :: ts, m, ⟨k, h1, h2⟩ => by have := h1.lt; have := h2.le; simp; omega

/-- What bytes.IndexByte tells of the two bytes is the first line. -/
theorem line_of {s : List UInt8} {c l : Int} (hs : s ≠ []) (hc : Lib.indexByte s 13 = c) (hl : Lib.indexByte s 10 = l) :
    ∃ i m : Nat, Line s 0 (s.take i) m ∧ i ≤ s.length ∧ m ≤ s.length ∧
      ((c = -1 ∧ l = -1 ∧ i = s.length ∧ m = i) ∨ (c = -1 ∧ 0 ≤ l ∧ l = i ∧ m = i + 1) ∨ (0 ≤ c ∧ l = -1 ∧ c = i ∧ m = i + 1) ∨
       (0 ≤ c ∧ 0 ≤ l ∧ c < l ∧ c + 1 = l ∧ c = i ∧ m = i + 2) ∨ (0 ≤ c ∧ 0 ≤ l ∧ c < l ∧ c + 1 ≠ l ∧ c = i ∧ m = i + 1) ∨ (0 ≤ c ∧ 0 ≤ l ∧ l < c ∧ l = i ∧ m = i + 1)) := by
  have hpos : 0 < s.length := by cases s with | nil => exact absurd rfl hs | cons _ _ => simp
  have part : ∀ (b : UInt8), Lib.indexByte s b = -1 ∨ ∃ n : Nat, Lib.indexByte s b = n := fun b => by
    have := Lib.indexByte_ge s b
    rcases Int.lt_or_le (Lib.indexByte s b) 0 with h | h
    · exact .inl (by omega)
    · exact .inr ⟨(Lib.indexByte s b).toNat, by omega⟩
  have g : ∀ {k : Nat} {c : UInt8}, s[k]? = some c → k < s.length := fun h => (List.getElem?_eq_some_iff.1 h).1
  have mk : ∀ {i m : Nat}, i ≤ s.length → NoEnd s 0 i → ((i = s.length ∧ m = i) ∨ (s[i]? = some 10 ∧ m = i + 1) ∨ (s[i]? = some 13 ∧ s[i+1]? ≠ some 10 ∧ m = i + 1) ∨ (s[i]? = some 13 ∧ s[i+1]? = some 10 ∧ m = i + 2)) → Line s 0 (s.take i) m ∧ i ≤ s.length ∧ m ≤ s.length := by
    intro i m h1 h2 h3
    have : Line s 0 (s.take i) m := ⟨i, by omega, h1, hpos, h2, by simp, h3⟩
    exact ⟨this, h1, this.lt.2.1⟩
  rcases part 13 with h13 | ⟨n, h13⟩ <;> rcases part 10 with h10 | ⟨k, h10⟩
  · have a := Lib.indexByte_none h13; have b := Lib.indexByte_none h10
    obtain ⟨x, y, z⟩ := mk (i := s.length) (m := s.length) (Nat.le_refl _) (fun k _ _ => ⟨a k, b k⟩) (.inl ⟨rfl, rfl⟩)
    exact ⟨_, _, x, y, z, .inl ⟨by omega, by omega, rfl, rfl⟩⟩
  · have a := Lib.indexByte_none h13; obtain ⟨b, b'⟩ := Lib.indexByte_some h10
    obtain ⟨x, y, z⟩ := mk (i := k) (m := k + 1) (Nat.le_of_lt (g b)) (fun j _ hj => ⟨a j, b' j hj⟩) (.inr (.inl ⟨b, rfl⟩))
    exact ⟨_, _, x, y, z, by omega⟩
  · have b := Lib.indexByte_none h10; obtain ⟨a, a'⟩ := Lib.indexByte_some h13
    obtain ⟨x, y, z⟩ := mk (i := n) (m := n + 1) (Nat.le_of_lt (g a)) (fun j _ hj => ⟨a' j hj, b j⟩) (.inr (.inr (.inl ⟨a, b _, rfl⟩)))
    exact ⟨_, _, x, y, z, by omega⟩
  · obtain ⟨b, b'⟩ := Lib.indexByte_some h10; obtain ⟨a, a'⟩ := Lib.indexByte_some h13
    rcases Nat.lt_trichotomy n k with h | h | h
    · have hne : NoEnd s 0 n := fun j _ hj => ⟨a' j hj, b' j (by omega)⟩
      by_cases hk : n + 1 = k
      · obtain ⟨x, y, z⟩ := mk (i := n) (m := n + 2) (Nat.le_of_lt (g a)) hne (.inr (.inr (.inr ⟨a, by rw [hk]; exact b, rfl⟩)))
        exact ⟨_, _, x, y, z, by omega⟩
      · obtain ⟨x, y, z⟩ := mk (i := n) (m := n + 1) (Nat.le_of_lt (g a)) hne (.inr (.inr (.inl ⟨a, b' _ (by omega), rfl⟩)))
        exact ⟨_, _, x, y, z, by omega⟩
    · subst h; rw [a] at b; simp at b
    · obtain ⟨x, y, z⟩ := mk (i := k) (m := k + 1) (Nat.le_of_lt (g b)) (fun j _ hj => ⟨a' j (by omega), b' j hj⟩) (.inr (.inl ⟨b, rfl⟩))
      exact ⟨_, _, x, y, z, by omega⟩

end Go.Proofs.Ytgemkjickljedaa
