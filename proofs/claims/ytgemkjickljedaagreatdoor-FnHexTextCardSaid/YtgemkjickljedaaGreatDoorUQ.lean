/- The code units of code points, and that two appended slices of unlike elements lie apart. Conditions: none. -/
import Derived.Test.YtgemkjickljedaaGreatDoorUP
import Derived.Laws.AppendOwn
namespace Go.Proofs.YtgemkjickljedaaGreatDoor
open Go.Lib

/-- The code units of a code point. -/
def cunits (c : Nat) : List Nat := if c < 65536 then [c] else [55296 + (c - 65536) / 1024, 56320 + (c - 65536) % 1024]
def u16s (l : List Nat) : List Nat := l.flatMap cunits
def okc (c : Nat) : Prop := c < 55296 ∨ (57343 < c ∧ c ≤ 1114111)
theorem u16s_snoc (l : List Nat) (c : Nat) : u16s (l ++ [c]) = u16s l ++ cunits c := by simp [u16s]
theorem u16_bmp {u : Nat} (h : u < 65536) : cunits u = [u] := by simp [cunits, h]
theorem u16_pair {u v : Nat} (hu : 55296 ≤ u ∧ u < 56320) (hv : 56320 ≤ v ∧ v < 57344) : cunits (pair u v) = [u, v] := by
  have e : pair u v = 65536 + ((u - 55296) * 1024 + (v - 56320)) := by unfold pair; omega
  rw [e, cunits, if_neg (by omega)]
  rw [show 65536 + ((u - 55296) * 1024 + (v - 56320)) - 65536 = (u - 55296) * 1024 + (v - 56320) by omega]
  rw [show ((u - 55296) * 1024 + (v - 56320)) / 1024 = u - 55296 by omega, show ((u - 55296) * 1024 + (v - 56320)) % 1024 = v - 56320 by omega]
  rw [show 55296 + (u - 55296) = u by omega, show 56320 + (v - 56320) = v by omega]
theorem okc_pair {u v : Nat} (hu : 55296 ≤ u ∧ u < 56320) (hv : 56320 ≤ v ∧ v < 57344) : okc (pair u v) := by unfold okc pair; omega

theorem take_snoc {l : List Nat} {j : Nat} (h : j < l.length) : l.take (j + 1) = l.take j ++ [l[j]] := by simp
theorem u16s_split (l : List Nat) (j : Nat) (h : j < l.length) : u16s l = u16s (l.take j) ++ (cunits l[j] ++ u16s (l.drop (j + 1))) := by
  have e : l = l.take j ++ (l[j] :: l.drop (j + 1)) := by rw [List.getElem_cons_drop, List.take_append_drop]
  refine (congrArg u16s e).trans ?_
  simp only [u16s, List.flatMap_append, List.flatMap_cons]
theorem u16s_len (l : List Nat) (j : Nat) (h : j < l.length) : (u16s (l.take (j + 1))).length = (u16s (l.take j)).length + (cunits l[j]).length := by
  rw [take_snoc h, u16s_snoc, List.length_append]
theorem u16s_le (l : List Nat) (j : Nat) (h : j < l.length) : (u16s (l.take j)).length + (cunits l[j]).length ≤ (u16s l).length := by
  have := congrArg List.length (u16s_split l j h)
  simp only [List.length_append] at this
  omega
theorem u16_some (c : Nat) : 1 ≤ (cunits c).length := by unfold cunits; split <;> simp
theorem u16s_at (l : List Nat) (j : Nat) (h : j < l.length) (r : Nat) (hr : r < (cunits l[j]).length) : (u16s l)[(u16s (l.take j)).length + r]? = some ((cunits l[j])[r]) := by
  rw [u16s_split l j h, List.getElem?_append_right (by omega), List.getElem?_append_left (by omega)]
  rw [show (u16s (l.take j)).length + r - (u16s (l.take j)).length = r by omega, List.getElem?_eq_getElem hr]
theorem u16s_many (l : List Nat) : l.length ≤ (u16s l).length := by
  induction l with
  | nil => simp [u16s]
  | cons a t ih => have := u16_some a; simp only [u16s, List.flatMap_cons, List.length_append, List.length_cons] at ih ⊢; omega
theorem u16s_all (l : List Nat) : u16s (l.take l.length) = u16s l := by simp

def vals16 (l : List Nat) : List Value := l.map fun (c : Nat) => .int .u16 (c : Int)
def vals32 (l : List Nat) : List Value := l.map fun (c : Nat) => .int .i32 (c : Int)
theorem vals16_snoc (l : List Nat) (c : Nat) : vals16 (l ++ [c]) = vals16 l ++ [.int .u16 c] := by simp [vals16]
theorem vals32_snoc (l : List Nat) (c : Nat) : vals32 (l ++ [c]) = vals32 l ++ [.int .i32 c] := by simp [vals32]
theorem vals16_len (l : List Nat) : (vals16 l).length = l.length := by simp [vals16]
theorem vals32_len (l : List Nat) : (vals32 l).length = l.length := by simp [vals32]

/-- Rows of unlike elements lie apart. -/
theorem own_apart {w : World} {B B' : Nat} {e e' : TypeId} {v v' : Value} {n n' : Nat} {xs xs' : List Value} (h : w.ownsRow B e 1 v n xs) (h' : w.ownsRow B' e' 1 v' n' xs') (hne : e ≠ e') : v.ownBlock = none ∨ v.ownBlock ≠ v'.ownBlock := by
  rcases h.2 with ⟨rfl, _⟩ | ⟨g, cap, cur, rfl, _, hg, _⟩
  · exact .inl rfl
  · right
    rcases h'.2 with ⟨rfl, _⟩ | ⟨g', cap', cur', rfl, _, hg', _⟩
    · simp [Value.ownBlock]
    · simp only [Value.ownBlock]
      intro hgg
      cases hgg
      rw [hg] at hg'
      cases hg'
      exact hne rfl

/-- A row's cells. -/
theorem own_cell {w : World} {B : Nat} {e : TypeId} {g cap n : Nat} {xs : List Value} (h : w.ownsRow B e 1 (.slice (some ⟨g, 0, none⟩) n cap) n xs) (j : Nat) {x : Value} (hj : xs[j]? = some x) : w.cell? ⟨g, j, none⟩ = some x := by
  have := h.cells (g := g) rfl j x hj
  have hadd : (⟨g, 0, none⟩ : Addr).add j = ⟨g, j, none⟩ := by unfold Addr.add; split <;> simp_all
  rwa [hadd] at this

end Go.Proofs.YtgemkjickljedaaGreatDoor
