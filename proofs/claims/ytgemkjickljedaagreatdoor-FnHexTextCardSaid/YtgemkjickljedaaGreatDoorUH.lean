/- What utf8.EncodeRune leaves, and the package's decoder of UTF-16BE answers. Conditions: at most 4096 bytes; no code unit E000. -/
import Derived.Test.YtgemkjickljedaaGreatDoorUG
import Derived.Test.YtgemkjickljedaaGreatDoorUShelf
import Derived.Test.YtgemkjickljedaaGreatDoorBld
import Derived.Deep.MidRow
import Derived.Lib.SmallJoins
namespace Go.Proofs.YtgemkjickljedaaGreatDoor
open Go.ChangeShapes Go.WideShapes Go.ChangeAt Go.RowKit

/-- A buffer of four bytes. -/
def Ub (ub : Nat) (w : World) : Prop := ub < w.heap.size ∧ ∀ j, j < 4 → (w.cell? ⟨ub, j, none⟩).isSome = true ∧ w.frozen? ⟨ub, j, none⟩ = false

theorem Ub.of_block {ub : Nat} {w w' : World} (h : Ub ub w) (hb : w'.heap[ub]? = w.heap[ub]?) (hs : w.heap.size ≤ w'.heap.size) : Ub ub w' :=
  ⟨by have := h.1; omega, fun j hj => ⟨by rw [World.cell?_of_block (a := ⟨ub, j, none⟩) hb]; exact (h.2 j hj).1, by rw [World.frozen?_of_block (a := ⟨ub, j, none⟩) hb]; exact (h.2 j hj).2⟩⟩

theorem heap_setCells (b : Nat) : ∀ (vs : List Value) (o : Nat) (w : World) (k : Nat), k ≠ b → (w.setCells b o vs).heap[k]? = w.heap[k]?
  | [], _, _, _, _ => rfl
  | v :: vs, o, w, k, hk => by
    rw [World.setCells, heap_setCells b vs _ _ k hk, Below.heap_setCell _ _ _ _ hk]
theorem heap_size_setCells (b : Nat) : ∀ (vs : List Value) (o : Nat) (w : World), (w.setCells b o vs).heap.size = w.heap.size
  | [], _, _ => rfl
  | v :: vs, o, w => by rw [World.setCells, heap_size_setCells b vs]; simp

theorem below_setCells' {B b : Nat} {a : World} (hb : B ≤ b) : ∀ (vs : List Value) (o : Nat) (w : World), Below B a w → Below B a (w.setCells b o vs)
  | [], _, _, h => h
  | v :: vs, o, w, h => by
    rw [World.setCells]
    exact below_setCells' hb vs _ _ (h.setCell (p := ⟨b, o, none⟩) hb v)

theorem enc_le (c : Nat) (h : okc c) : (enc c).length ≤ 4 := by
  unfold okc at h
  have h2 := enc_len c h
  obtain ⟨E, hE⟩ : ∃ E, Utf8.encode (c : Int) = E := ⟨_, rfl⟩
  rw [← enc_bl hE]
  rw [hE] at h2
  unfold bl
  rw [Array.length_toList]
  exact h2

theorem encRune_at (ub m : Nat) (z : Int) (L : List Value) (hr : Lib.runeCells z = L) (hvl : L.length = m) (hle : m ≤ 4) (z0 : -2147483648 ≤ z) (z1 : z ≤ 2147483647) (w : World) (hU : Ub ub w) :
    Calls Tryz.prog 49 #[.slice (some ⟨ub, 0, none⟩) 4 4, .int .i32 z] w fun e w' => e = .returned (.int .i64 m) ∧ (∀ j u, L[j]? = some u → w'.cell? ⟨ub, j, none⟩ = some u) ∧ Ub ub w' ∧
      w.grownBy w' (some ub) ∧ w'.heap.size = w.heap.size ∧ ∀ B, B ≤ ub → Below B w w' := by
  have hh := Tryz.utf8_EncodeRune ub 0 4 4 z z0 z1 w (by rw [hr, hvl]; exact hle)
    (by rw [hr, hvl]; intro j hj; rw [Nat.zero_add]; exact (hU.2 j (by omega)).1) (by rw [hr, hvl]; intro j hj; rw [Nat.zero_add]; exact (hU.2 j (by omega)).2)
  rw [hr, hvl] at hh
  clear hr z0 z1
  refine hh.mono ?_
  rintro e w' ⟨rfl, rfl⟩
  refine ⟨rfl, ?_, ?_, ?_, heap_size_setCells ub _ _ _, fun B hB => below_setCells' hB _ _ _ (Below.refl _ _)⟩
  · intro j u hu
    obtain ⟨hj, rfl⟩ := List.getElem?_eq_some_iff.1 hu
    have := World.cell?_setCells_in ub L 0 w (fun j hj => by rw [Nat.zero_add]; exact (hU.2 j (by omega)).1) j hj
    rwa [Nat.zero_add] at this
  · refine ⟨by rw [heap_size_setCells]; exact hU.1, fun j hj => ⟨World.isSome_setCells ub _ _ _ _ (hU.2 j hj).1, by rw [World.frozen?_setCells]; exact (hU.2 j hj).2⟩⟩
  · have hb := below_setCells' (Nat.zero_le ub) L 0 w (Below.refl 0 w)
    exact ⟨hb.os, hb.tape, hb.output, hb.size, fun k _ hk => heap_setCells ub _ _ _ _ (fun e => hk (by rw [e]))⟩

/-- What the cells of a code point are: m bytes. -/
theorem enc_cells (c : Nat) (hc : okc c) (z : Int) (hz : z = (c : Int)) : ∃ m L, Lib.runeCells z = L ∧ L.length = m ∧ m ≤ 4 ∧ -2147483648 ≤ z ∧ z ≤ 2147483647 ∧ L = vals (enc c) ∧ m = (enc c).length := by
  have hle := enc_le c hc
  unfold okc at hc
  have hr := runeCells_enc c hc
  rw [← hz] at hr
  exact ⟨_, _, hr, by simp [vals], hle, by omega, by omega, rfl, rfl⟩

end Go.Proofs.YtgemkjickljedaaGreatDoor
