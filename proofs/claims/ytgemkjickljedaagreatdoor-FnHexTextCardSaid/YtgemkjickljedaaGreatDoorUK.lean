/- What types.DecodeUTF16String and impl.FromUTF16 answer. Conditions: at most 4096 bytes; no code unit E000. -/
import Derived.Test.YtgemkjickljedaaGreatDoorUJ
import Derived.Laws.IdiomStrings
import Derived.Defers
import Derived.Recover
namespace Go.Proofs.YtgemkjickljedaaGreatDoor
open Go.ChangeShapes Go.WideShapes Go.ChangeAt Go.RowKit

/-- '[]byte(s)': the bytes lie in a new block. -/
theorem bytes_of (s : ByteArray) (w : World) : ∃ cap w0, (convert 9 43 (.string s)).run Tryz.prog w = .ok (.slice (some ⟨w.heap.size, 0, none⟩) s.size cap) w0 ∧ s.size ≤ cap ∧ w.heap.size < w0.heap.size ∧ Below w.heap.size w w0 ∧
    ∀ i (h : i < s.size), w0.cell? ⟨w.heap.size, i, none⟩ = some (.int .u8 s[i].toNat) := by
  refine ⟨_, _, run_bytes_of_string w 9 43 5 s Tryz.underlying9 Tryz.underlying43 Tryz.underlying5, grownCap_ge w s.size 0 5, by simp, ?_, ?_⟩
  · exact ((below_drewN (Below.refl w.heap.size w) 1).alloc (Nat.le_refl _) _)
  · intro i hi
    have h := heap_alloc_new w.drew (.cells (bytesRow s (grownCap w s.size 0 5)) 5 ((bytesRow s (grownCap w s.size 0 5)).size, (bytesRow s (grownCap w s.size 0 5)).size + 1))
    have hc := cell_of_row _ w.heap.size i (bytesRow s (grownCap w s.size 0 5)) 5 _ h
    rw [hc]
    have hi' : i < s.data.size := hi
    unfold bytesRow
    rw [Array.getElem?_append_left (by simpa using hi), Array.getElem?_map, Array.getElem?_eq_getElem hi']
    rfl

set_option maxRecDepth 100000 in
theorem decodeStr_any (s : ByteArray) (T : TypeId) (pv : Value) (w : World) (hs : s.size ≤ 4096) (hE : w.cell? ⟨2, 0, none⟩ = some (.iface T pv)) (hedge : NoEdge s.data.toList) :
    Calls Tryz.prog 25 #[.string s] w fun e w' => ∃ ev, e = .returned (.tuple #[.string (narS s.data.toList), ev]) ∧ (narB s.data.toList = true → ev = .nilIface) ∧
      (narB s.data.toList = false → ∃ T p, ev = .iface T p) ∧ Below w.heap.size w w' := by
  obtain ⟨cap, w0, hcv, hcap, hlt, hb, hcells⟩ := bytes_of s w
  have hd := dec16_any s w.heap.size s.size cap T pv w0 rfl (by omega) hcap hcells ((below_cell hb (block_lt_of_cell hE)).trans hE) hlt hedge
  clear hcells hE hedge hs hcap hlt
  go_enter Tryz.func25, Tryz.ntmps25
  go_wp2_with (go_at_call 36; refine Calls.mono (by with_reducible exact hd) ?_; rintro e w3 ⟨ev, rfl, h1, h2, h3⟩)
  go_ret2
  exact ⟨ev, rfl, h1, h2, hb.trans (h3.mono hb.size)⟩

set_option maxRecDepth 100000 in
theorem shut_any (s : ByteArray) (T : TypeId) (pv : Value) (a b c : Nat) (x y : Value) (w : World) (hs : s.size ≤ 4096) (hE : w.cell? ⟨2, 0, none⟩ = some (.iface T pv)) (hedge : NoEdge s.data.toList)
    (h0 : w.cell? ⟨a, 0, none⟩ = some (.string s)) (h1 : w.cell? ⟨b, 0, none⟩ = some x) (h2 : w.cell? ⟨c, 0, none⟩ = some y) (hcb : ¬ c = b) (f1 : w.frozen? ⟨b, 0, none⟩ = false) (f2 : w.frozen? ⟨c, 0, none⟩ = false) :
    Calls Tryz.prog 24 #[.pointer (some ⟨a, 0, none⟩), .pointer (some ⟨b, 0, none⟩), .pointer (some ⟨c, 0, none⟩)] w fun e w' => e = .returned (.tuple #[]) ∧ ∃ ev w2, w' = (w2.setCell ⟨b, 0, none⟩ (.string (narS s.data.toList))).setCell ⟨c, 0, none⟩ ev ∧
      (narB s.data.toList = true → ev = .nilIface) ∧ (narB s.data.toList = false → ∃ T p, ev = .iface T p) ∧ Below w.heap.size w w2 := by
  have hd := decodeStr_any s T pv w hs hE hedge
  have lb := block_lt_of_cell h1
  have lc := block_lt_of_cell h2
  clear hE hs hedge
  obtain ⟨S, hS⟩ : ∃ S, narS s.data.toList = S := ⟨_, rfl⟩
  rw [hS] at hd ⊢
  cases hB : narB s.data.toList
  · have hd2 : Calls Tryz.prog 25 #[.string s] w fun e w' => ∃ T p, e = .returned (.tuple #[.string S, .iface T p]) ∧ Below w.heap.size w w' := hd.mono fun e w' ⟨ev, h1, _, h3, h4⟩ => by
      obtain ⟨T, p, rfl⟩ := h3 hB
      exact ⟨T, p, h1, h4⟩
    clear hd hS hB
    go_enter Tryz.func24, Tryz.ntmps24
    go_wp2_with
      (go_at_call 25; refine Calls.mono (by with_reducible exact hd2) ?_; rintro e w3 ⟨T2, p2, rfl, e3⟩
       have g1 := (below_cell e3 (a := ⟨b, 0, none⟩) lb).trans h1
       have g2 := (below_cell e3 (a := ⟨c, 0, none⟩) lc).trans h2
       have k1 := (World.frozen?_of_block (a := ⟨b, 0, none⟩) (e3.block b lb)).trans f1
       have k2 := (World.frozen?_of_block (a := ⟨c, 0, none⟩) (e3.block c lc)).trans f2
       have HE : Hid (Below w.heap.size w w3) := e3
       clear e3)
    go_end0
    exact ⟨rfl, _, w3, rfl, fun h => (by cases h), fun _ => ⟨_, _, rfl⟩, HE.out⟩
  · have hd2 : Calls Tryz.prog 25 #[.string s] w fun e w' => e = .returned (.tuple #[.string S, .nilIface]) ∧ Below w.heap.size w w' := hd.mono fun e w' ⟨ev, h1, h2, _, h4⟩ => by
      obtain rfl := h2 hB
      exact ⟨h1, h4⟩
    clear hd hS hB
    go_enter Tryz.func24, Tryz.ntmps24
    go_wp2_with
      (go_at_call 25; refine Calls.mono (by with_reducible exact hd2) ?_; rintro e w3 ⟨rfl, e3⟩
       have g1 := (below_cell e3 (a := ⟨b, 0, none⟩) lb).trans h1
       have g2 := (below_cell e3 (a := ⟨c, 0, none⟩) lc).trans h2
       have k1 := (World.frozen?_of_block (a := ⟨b, 0, none⟩) (e3.block b lb)).trans f1
       have k2 := (World.frozen?_of_block (a := ⟨c, 0, none⟩) (e3.block c lc)).trans f2
       have HE : Hid (Below w.heap.size w w3) := e3
       clear e3)
    go_end0
    exact ⟨rfl, _, w3, rfl, fun _ => rfl, fun h => (by cases h), HE.out⟩

/-- calm's deferred closure, of a frame that returns. -/
theorem calm_idle (p : Addr) (w : World) :
    CallsD Tryz.prog 33 #[.pointer (some p)] .returning w fun e u' w' => e = .returned (.tuple #[]) ∧ u' = .returning ∧ w' = w := by
  refine callsD_of_wpS Tryz.func33 rfl fun c₀ cs hu => ?_
  apply wpS_seq
  apply wpS_region
  simp [wpOpsS, go_sem, recoverD, hu, Tryz.ntmps33, Exit.thenS]
  refine wpS_cond (t := false) (by simp [Act.eval, Array.replicate]) ?_
  simp only [Bool.false_eq_true, if_false]
  refine wpS_of_wp (wp_skip ?_)
  cases c₀
  simp_all [bodyPostS, results, Tryz.results33]

end Go.Proofs.YtgemkjickljedaaGreatDoor
