/- What types.DecodeName answers of a name without a null character and a number sign, and a dictionary's Find of a key that is not there. Conditions: the keys are such names. -/
import Derived.Test.YtnpedhdonfdbmaaDoorOM
import Derived.Maps.RangeRun
namespace Go.Proofs.YtnpedhdonfdbmaaDoor
open Go.ChangeShapes Go.WideShapes Go.ChangeAt Go.RowKit Go.Sort
open Go.ChangeMaps (setBlock)

/-- No null character, no number sign. -/
def Pn (s : ByteArray) : Prop := s.size ≤ 100 ∧ ∀ i (h : i < s.size), s[i].toNat ≠ 0 ∧ s[i].toNat ≠ 35

set_option maxRecDepth 100000 in
theorem decName (s : ByteArray) (hp : Pn s) (w : World) : Calls Tryd.prog 74 #[.string s] w fun e w' => e = .returned (.tuple #[.string s, .nilIface]) ∧ Below w.heap.size w w' := by
  obtain ⟨hs, hp⟩ := hp
  have HP := Lib.hid hp
  clear hp
  go_enter Tryd.func74, Tryd.ntmps74
  go_wp2_with (fail)
  go_loop [4, 6] (fun r v => r = .bool false ∧ ∃ i : Nat, v = .int .i64 i ∧ i ≤ s.size) (fun _ v => s.size - (intOf v).toNat)
  case atStart => exact ⟨rfl, 0, rfl, Nat.zero_le _⟩
  case round =>
    obtain ⟨rfl, i, rfl, hi⟩ := hrel
    by_cases hlt : i < s.size
    · obtain ⟨h0, h35⟩ := HP.out i hlt
      obtain ⟨c, hc⟩ : ∃ c, s[i] = c := ⟨_, rfl⟩
      rw [hc] at h0 h35
      have z1 : ((c.toNat : Int) == 0) = false := by simp; omega
      have z2 : ((c.toNat : Int) != 35) = true := by simp; omega
      clear h0 h35
      go_wp2_with (fail)
      go_round
      case rel => exact ⟨rfl, i + 1, by simp, by omega⟩
      case measure => simp [intOf]; omega
    · go_wp2_with (fail)
      go_ret2
      exact ⟨rfl, (Below.refl _ _).alloc (Nat.le_refl _) _⟩

theorem run_miss (w : World) (B : Nat) (es : Array MapEntry) (c : Nat) (k : ByteArray) (hb : w.heap[B]? = some (.map es c)) (hf : Instr.findNow .string (.string k) es.toList 0 = some none) :
    (Instr.lookup 63 (.map (some B)) (.string k) true).run Tryd.prog w = .ok (.tuple #[.nilIface, .bool false]) w := by
  have hu : Tryd.prog.underlying 63 = some (.map 9 104) := Tryd.underlying63
  have h9 : Tryd.prog.underlying 9 = some .string := Tryd.underlying9
  have h1 := MapKept.run_checkKey (P := Tryd.prog) (w := w) (kt := 9) (d := .string) (k := .string k) h9 trivial es.isEmpty 9999
  have h2 := MapKept.run_findKey (P := Tryd.prog) (w := w) (kt := 9) (d := .string) (k := .string k) h9 hf
  have h3 : (zeroValue 104).run Tryd.prog w = .ok .nilIface w := by kernel_rfl
  unfold Instr.lookup
  simp [run_underlying hu, Result.andThen, MapKept.run_getObj_map hb, h1, h2, h3]

/-- The entries of a map, as the model numbers them, whose keys are plain names that differ from k. -/
structure Miss (es : Array MapEntry) (c : Nat) (k : ByteArray) : Prop where
  keys : ∀ x ∈ es.toList, ∃ s, x.key = .string s ∧ Pn s ∧ (s.toList == k.toList) = false ∧ (k == s) = false
  born : ∀ x ∈ es.toList, x.born < c
  nodup : (es.toList.map (·.born)).Nodup

theorem setBlock_heap {w : World} {b : Nat} (o : Obj) (h : b < w.heap.size) : (setBlock w b o).heap[b]? = some o := by simp [setBlock, h]
theorem setBlock_other {w : World} {b k : Nat} (o : Obj) (h : b ≠ k) : (setBlock w b o).heap[k]? = w.heap[k]? := by simp [setBlock, h]
theorem setBlock_below {N : Nat} {w0 w : World} (b : Below N w0 w) {B : Nat} (hB : N ≤ B) (o : Obj) : Below N w0 (setBlock w B o) :=
  ⟨b.os, b.tape, b.output, by have := b.size; simpa [setBlock] using this, fun k hk => (setBlock_other o (by omega)).trans (b.block k hk)⟩

set_option maxHeartbeats 1000000 in
set_option maxRecDepth 100000 in
theorem find_miss (w : World) (B : Nat) (es : Array MapEntry) (c : Nat) (k : ByteArray) (hb : w.heap[B]? = some (.map es c)) (hm : Miss es c k) :
    Calls Tryd.prog 67 #[.map (some B), .string k] w fun e w' => e = .returned (.tuple #[.nilIface, .bool false]) ∧ Below w.heap.size w w' := by
  have hl := run_miss w B es c k hb (find_none _ _ fun x hx => by obtain ⟨s, h1, _, _, h2⟩ := hm.keys x hx; exact ⟨s, h1, h2⟩)
  have lB := (Array.getElem?_eq_some_iff.1 hb).1
  have hr := run_range_map (P := Tryd.prog) w 63 9 104 B es c Tryd.underlying63 hb
  have HM := Lib.hid hm
  have HB := Lib.hid hb
  clear hb hm
  go_enter Tryd.func67, Tryd.ntmps67
  go_wp2_with (fail)
  go_loopw [23] (fun _ wr => ∃ seen c0, wr.heap[w.heap.size]? = some (.mapIter (some B) c seen c0) ∧ c ≤ c0 ∧ Below w.heap.size w wr) (fun _ wr => (leftOf es (wr.iterSeen w.heap.size)).size)
  case atStart => exact ⟨#[], c, heap_alloc_new _ _, Nat.le_refl _, below_al (Below.refl _ _) _⟩
  case round =>
    obtain ⟨seen, c0, hit, hc0, hbw⟩ := hrel
    have HI := Lib.hid (And.intro hit hbw)
    have hbB : wr.heap[B]? = some (.map es c) := (hbw.block B lB).trans HB.out
    have hlt : w.heap.size < wr.heap.size := (Array.getElem?_eq_some_iff.1 hit).1
    rcases run_next_at (P := Tryd.prog) wr 0 w.heap.size B c c0 seen es c hit hbB HM.out.born hc0 with ⟨h0, hnx⟩ | ⟨x, hx, w1, hw1, hnx⟩
    · clear hit hbw hbB hr hl h0
      go_wp2_with (fail)
      go_ret2
      exact ⟨rfl, HI.out.2⟩
    · obtain ⟨hxe, _⟩ := mem_left hx
      obtain ⟨s, hkey, hpn, hne, _⟩ := HM.out.keys x hxe
      have hb1 : Below w.heap.size w w1 := by rcases hw1 with rfl | rfl <;> first | exact hbw | exact below_drewN hbw 1
      have hz1 : w.heap.size < w1.heap.size := by rcases hw1 with rfl | rfl <;> exact hlt
      have hit2 := setBlock_heap (.mapIter (some B) c (seen.push x.born) c) hz1
      have hb2 := setBlock_below hb1 (Nat.le_refl _) (.mapIter (some B) c (seen.push x.born) c)
      obtain ⟨w2, hw2⟩ : ∃ w2, setBlock w1 w.heap.size (.mapIter (some B) c (seen.push x.born) c) = w2 := ⟨_, rfl⟩
      rw [hw2] at hit2 hb2 hnx
      have hen := run_entry_at (P := Tryd.prog) w2 w.heap.size B c seen es c x hit2 ((hb2.block B lB).trans HB.out) hxe HM.out.nodup
      rw [hkey] at hnx hen
      have hD := decName s hpn w2
      have HI2 := Lib.hid (And.intro hit2 hb2)
      have HS : Hid ((leftOf es (seen.push x.born)).size < (leftOf es (wr.iterSeen w.heap.size)).size) := by
        have e1 : wr.iterSeen w.heap.size = seen := by unfold World.iterSeen; rw [hit]
        show _ < _
        rw [e1]; exact left_shrinks es seen x hx
      generalize x.val = v at hnx hen
      have hlt2 : w.heap.size < w2.heap.size := (Array.getElem?_eq_some_iff.1 hit2).1
      clear hit hbw hbB hr hl hit2 hb2 hw2 hb1 hz1 hw1 hx hkey hxe hpn hlt
      go_wp2_with (go_at_call 74; refine Calls.mono (by with_reducible exact hD) ?_; rintro e w3 ⟨rfl, hb3⟩
                   have H3 : Hid (w3.heap[w.heap.size]? = some (.mapIter (some B) c (seen.push x.born) c) ∧ Below w.heap.size w w3) := ⟨(hb3.block _ hlt2).trans HI2.out.1, HI2.out.2.trans (hb3.mono HI2.out.2.size)⟩
                   clear hb3 hD hnx hen)
      go_roundw
      case rel => exact ⟨_, _, H3.out.1, Nat.le_refl _, H3.out.2⟩
      case measure =>
        have e2 : w3.iterSeen w.heap.size = seen.push x.born := by unfold World.iterSeen; rw [H3.out.1]
        rw [e2]; exact HS.out

end Go.Proofs.YtnpedhdonfdbmaaDoor
