/- What types.DecodeName answers. Conditions: sizes up to 4096 bytes; the variable encoding/hex.ErrLength holds a value. -/
import Derived.Test.YtgemkjickljedaaDoorNmW
import Derived.Test.YtgemkjickljedaaDoorBld
namespace Go.Proofs.YtgemkjickljedaaDoor
open Go.ChangeShapes Go.WideShapes Go.ChangeAt Go.RowKit
set_option linter.unusedSimpArgs false

theorem bld_below {B b : Nat} {bs : List Value} {w w' : World} (h : Lib.IsBuilder 64 5 B b bs w) (hb : Below w.heap.size w w') : Lib.IsBuilder 64 5 B b bs w' := by
  have key : ∀ p, Lib.BuilderAt 64 5 B b p bs w → Lib.BuilderAt 64 5 B b p bs w' := by
    rintro p ⟨hB, v, hbk, hown, hne⟩
    have hlt : b < w.heap.size := (Array.getElem?_eq_some_iff.1 hbk).1
    exact ⟨hB, v, by rw [hb.block b hlt, hbk], hown.kept (row := none) ⟨hb.os, hb.tape, hb.output, hb.size, fun k hk _ => hb.block k hk⟩ (by cases v.ownBlock <;> simp), hne⟩
  exact h.elim (fun x => .inl (key _ x)) (fun x => .inr (key _ x))

theorem bld_lt {B b : Nat} {bs : List Value} {w : World} (h : Lib.IsBuilder 64 5 B b bs w) : b < w.heap.size := h.elim (fun x => x.lt) (fun x => x.lt)

theorem kept_new {B b : Nat} {bs : List Value} {wr w2 w3 : World} (h : Lib.IsBuilder 64 5 B b bs wr) (hb : Below wr.heap.size wr w2) (hk : Kept b w2 w3) {g : Nat} (hg : wr.heap.size ≤ g) (hg2 : g < w2.heap.size) : w3.heap[g]? = w2.heap[g]? := by
  have key : ∀ p, Lib.BuilderAt 64 5 B b p bs wr → w3.heap[g]? = w2.heap[g]? := by
    rintro p ⟨hB, v, hbk, hown, hne⟩
    have hlt : b < wr.heap.size := (Array.getElem?_eq_some_iff.1 hbk).1
    have hbk2 : w2.heap[b]? = some (.cells #[p, v] 64 (0, 0)) := by rw [hb.block b hlt, hbk]
    refine hk v g (by rw [Lib.cell_of_heap hbk2]; rfl) hg2 (by omega) (fun e => ?_)
    have := (hown.lt g e).2
    omega
  exact h.elim (key _) (key _)

theorem ex_list (s : ByteArray) (i : Nat) (h : i + 2 < s.size) : (s.extract (i + 1) (i + 3)).data.toList = [s[i + 1], s[i + 2]] := by
  have h1 := get_of (s := s) (k := i + 1) (by omega)
  have h2 := get_of (s := s) (k := i + 2) (by omega)
  have : (s.extract (i + 1) (i + 3)).data.toList = (s.data.toList.drop (i + 1)).take 2 := by simp [ByteArray.data_extract, List.take_drop]; try omega
  rw [this, drop1 h1, drop1 h2]
  simp

theorem ex_head (s : ByteArray) (i : Nat) : Lib.strCells (s.extract 0 i) = vals (s.data.toList.take i) := by
  simp [Lib.strCells, vals, ByteArray.data_extract]

/-- One byte that is the call's own. -/
theorem own_one {w : World} {B : Nat} {v : Value} {c : UInt8} (h : w.ownsRow B 5 1 v 1 (vals [c])) : ∃ g cap, v = .slice (some ⟨g, 0, none⟩) 1 cap ∧ B ≤ g ∧ g < w.heap.size ∧ w.cell? ⟨g, 0, none⟩ = some (.int .u8 c.toNat) := by
  rcases h.2 with ⟨rfl, h0⟩ | ⟨g, cap, cur, rfl, hg, hheap, hncap, hcm, hcs, htake⟩
  · omega
  · refine ⟨g, cap, rfl, hg, (Array.getElem?_eq_some_iff.1 hheap).1, ?_⟩
    rw [cell_of_row _ g 0 cur 5 (0, 0) hheap]
    have h2 : (cur.toList.take (1 * 1))[0]? = (vals [c])[0]? := by rw [htake]
    rw [List.getElem?_take, if_pos (by omega)] at h2
    simpa [vals] using h2

theorem one_cell {w : World} {g : Nat} {x : Value} (h : w.cell? ⟨g, 0, none⟩ = some x) : ∀ j u, [x][j]? = some u → w.cell? ((⟨g, 0, none⟩ : Addr).add j) = some u := by
  intro j u hj
  match j, hj with
  | 0, hj => simp at hj; subst hj; simpa [Addr.add] using h

/-- What the loop keeps. -/
structure Dn (s : ByteArray) (ev : Value) (i : Nat) (rep : Bool) (out : List UInt8) (w wr : World) : Prop where
  mid : Mid s.data.toList i out
  head : rep = false → out = s.data.toList.take i
  nz : ∀ j, j < i → s.data.toList[j]? ≠ some 0
  below : Below w.heap.size w wr
  hE : wr.cell? ⟨4, 0, none⟩ = some ev
  bld : Lib.IsBuilder 64 5 w.heap.size w.heap.size (if rep then vals out else []) wr

theorem nz_all {s : ByteArray} (h : ∀ j, j < s.size → s.data.toList[j]? ≠ some 0) : nz s.data.toList = true := List.all_eq_true.2 fun c hc => by
  obtain ⟨j, hj, rfl⟩ := List.getElem_of_mem hc
  have h1 := h j (by simpa using hj)
  rw [List.getElem?_eq_getElem hj] at h1
  simpa using h1

/-- The answer. -/
def Ans (l : List UInt8) (e : Ending) : Prop := ∃ o err, e = .returned (.tuple #[.string o, err]) ∧ (if nmB l && nz l then o = nmS l ∧ err = .nilIface else ∃ T v, err = .iface T v)

theorem ans_bad {l : List UInt8} (h : nmB l = false ∨ nz l = false) (o : ByteArray) (T : TypeId) (v : Value) : Ans l (.returned (.tuple #[.string o, .iface T v])) :=
  ⟨o, _, rfl, by rw [if_neg (by rcases h with h | h <;> simp [h])]; exact ⟨T, v, rfl⟩⟩
theorem ans_good {l o : List UInt8} (h : nm l = some o) (hz : nz l = true) : Ans l (.returned (.tuple #[.string ⟨o.toArray⟩, .nilIface])) := by
  obtain ⟨h1, h2⟩ := nmS_some h
  exact ⟨_, _, rfl, by rw [h2, hz]; simp [h1]⟩

set_option maxHeartbeats 4000000 in
set_option maxRecDepth 100000 in
theorem decode_any (s : ByteArray) (w : World) (ev : Value) (hE : w.cell? ⟨4, 0, none⟩ = some ev) (hs : s.size ≤ 4096) :
    Calls Tryd.prog 29 #[.string s] w fun e w' => Ans s.data.toList e ∧ Below w.heap.size w w' := by
  have hlen : s.data.toList.length = s.size := by simp
  have hbase := block_lt_of_cell hE
  go_enter Tryd.func29, Tryd.ntmps29
  go_wp2_with (fail)
  go_loopw [4, 6] (fun rv iv wr => ∃ (i : Nat) (rep : Bool) (out : List UInt8), rv = .bool rep ∧ iv = .int .i64 i ∧ i ≤ s.size ∧ out.length ≤ i ∧ w.heap.size < wr.heap.size ∧ Hid (Dn s ev i rep out w wr))
    (fun _ iv _ => s.size - (intOf iv).toNat)
  case atStart =>
    refine ⟨0, false, [], rfl, rfl, Nat.zero_le _, Nat.le_refl _, by simp, Mid.zero _, fun _ => by simp, fun j hj => by omega, (Below.refl _ _).alloc (Nat.le_refl _) _, ?_, Lib.fresh_isBuilder 64 5 w⟩
    rw [World.cell?_alloc_lt _ _ _ hbase, hE]
  case round =>
    obtain ⟨i, rep, out, rfl, rfl, hin, hol, hsz, HD⟩ := hrel
    clear hE
    by_cases hlt : i < s.size
    · have hget := get_of hlt
      by_cases h0 : s[i].toNat = 0
      · have hbad := ans_bad (l := s.data.toList) (.inr (nz_not (i := i) (by rw [hget, u8_of (by decide) h0]; rfl)))
        have hnew := fun t => new_any t wr
        go_wp2_with (go_at_call 50; refine (hnew _).mono ?_; rintro e w3 ⟨rfl, b3⟩)
        go_ret2
        exact ⟨hbad _ _ _, HD.out.below.trans (b3.mono HD.out.below.size)⟩
      · by_cases h35 : s[i].toNat = 35
        · have hc : s.data.toList[i]? = some 35 := by rw [hget, u8_of (by decide) h35]; rfl
          have z0 : ((s[i].toNat : Int) == 0) = false := by simp; omega
          have z : ((s[i].toNat : Int) != 35) = false := by simp; omega
          have hnew := fun t => new_any t wr
          by_cases hsh : s.size < i + 3
          · have hbad := ans_bad (l := s.data.toList) (.inl (nmS_none (HD.out.mid.short hc (by omega))).2)
            clear hget hc
            go_wp2_with (go_at_call 50; refine (hnew _).mono ?_; rintro e w3 ⟨rfl, b3⟩)
            go_ret2
            exact ⟨hbad _ _ _, HD.out.below.trans (b3.mono HD.out.below.size)⟩
          · have ha := get_of (s := s) (k := i + 1) (by omega)
            have hb := get_of (s := s) (k := i + 2) (by omega)
            have hex := ex_list s i (by omega)
            have hsz1 : (s.extract (i + 1) (i + 3)).size ≤ 281474976710656 := by
              have : (s.extract (i + 1) (i + 3)).data.toList.length = 2 := by rw [hex]; rfl
              have h2 : (s.extract (i + 1) (i + 3)).data.toList.length = (s.extract (i + 1) (i + 3)).size := by rw [Array.length_toList]; rfl
              omega
            have hdec := Tryd.hex_DecodeString_owns (s.extract (i + 1) (i + 3)) wr ev HD.out.hE hsz1
            rw [hex] at hdec
            obtain ⟨a, hae⟩ : ∃ a, s[i + 1] = a := ⟨_, rfl⟩
            obtain ⟨b, hbe⟩ : ∃ b, s[i + 2] = b := ⟨_, rfl⟩
            rw [hae] at ha hdec
            rw [hbe] at hb hdec
            have HC : Hid (s.data.toList[i]? = some 35 ∧ s.data.toList[i + 1]? = some a ∧ s.data.toList[i + 2]? = some b) := ⟨hc, ha, hb⟩
            clear hc ha hb hget hex hae hbe hsz1
            by_cases h1 : hv a < 0
            · have hbad := ans_bad (l := s.data.toList) (.inl (nmS_none (HD.out.mid.bad HC.out.1 HC.out.2.1 HC.out.2.2 (.inl h1))).2)
              rw [Lib.Hx.decode_two, if_pos (hv_not _ h1).2] at hdec
              simp only [Lib.Hx.errVal] at hdec
              go_wp2_with (go_at_call 48; refine hdec.mono ?_; rintro e w3 ⟨v, rfl, hown, b3⟩)
              go_ret2
              exact ⟨hbad _ _ _, HD.out.below.trans (b3.mono HD.out.below.size)⟩
            · obtain ⟨e1, l1⟩ := hv_is a (by omega)
              by_cases h2 : hv b < 0
              · have hbad := ans_bad (l := s.data.toList) (.inl (nmS_none (HD.out.mid.bad HC.out.1 HC.out.2.1 HC.out.2.2 (.inr (.inl h2)))).2)
                rw [Lib.Hx.decode_two, if_neg (by omega), if_pos (hv_not _ h2).2] at hdec
                simp only [Lib.Hx.errVal] at hdec
                go_wp2_with (go_at_call 48; refine hdec.mono ?_; rintro e w3 ⟨v, rfl, hown, b3⟩)
                go_ret2
                exact ⟨hbad _ _ _, HD.out.below.trans (b3.mono HD.out.below.size)⟩
              · obtain ⟨e2, l2⟩ := hv_is b (by omega)
                rw [Lib.Hx.decode_two, if_neg (by omega), if_neg (by omega), Lib.Hx.decode_nil] at hdec
                simp only [Lib.Hx.errVal] at hdec
                have hdec2 : Calls Tryd.prog 48 #[.string (s.extract (i + 1) (i + 3))] wr fun e w' => ∃ g cap, e = .returned (.tuple #[.slice (some ⟨g, 0, none⟩) 1 cap, .nilIface]) ∧ wr.heap.size ≤ g ∧ g < w'.heap.size ∧ w'.cell? ⟨g, 0, none⟩ = some (.int .u8 (two a b).toNat) ∧ Below wr.heap.size wr w' :=
                  hdec.mono fun e w' ⟨v, he, ho, hb⟩ => by
                    obtain ⟨g, cap, rfl, x1, x2, x3⟩ := own_one (c := two a b) ho
                    exact ⟨g, cap, he, x1, x2, x3, hb⟩
                have ht : ((two a b).toNat : Int) = 16 * hv a + hv b := by
                  unfold two; rw [e1, e2, UInt8.toNat_ofNat']; omega
                clear hdec
                by_cases h3 : (two a b).toNat = 0
                · have hbad := ans_bad (l := s.data.toList) (.inl (nmS_none (HD.out.mid.bad HC.out.1 HC.out.2.1 HC.out.2.2 (.inr (.inr (by omega))))).2)
                  have hnew2 := fun t w => new_any t w
                  clear hnew
                  go_wp2_with (first
                    | (go_at_call 48; refine hdec2.mono ?_; rintro e w3 ⟨g, cap, rfl, x1, x2, x3, b3⟩)
                    | (go_at_call 50; refine (hnew2 _ _).mono ?_; rintro e w4 ⟨rfl, b4⟩))
                  go_ret2
                  exact ⟨hbad _ _ _, HD.out.below.trans ((b3.trans (b4.mono b3.size)).mono HD.out.below.size)⟩
                · have hm := HD.out.mid.two HC.out.1 HC.out.2.1 HC.out.2.2 (by omega)
                  have n0 : ∀ {c : UInt8}, ¬ hv c < 0 → c ≠ 0 := by
                    intro c hc h; subst h; exact hc (by decide)
                  have hnz : ∀ j, j < i + 3 → s.data.toList[j]? ≠ some 0 := fun j hj => by
                    rcases (show j < i ∨ j = i ∨ j = i + 1 ∨ j = i + 2 by omega) with h | rfl | rfl | rfl
                    · exact HD.out.nz j h
                    · rw [HC.out.1]; decide
                    · rw [HC.out.2.1]; intro h; exact n0 h1 (Option.some.inj h)
                    · rw [HC.out.2.2]; intro h; exact n0 h2 (Option.some.inj h)
                  have HM2 : Hid (Mid s.data.toList (i + 3) (out ++ [two a b]) ∧ (∀ j, j < i + 3 → s.data.toList[j]? ≠ some 0)) := ⟨hm, hnz⟩
                  have z2 : (((two a b).toNat : Int) == 0) = false := by simp; omega
                  clear hm hnz n0 hnew ht e1 e2 l1 l2
                  cases rep
                  · have hhead := HD.out.head rfl
                    go_wp2_with (first
                      | (go_at_call 48; refine hdec2.mono ?_; rintro e w3 ⟨g, cap, rfl, x1, x2, x3, b3⟩; have s3 := b3.size)
                      | (go_at_call 52; refine (writeString_any w.heap.size w.heap.size [] (s.extract 0 i) w3 (bld_below (bs := []) HD.out.bld b3) (by simp [ByteArray.size_extract]; omega) (by omega)).mono ?_; rintro e w4 ⟨rfl, B4, b4, k4⟩; have s4 := b4.size; have x4 := (World.cell?_of_block (a := ⟨g, 0, none⟩) (kept_new HD.out.bld b3 k4 x1 x2)).trans x3)
                      | (go_at_call 53; refine (write_any w.heap.size w.heap.size _ ⟨g, 0, none⟩ 1 cap [.int .u8 (two a b).toNat] w4 B4 rfl (by intro u hu; simp at hu; subst hu; rfl) (one_cell x4) (by have := bld_lt HD.out.bld; simp; omega) (by simp [Lib.strCells]; omega) (by omega)).mono ?_; rintro e w5 ⟨rfl, B5, b5, k5⟩; have s5 := b5.size))
                    go_roundw
                    case rel =>
                      refine ⟨i + 3, true, out ++ [two a b], rfl, by simp; omega, by omega, by simp; omega, by omega, HM2.out.1, (fun h => by cases h), HM2.out.2, ?_, ?_, ?_⟩
                      · exact ((HD.out.below.trans (b3.mono HD.out.below.size)).trans b4).trans b5
                      · rw [b5.cell hbase, b4.cell hbase, b3.cell (Nat.lt_trans hbase hsz), HD.out.hE]
                      · rw [if_pos rfl, vals_snoc, hhead, ← ex_head]; simpa using B5
                    case measure => simp [intOf]; omega
                  · go_wp2_with (first
                      | (go_at_call 48; refine hdec2.mono ?_; rintro e w3 ⟨g, cap, rfl, x1, x2, x3, b3⟩; have s3 := b3.size)
                      | (go_at_call 53; refine (write_any w.heap.size w.heap.size (vals out) ⟨g, 0, none⟩ 1 cap [.int .u8 (two a b).toNat] w3 (bld_below (bs := vals out) HD.out.bld b3) rfl (by intro u hu; simp at hu; subst hu; rfl) (one_cell x3) (by have := bld_lt HD.out.bld; simp; omega) (by simp [vals]; omega) (by omega)).mono ?_; rintro e w5 ⟨rfl, B5, b5, k5⟩; have s5 := b5.size))
                    go_roundw
                    case rel =>
                      refine ⟨i + 3, true, out ++ [two a b], rfl, by simp; omega, by omega, by simp; omega, by omega, HM2.out.1, (fun h => by cases h), HM2.out.2, ?_, ?_, ?_⟩
                      · exact (HD.out.below.trans (b3.mono HD.out.below.size)).trans b5
                      · rw [b5.cell hbase, b3.cell (Nat.lt_trans hbase hsz), HD.out.hE]
                      · rw [if_pos rfl, vals_snoc]; exact B5
                    case measure => simp [intOf]; omega
        · have hne : s[i] ≠ 35 := by intro h; apply h35; rw [h]; rfl
          have hn0 : s.data.toList[i]? ≠ some 0 := by rw [hget]; intro h; apply h0; rw [Option.some.inj h]; rfl
          have hm := HD.out.mid.plain hget hne
          have hnz : ∀ j, j < i + 1 → s.data.toList[j]? ≠ some 0 := fun j hj => by
            rcases Nat.lt_or_eq_of_le (Nat.le_of_lt_succ hj) with h | rfl
            · exact HD.out.nz j h
            · exact hn0
          have HM2 : Hid (Mid s.data.toList (i + 1) (out ++ [s[i]]) ∧ (∀ j, j < i + 1 → s.data.toList[j]? ≠ some 0) ∧ s.data.toList[i]? = some s[i]) := ⟨hm, hnz, hget⟩
          clear hm hget hnz hn0
          have z0 : ((s[i].toNat : Int) == 0) = false := by simp; omega
          have z : ((s[i].toNat : Int) != 35) = true := by simp; omega
          cases rep
          · go_wp2
            go_roundw
            case rel => exact ⟨i + 1, false, out ++ [s[i]], rfl, by simp, by omega, by simp; omega, hsz, HM2.out.1, fun _ => by
              rw [HD.out.head rfl, List.take_add_one, HM2.out.2.2]; rfl, HM2.out.2.1, HD.out.below, HD.out.hE, HD.out.bld⟩
            case measure => simp [intOf]; omega
          · have hw := writeByte_any w.heap.size w.heap.size (vals out) s[i].toNat wr HD.out.bld (by simp [vals]; omega) (by omega)
            go_wp2_with (go_at_call 51; refine hw.mono ?_; rintro e w3 ⟨rfl, hb3, b3, k3⟩)
            have s3 := b3.size
            go_roundw
            case rel => exact ⟨i + 1, true, out ++ [s[i]], rfl, by simp, by omega, by simp; omega, by omega, HM2.out.1, (fun h => by cases h), HM2.out.2.1, HD.out.below.trans b3, (by
              rw [b3.cell hbase, HD.out.hE]), by rw [if_pos rfl, vals_snoc]; exact hb3⟩
            case measure => simp [intOf]; omega
    · have hie : i = s.size := by omega
      have hz : nz s.data.toList = true := nz_all (fun j hj => HD.out.nz j (by omega))
      have hnm : nm s.data.toList = some out := by have := HD.out.mid; rw [hie, ← hlen] at this; exact this.done
      have hgood := ans_good hnm hz
      cases rep
      · have hso : (⟨out.toArray⟩ : ByteArray) = s := by
          apply str_ext
          show out.toArray.toList = _
          rw [HD.out.head rfl, hie, ← hlen, List.take_length]
        rw [hso] at hgood
        go_wp2
        go_ret2
        exact ⟨hgood, HD.out.below⟩
      · have hst := Tryd.Builder_String_any w.heap.size w.heap.size out wr HD.out.bld (by omega)
        go_wp2_with (go_at_call 54; refine hst.mono ?_; rintro e w3 ⟨rfl, b3⟩)
        go_ret2
        exact ⟨hgood, HD.out.below.trans b3⟩

set_option maxHeartbeats 1000000 in
/-- What the thin package hands on. -/
theorem implDecode_any (s : ByteArray) (w : World) (ev : Value) (hE : w.cell? ⟨4, 0, none⟩ = some ev) (hs : s.size ≤ 4096) :
    Calls Tryd.prog 13 #[.string s] w fun e w' => ∃ o, e = .returned (.tuple #[.string o, .bool (nmB s.data.toList && nz s.data.toList)]) ∧ ((nmB s.data.toList && nz s.data.toList) = true → o = nmS s.data.toList) ∧ Below w.heap.size w w' := by
  have hd := decode_any s w ev hE hs
  obtain ⟨g, hg⟩ : ∃ g, (nmB s.data.toList && nz s.data.toList) = g := ⟨_, rfl⟩
  rw [hg]
  cases g
  · have hd2 : Calls Tryd.prog 29 #[.string s] w fun e w' => ∃ o T v, e = .returned (.tuple #[.string o, .iface T v]) ∧ Below w.heap.size w w' := hd.mono fun e w' ⟨⟨o, err, he, h⟩, hb⟩ => by
      rw [hg, if_neg (by simp)] at h
      obtain ⟨T, v, rfl⟩ := h
      exact ⟨o, T, v, he, hb⟩
    go_enter Tryd.func13, Tryd.ntmps13
    go_wp2_with (go_at_call 29; refine hd2.mono ?_; rintro e w1 ⟨o, T, v, rfl, b1⟩)
    go_quiet (fail)
    go_wp2
    go_ret2
    exact ⟨_, rfl, (fun h => by cases h), below_drewN b1 _⟩
  · have hd2 : Calls Tryd.prog 29 #[.string s] w fun e w' => ∃ o, e = .returned (.tuple #[.string o, .nilIface]) ∧ o = nmS s.data.toList ∧ Below w.heap.size w w' := hd.mono fun e w' ⟨⟨o, err, he, h⟩, hb⟩ => by
      rw [hg, if_pos rfl] at h
      obtain ⟨ho, rfl⟩ := h
      exact ⟨o, he, ho, hb⟩
    go_enter Tryd.func13, Tryd.ntmps13
    go_wp2_with (go_at_call 29; refine hd2.mono ?_; rintro e w1 ⟨o, rfl, ho, b1⟩)
    go_quiet (fail)
    go_wp2
    go_ret2
    exact ⟨_, rfl, fun _ => rfl, below_drewN b1 _⟩

set_option maxHeartbeats 1000000 in
/-- The law. -/
theorem law_name (s : ByteArray) (w : World) (ev : Value) (hE : w.cell? ⟨4, 0, none⟩ = some ev) :
    Calls Tryd.prog 4 #[.string s] w fun e w' => e = .returned (.bool true) ∧ Below w.heap.size w w' := by
  by_cases h1 : (s.size : Int) > 2147483647
  · go_enter Tryd.func4, Tryd.ntmps4
    go_wp2
    go_ret
    exact ⟨rfl, Below.refl _ _⟩
  by_cases h2 : (s.size : Int) > 4096
  · go_enter Tryd.func4, Tryd.ntmps4
    go_wp2
    go_ret
    exact ⟨rfl, Below.refl _ _⟩
  have hn := nameBytes_any s w (by omega)
  have hz := fun w => nameable_any s w (by omega)
  have hE' : ∀ w', Below w.heap.size w w' → w'.cell? ⟨4, 0, none⟩ = some ev := fun w' hb => by rw [hb.cell (block_lt_of_cell hE), hE]
  have hi := fun w' hb => implDecode_any s w' ev (hE' w' hb) (by omega)
  obtain ⟨B, hB⟩ : ∃ B, nmB s.data.toList = B := ⟨_, rfl⟩
  obtain ⟨Z, hZ⟩ : ∃ Z, nz s.data.toList = Z := ⟨_, rfl⟩
  obtain ⟨S, hS⟩ : ∃ S, nmS s.data.toList = S := ⟨_, rfl⟩
  rw [hB, hS] at hn
  rw [hZ] at hz
  rw [hB, hZ, hS] at hi
  clear hE hE' hB hZ hS
  cases B <;> cases Z
  all_goals
    go_enter Tryd.func4, Tryd.ntmps4
    go_wp2_with (first
      | (go_at_call 11; refine hn.mono ?_; rintro e w1 ⟨rfl, b1⟩)
      | (go_at_call 12; refine (hz _).mono ?_; rintro e w2 ⟨rfl, rfl⟩)
      | (go_at_call 13; refine (hi _ b1).mono ?_; rintro e w3 ⟨o, rfl, ho, b3⟩; simp only [Bool.and_self, Bool.and_true, Bool.and_false, Bool.false_and, Bool.true_and, Bool.false_eq_true, false_implies, true_implies] at ho; try subst ho))
    go_ret
    exact ⟨by simp, b1.trans (b3.mono b1.size)⟩

end Go.Proofs.YtgemkjickljedaaDoor
