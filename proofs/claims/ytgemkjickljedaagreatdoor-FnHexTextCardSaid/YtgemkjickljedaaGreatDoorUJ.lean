/- What the package's decoder of UTF-16BE answers of bytes. Conditions: at most 9000 bytes; no code unit E000. -/
import Derived.Test.YtgemkjickljedaaGreatDoorUH
namespace Go.Proofs.YtgemkjickljedaaGreatDoor
open Go.ChangeShapes Go.WideShapes Go.ChangeAt Go.RowKit

/-- No code unit behind the mark is E000. -/
def NoEdge (l : List UInt8) : Prop := marked l = true → ∀ i, 2 ≤ i → i % 2 = 0 → ∀ a b, l[i]? = some a → l[i + 1]? = some b → un a b ≠ 57344

theorem be_not {l : List UInt8} (h : be l = false) : narO l = none := by
  unfold be at h; unfold narO; rw [if_neg (by simpa using h)]
theorem be_is {l : List UInt8} (h : be l = true) : narO l = nar (l.drop 2) ∧ marked l = true ∧ l.length % 2 = 0 := by
  unfold be at h
  have h' : marked l = true ∧ l.length % 2 = 0 := by simpa using h
  unfold narO; rw [if_pos h']; exact ⟨rfl, h'⟩

theorem own_of_block {w w' : World} {base n : Nat} {e : TypeId} {v : Value} {xs : List Value} (h : w.ownsRow base e 1 v n xs) (hk : ∀ k, v.ownBlock = some k → w'.heap[k]? = w.heap[k]?) : w'.ownsRow base e 1 v n xs := by
  refine ⟨h.1, ?_⟩
  rcases h.2 with hn | ⟨g, cap, cur, rfl, hb, hgg, rest⟩
  · exact .inl hn
  · exact .inr ⟨g, cap, cur, rfl, hb, (hk g rfl).trans hgg, rest⟩
theorem ub_of_row {w : World} {base ub cap : Nat} {xs : List Value} (h : w.ownsRow base 5 1 (.slice (some ⟨ub, 0, none⟩) 4 cap) 4 xs) : Ub ub w := by
  refine ⟨(h.lt ub rfl).2, fun j hj => ⟨?_, h.frozenAt j⟩⟩
  have hl := h.1
  rw [h.cellAt j (by omega), List.getElem?_eq_getElem (by omega)]; rfl

theorem add_at (b j : Nat) : (⟨b, 0, none⟩ : Addr).add j = ⟨b, j, none⟩ := by unfold Addr.add; split <;> simp_all

theorem okc_snoc {l : List Nat} {c : Nat} (h : ∀ j (h : j < l.length), okc l[j]) (hc : okc c) : ∀ j (h : j < (l ++ [c]).length), okc (l ++ [c])[j] := by
  intro j hj
  rcases Nat.lt_or_ge j l.length with h1 | h1
  · rw [List.getElem_append_left h1]; exact h j h1
  · rw [List.getElem_append_right h1]; simpa using hc

theorem below_cell {B : Nat} {w w' : World} (h : Below B w w') {a : Addr} (ha : a.block < B) : w'.cell? a = w.cell? a := World.cell?_of_block (h.block a.block ha)

set_option maxHeartbeats 4000000 in
set_option maxRecDepth 100000 in
theorem dec16_any (s : ByteArray) (g n cap : Nat) (T : TypeId) (pv : Value) (w : World) (hn : n = s.size) (hs : n ≤ 9000) (hcap : n ≤ cap) (hc : ∀ i (h : i < s.size), w.cell? ⟨g, i, none⟩ = some (.int .u8 s[i].toNat))
    (hE : w.cell? ⟨2, 0, none⟩ = some (.iface T pv)) (hg : g < w.heap.size) (hedge : NoEdge s.data.toList) :
    Calls Tryz.prog 36 #[.slice (some ⟨g, 0, none⟩) n cap] w fun e w' => ∃ ev, e = .returned (.tuple #[.string (narS s.data.toList), ev]) ∧ (narB s.data.toList = true → ev = .nilIface) ∧
      (narB s.data.toList = false → ∃ T p, ev = .iface T p) ∧ Below w.heap.size w w' := by
  obtain ⟨i0, hi, hz0, hz1, hz2⟩ := info_parts Tryz.info5
  obtain ⟨i1, hi1, hy0, hy1, hy2⟩ := info_parts Tryz.info67
  have hB := fun w' h => isbe_any s n g cap w' hn hs h
  have hlen : s.data.toList.length = n := by rw [hn]; simp
  obtain ⟨m, hm⟩ : ∃ m, be s.data.toList = m := ⟨_, rfl⟩
  rw [hm] at hB
  have hB1 := hB w hc
  clear hB
  cases m
  · have hno := narS_none (be_not hm)
    clear hn hlen hm hc hedge
    go_enter Tryz.func36, Tryz.ntmps36
    go_wp2_with (go_at_call 35; refine Calls.mono (by with_reducible exact hB1) ?_; rintro e w1 ⟨rfl, rfl⟩)
    go_quiet (fail)
    go_wp2
    go_ret2
    exact ⟨_, by first | rfl | (rw [hno.1]; rfl), by intro h; first | cases h | (rw [hno.2] at h; cases h), fun _ => ⟨_, _, rfl⟩, below_drewN (Below.refl _ _) _⟩
  · obtain ⟨hO, hmk, hev⟩ := be_is hm
    rw [hlen] at hev
    have h2 : 2 ≤ n := by
      rcases Nat.lt_or_ge s.size 2 with h | h
      · rw [marked_short h] at hmk; cases hmk
      · omega
    have HC : Hid (∀ i (h : i < s.size), w.cell? ⟨g, i, none⟩ = some (.int .u8 s[i].toNat)) := hc
    have HE : Hid (∀ i, 2 ≤ i → i % 2 = 0 → ∀ a b, s.data.toList[i]? = some a → s.data.toList[i + 1]? = some b → un a b ≠ 57344) := hedge hmk
    have HN : Hid (n = s.size ∧ narO s.data.toList = nar (s.data.toList.drop 2) ∧ s.data.toList.length = n) := ⟨hn, hO, hlen⟩
    clear hc hE hedge hn hO hlen hm hmk
    by_cases hcap2 : cap = 2
    · subst hcap2
      have HC2 : Hid (n ≤ 2) := hcap
      clear hcap
      go_enter Tryz.func36, Tryz.ntmps36
      go_wp2_with (first
        | (go_at_call 35; refine Calls.mono (by with_reducible exact hB1) ?_; rintro e w1 ⟨rfl, rfl⟩)
        | (at_make; refine wpList_make_own _ rfl _ _ 64 rfl w1.heap.size 67 i1 (.int .u16 0) 1 Tryz.underlying64 hi1 hy0 hy1 .i64 .i64 _ (n - 2) rfl rfl (by omega) (by rw [hy2]; omega) (by unfold maxLen; omega) (Nat.le_refl _) ?_; intro w0 hown0 hgrow0
           have hb0 := (Below.refl w1.heap.size w1).grown hgrow0 (Nat.le_refl _) (fun k hk => by cases hk)
           clear hgrow0))
      go_loopw [4, 5] (fun v iv wr => ∃ (i : Nat) (out : List Nat), iv = .int .i64 i ∧ i ≤ n - 2 ∧ i % 2 = 0 ∧ w1.heap.size ≤ wr.heap.size ∧ wr.ownsRow w1.heap.size 67 1 v (i / 2) (vals16 (u16s out)) ∧ v ≠ .slice none 0 0 ∧
          Hid (2 * (u16s out).length = i ∧ MidU s.data.toList (i + 2) out ∧ (∀ j (h : j < out.length), okc out[j]) ∧ Below w1.heap.size w1 wr))
        (fun _ iv _ => n - (intOf iv).toNat)
      case atStart => exact ⟨0, [], rfl, Nat.zero_le _, rfl, hb0.size, hown0, (by intro h; cases h), rfl, MidU.zero _, fun j h => by simp at h, hb0⟩
      case round =>
        obtain ⟨i, out, rfl, hin, hie, hsz, hown, hnn, HM⟩ := hrel
        by_cases hlt : i < n - 2
        · exfalso; have := HC2.out; omega
        · have hie2 : i = n - 2 := by omega
          have hnm := HM.out.2.1
          rw [show i + 2 = s.data.toList.length by have := HN.out.2.2; omega] at hnm
          have hso := narS_some (HN.out.2.1.trans hnm.done)
          have HS : Hid (narS s.data.toList = ⟨(encs out).toArray⟩ ∧ narB s.data.toList = true) := hso
          have hul : (u16s out).length = i / 2 := by have := HM.out.1; omega
          have hol := u16s_many out
          obtain ⟨g1, cap1, rfl⟩ : ∃ g1 cap1, u4 = .slice (some ⟨g1, 0, none⟩) (i / 2) cap1 := by
            rcases Joins.ownsRow_forms hown with ⟨h, _⟩ | h
            · exact absurd h hnn
            · exact h
          have hD := fun (w' : World) (h : w'.ownsRow w1.heap.size 67 1 (.slice (some ⟨g1, 0, none⟩) (i / 2) cap1) (i / 2) (vals16 (u16s out))) => Decode_any out HM.out.2.2.1 (i / 2) g1 cap1 w1.heap.size w' hul.symm (by omega) h
          have HO : Hid (∀ j (h : j < out.length), okc out[j]) := HM.out.2.2.1
          have hlo : out.length ≤ 9000 := by omega
          clear hnm hso hul hnn hol
          subst hie2
          go_wp2_with (first
            | (at_make; refine wpList_make_full _ rfl _ _ 43 rfl wr.heap.size 5 i0 (.int .u8 0) 1 Tryz.underlying43 hi hz0 hz1 .i64 .i64 _ _ 4 rfl rfl (by omega) (by omega) (by rw [hz2]; omega) (by unfold maxLen; omega) (by simp) ?_; intro w2 hown2 hgrow2
               have hs1 : (wr.alloc (.cells #[] 5)).heap.size = wr.heap.size + 1 := by simp
               rw [hs1] at hown2
               have hU : Ub (wr.heap.size + 1) w2 := ub_of_row hown2
               have hd0 : w2.ownsRow w1.heap.size 5 1 (.slice (some ⟨wr.heap.size, 0, none⟩) 0 0) 0 [] := (World.ownsRow_made wr #[] 0 hsz (by unfold maxLen; omega) rfl).kept hgrow2 (by right; simp [Value.ownBlock])
               have hd := hD w2 ((hown.alloc (.cells #[] 5)).kept hgrow2 (by right; simp [Value.ownBlock]))
               have hB2 : Below w1.heap.size w1 w2 := ((HM.out.2.2.2).alloc hsz (.cells #[] 5)).grown hgrow2 (by simp; omega) (fun k hk => by cases hk)
               have HU : Hid (Ub (wr.heap.size + 1) w2 ∧ w2.ownsRow w1.heap.size 5 1 (.slice (some ⟨wr.heap.size, 0, none⟩) 0 0) 0 [] ∧ Below w1.heap.size w1 w2) := ⟨hU, hd0, hB2⟩
               clear hs1 hown2 hgrow2 hD hU hd0 hB2)
            | (go_at_call 48; refine Calls.mono (by with_reducible exact hd) ?_; rintro e w3 ⟨rv, rfl, hrn, hrow, hbr⟩
               obtain ⟨g2, cap2, rfl⟩ : ∃ g2 cap2, rv = .slice (some ⟨g2, 0, none⟩) out.length cap2 := by
                 rcases Joins.ownsRow_forms hrow with ⟨h, _⟩ | h
                 · exact absurd h hrn
                 · exact h
               have hlt2 := HU.out.1.1
               have hg2 := (hrow.lt g2 rfl).1
               have hk1 := hbr.block (wr.heap.size + 1) hlt2
               have HR : Hid (w3.ownsRow w2.heap.size 21 1 (.slice (some ⟨g2, 0, none⟩) out.length cap2) out.length (vals32 out) ∧ Ub (wr.heap.size + 1) w3 ∧ w3.ownsRow w1.heap.size 5 1 (.slice (some ⟨wr.heap.size, 0, none⟩) 0 0) 0 [] ∧ g2 ≠ wr.heap.size + 1 ∧ w1.heap.size ≤ wr.heap.size + 1 ∧ Below w1.heap.size w1 w3) :=
                 ⟨hrow, HU.out.1.of_block hk1 hbr.size, own_of_block HU.out.2.1 (fun k hk => by simp [Value.ownBlock] at hk; subst hk; exact hbr.block _ (by omega)), by omega, by omega, HU.out.2.2.trans (hbr.mono HU.out.2.2.size)⟩
               have hsz3 : w1.heap.size ≤ w3.heap.size := HR.out.2.2.2.2.2.size
               clear hrn hrow hbr hk1 HU hlt2 hg2))
          generalize wr.heap.size = db at HR ⊢
          go_loopw [7, 103] (fun dv kv wq => ∃ (k : Nat), kv = .int .i64 k ∧ k ≤ out.length ∧ w1.heap.size ≤ wq.heap.size ∧ (encs (out.take k)).length ≤ 4 * k ∧ wq.ownsRow w1.heap.size 5 1 dv (encs (out.take k)).length (vals (encs (out.take k))) ∧
              Hid (wq.ownsRow w2.heap.size 21 1 (.slice (some ⟨g2, 0, none⟩) out.length cap2) out.length (vals32 out) ∧ Ub (db + 1) wq ∧ dv.ownBlock ≠ some (db + 1) ∧ g2 ≠ db + 1 ∧ w1.heap.size ≤ db + 1 ∧ Below w1.heap.size w1 wq))
            (fun _ kv _ => out.length - (intOf kv).toNat)
          case atStart => exact ⟨0, rfl, Nat.zero_le _, hsz3, Nat.le_refl _, HR.out.2.2.1, HR.out.1, HR.out.2.1, by simp [Value.ownBlock], HR.out.2.2.2.1, HR.out.2.2.2.2.1, HR.out.2.2.2.2.2⟩
          case round =>
            obtain ⟨k, rfl, hk, hsq, hel, hdown, HQ⟩ := hrel
            by_cases hlt2 : k < out.length
            · have hok := HO.out k hlt2
              have hcell : wr.cell? ⟨g2, k, none⟩ = some (.int .i32 (out[k] : Int)) := own_cell HQ.out.1 k (vals32_at (List.getElem?_eq_getElem hlt2))
              have htk := encs_snoc (out.take k) out[k]
              rw [← take_snoc hlt2] at htk
              obtain ⟨c, hc⟩ : ∃ c, out[k] = c := ⟨_, rfl⟩
              rw [hc] at hok hcell htk
              obtain ⟨z, hz⟩ : ∃ z : Int, z = (c : Int) := ⟨_, rfl⟩
              rw [← hz] at hcell
              obtain ⟨m, L, hL1, hL2, hm4, z0, z1, hL3, hm2⟩ := enc_cells c hok z hz
              have hE := encRune_at (db + 1) m z L hL1 hL2 hm4 z0 z1 wr HQ.out.2.1
              have hone : ∀ u ∈ L, u.oneCell' = true := by rw [hL3]; intro u hu; simp [vals] at hu; obtain ⟨q, _, rfl⟩ := hu; rfl
              have HT : Hid ((encs (out.take (k + 1))).length = (encs (out.take k)).length + m ∧ vals (encs (out.take (k + 1))) = vals (encs (out.take k)) ++ L) := by
                refine ⟨by rw [htk, List.length_append, hm2], by rw [htk, hL3]; simp [vals]⟩
              have HL : Hid (L.length = m * 1 ∧ ∀ u ∈ L, u.oneCell' = true) := ⟨by omega, hone⟩
              obtain ⟨len0, hlen0⟩ : ∃ len0, len0 = (encs (out.take k)).length := ⟨_, rfl⟩
              rw [← hlen0] at hdown hel HT
              clear htk hL1 hL2 hL3 hm2 hok hc hz z0 z1 hone hlen0
              go_wp2_with (first
                | (go_at_call 49; refine Calls.mono (by with_reducible exact hE) ?_; rintro e w4 ⟨rfl, hcs, hU4, hg4, hs4, hb4⟩
                   have hown4 := hdown.kept hg4 (.inr HQ.out.2.2.1)
                   have HW : Hid (w4.ownsRow w2.heap.size 21 1 (.slice (some ⟨g2, 0, none⟩) out.length cap2) out.length (vals32 out) ∧ Ub (db + 1) w4 ∧ Below w1.heap.size w1 w4) :=
                     ⟨HQ.out.1.kept hg4 (.inr (by simp only [Value.ownBlock]; intro h; cases h; exact HQ.out.2.2.2.1 rfl)), hU4, HQ.out.2.2.2.2.2.trans (hb4 _ HQ.out.2.2.2.2.1)⟩
                   have hs5 : w1.heap.size ≤ w4.heap.size := by omega
                   clear hE hdown hU4 hg4 hb4 hs4)
                | (at_builtin; refine wpList_append_own_at _ rfl _ _ 43 rfl w1.heap.size 5 i0 (.int .u8 0) 1 1 Tryz.underlying43 hi hz0 hz1 hz2 rfl (by decide) _ _ _ rfl hown4 ⟨db + 1, 0, none⟩ m 4 L rfl HL.out.1 (by intro j u hu; rw [add_at]; exact hcs j u hu) HL.out.2 (by unfold maxLen; omega) (by omega) (by omega) ?_))
              intro v' w' hown' hgrow' hnil hat
              have hne2 : v'.ownBlock ≠ some (db + 1) := by
                have := HW.out.2.1.1
                rcases hat with h | h
                · rw [h]; exact HQ.out.2.2.1
                · rw [h]; intro e; have := Option.some.inj e; omega
              have hHU := HW.out.2.1.of_block (hgrow'.block (db + 1) HW.out.2.1.1 (fun e => HQ.out.2.2.1 e.symm)) hgrow'.size
              have hHB := HW.out.2.2.grown hgrow' hs5 (fun k hk => (hown4.lt k hk).1)
              have hHR := HW.out.1.kept hgrow' (own_apart HW.out.1 hown4 (by decide))
              have hs6 := hHB.size
              have HF : Hid (w'.ownsRow w2.heap.size 21 1 (.slice (some ⟨g2, 0, none⟩) out.length cap2) out.length (vals32 out) ∧ Ub (db + 1) w' ∧ v'.ownBlock ≠ some (db + 1) ∧ g2 ≠ db + 1 ∧ w1.heap.size ≤ db + 1 ∧ Below w1.heap.size w1 w') :=
                ⟨hHR, hHU, hne2, HQ.out.2.2.2.1, HQ.out.2.2.2.2.1, hHB⟩
              clear hne2 hHU hHB hHR hgrow' hnil hat hown4
              go_wp2
              go_roundw
              case rel => exact ⟨k + 1, by simp, by omega, hs6, by rw [HT.out.1]; omega, by rw [HT.out.1, HT.out.2]; exact hown', HF.out⟩
              case measure => simp [intOf]; omega
            · have hke : k = out.length := by omega
              subst hke
              rw [List.take_length] at hdown
              have hcv := conv_own hdown
              go_wp2
              go_ret2
              exact ⟨_, by first | rfl | (rw [HS.out.1]; rfl), fun _ => rfl, fun h => (by rw [HS.out.2] at h; cases h), HQ.out.2.2.2.2.2⟩
    · go_enter Tryz.func36, Tryz.ntmps36
      go_wp2_with (first
        | (go_at_call 35; refine Calls.mono (by with_reducible exact hB1) ?_; rintro e w1 ⟨rfl, rfl⟩)
        | (at_make; refine wpList_make_own _ rfl _ _ 64 rfl w1.heap.size 67 i1 (.int .u16 0) 1 Tryz.underlying64 hi1 hy0 hy1 .i64 .i64 _ (n - 2) rfl rfl (by omega) (by rw [hy2]; omega) (by unfold maxLen; omega) (Nat.le_refl _) ?_; intro w0 hown0 hgrow0
           have hb0 := (Below.refl w1.heap.size w1).grown hgrow0 (Nat.le_refl _) (fun k hk => by cases hk)
           clear hgrow0))
      go_loopw [4, 5] (fun v iv wr => ∃ (i : Nat) (out : List Nat), iv = .int .i64 i ∧ i ≤ n - 2 ∧ i % 2 = 0 ∧ w1.heap.size ≤ wr.heap.size ∧ wr.ownsRow w1.heap.size 67 1 v (i / 2) (vals16 (u16s out)) ∧ v ≠ .slice none 0 0 ∧
          Hid (2 * (u16s out).length = i ∧ MidU s.data.toList (i + 2) out ∧ (∀ j (h : j < out.length), okc out[j]) ∧ Below w1.heap.size w1 wr))
        (fun _ iv _ => n - (intOf iv).toNat)
      case atStart => exact ⟨0, [], rfl, Nat.zero_le _, rfl, hb0.size, hown0, (by intro h; cases h), rfl, MidU.zero _, fun j h => by simp at h, hb0⟩
      case round =>
        obtain ⟨i, out, rfl, hin, hie, hsz, hown, hnn, HM⟩ := hrel
        by_cases hlt : i < n - 2
        · have hs0 : i + 2 < s.size := by have := HN.out.1; omega
          have hs1 : i + 3 < s.size := by have := HN.out.1; omega
          have hget0 := get_of hs0
          have hget1 := get_of hs1
          have hk0 : wr.cell? ⟨g, i + 2, none⟩ = some (.int .u8 s[i + 2].toNat) := (below_cell HM.out.2.2.2 hg).trans (HC.out (i + 2) hs0)
          have hk1 : wr.cell? ⟨g, i + 3, none⟩ = some (.int .u8 s[i + 3].toNat) := (below_cell HM.out.2.2.2 hg).trans (HC.out (i + 3) hs1)
          obtain ⟨a, hae⟩ : ∃ a, s[i + 2] = a := ⟨_, rfl⟩
          obtain ⟨b, hbe⟩ : ∃ b, s[i + 3] = b := ⟨_, rfl⟩
          rw [hae] at hget0 hk0
          rw [hbe] at hget1 hk1
          rw [Nat.add_comm i 2] at hk0
          rw [show i + 3 = 2 + (i + 1) by omega] at hk1
          have la := a.toNat_lt
          have lb := b.toNat_lt
          obtain ⟨u, hu⟩ : ∃ u, u = un a b := ⟨_, rfl⟩
          have hne : u ≠ 57344 := by rw [hu]; exact HE.out (i + 2) (by omega) (by omega) a b hget0 hget1
          obtain ⟨x, hx⟩ : ∃ x : Int, x = (a.toNat : Int) := ⟨_, rfl⟩
          obtain ⟨y, hy⟩ : ∃ y : Int, y = (b.toNat : Int) := ⟨_, rfl⟩
          obtain ⟨z, hz⟩ : ∃ z : Int, z = (u : Int) := ⟨_, rfl⟩
          rw [← hx] at hk0
          rw [← hy] at hk1
          have hzu : x * 256 + y = z := by rw [hx, hy, hz, hu]; unfold un; omega
          have x0 : 0 ≤ x := by omega
          have x1 : x < 256 := by omega
          have y0 : 0 ≤ y := by omega
          have y1 : y < 256 := by omega
          have z0 : 0 ≤ z := by omega
          have z1 : z < 65536 := by omega
          have n1 : (i : Int) + 1 < (n : Int) - 2 := by omega
          have n2 : (n : Int) ≤ 9000 := by omega
          have HA : Hid (s.data.toList[i + 2]? = some a ∧ s.data.toList[i + 3]? = some b ∧ u = un a b) := ⟨hget0, hget1, hu⟩
          have HZ : Hid (z = (u : Int) ∧ u ≠ 57344) := ⟨hz, hne⟩
          clear hget0 hget1 hs0 hs1 hu hz hx hy hae hbe la lb hne
          by_cases hbm : bmp u
          · have hm := HM.out.2.1.plain (by have := HN.out.2.2; omega) (by omega) HA.out.1 HA.out.2.1 (HA.out.2.2 ▸ hbm)
            rw [← HA.out.2.2] at hm
            have hul : u < 65536 := by have := HZ.out.1; omega
            have HP : Hid (2 * (u16s (out ++ [u])).length = i + 2 ∧ MidU s.data.toList (i + 2 + 2) (out ++ [u]) ∧ vals16 (u16s (out ++ [u])) = vals16 (u16s out) ++ [.int .u16 z]) := by
              refine ⟨?_, hm, ?_⟩
              · rw [u16s_snoc, u16_bmp hul, List.length_append, List.length_cons, List.length_nil]; have := HM.out.1; omega
              · rw [u16s_snoc, u16_bmp hul, vals16_snoc, HZ.out.1]
            have hx : z < 55296 ∨ (¬ z < 55296 ∧ 57344 < z) := by have := HZ.out; unfold bmp at hbm; omega
            clear hm
            rcases hx with hx | ⟨hx, hx2⟩
            · have d1 : decide (z ≤ 55295) = true := by simp; omega
              clear hx HZ
              go_wp2
              go_quiet (fail)
              go_wp2_with (at_builtin; refine wpList_append_own _ rfl _ _ 64 rfl w1.heap.size 67 i1 (.int .u16 0) 1 2 Tryz.underlying64 hi1 hy0 hy1 hy2 rfl (by decide) _ _ _ rfl (World.ownsRow.alloc (w := World.drewN _ _) hown _) ⟨wr.heap.size, 0, none⟩ 1 1 [.int .u16 z] rfl rfl (cell_one_new (World.drewN _ _) _ _) (by intro u hu; simp at hu; subst hu; rfl) (by unfold maxLen; omega) (by omega) (by simp; omega) ?_)
              intro v' w' hown' hgrow' hnil
              have hnn' : v' ≠ .slice none 0 0 := fun h => hnil h
              have hB := ((below_drewN HM.out.2.2.2 _).alloc (by simpa using hsz) (.cells #[.int .u16 z] 67)).grown hgrow' (by simp; omega) (fun k hk => (hown.lt k hk).1)
              have hw' := hB.size
              have HB : Hid (Below w1.heap.size w1 w') := hB
              clear hB hgrow' hnil
              go_wp2
              go_roundw
              case rel => exact ⟨i + 2, out ++ [u], by simp, by omega, by omega, hw', by rw [show (i + 2) / 2 = i / 2 + 1 by omega, HP.out.2.2]; exact hown', hnn', HP.out.1, HP.out.2.1, okc_snoc HM.out.2.2.1 (by unfold bmp at hbm; unfold okc; omega), HB.out⟩
              case measure => simp [intOf]; omega
            · have d1 : decide (z ≤ 55295) = false := by simp; omega
              have d2 : decide (57344 < z) = true := by simp; omega
              have d3 : decide (z ≤ 65535) = true := by simp; omega
              clear hx2
              clear hx HZ
              go_wp2
              go_quiet (fail)
              go_wp2_with (at_builtin; refine wpList_append_own _ rfl _ _ 64 rfl w1.heap.size 67 i1 (.int .u16 0) 1 2 Tryz.underlying64 hi1 hy0 hy1 hy2 rfl (by decide) _ _ _ rfl (World.ownsRow.alloc (w := World.drewN _ _) hown _) ⟨wr.heap.size, 0, none⟩ 1 1 [.int .u16 z] rfl rfl (cell_one_new (World.drewN _ _) _ _) (by intro u hu; simp at hu; subst hu; rfl) (by unfold maxLen; omega) (by omega) (by simp; omega) ?_)
              intro v' w' hown' hgrow' hnil
              have hnn' : v' ≠ .slice none 0 0 := fun h => hnil h
              have hB := ((below_drewN HM.out.2.2.2 _).alloc (by simpa using hsz) (.cells #[.int .u16 z] 67)).grown hgrow' (by simp; omega) (fun k hk => (hown.lt k hk).1)
              have hw' := hB.size
              have HB : Hid (Below w1.heap.size w1 w') := hB
              clear hB hgrow' hnil
              go_wp2
              go_roundw
              case rel => exact ⟨i + 2, out ++ [u], by simp, by omega, by omega, hw', by rw [show (i + 2) / 2 = i / 2 + 1 by omega, HP.out.2.2]; exact hown', hnn', HP.out.1, HP.out.2.1, okc_snoc HM.out.2.2.1 (by unfold bmp at hbm; unfold okc; omega), HB.out⟩
              case measure => simp [intOf]; omega
          · have hu1 : 55296 ≤ z ∧ z < 57344 := by have := HZ.out; unfold bmp at hbm; omega
            have hx' : ¬ bmp (un a b) := HA.out.2.2 ▸ hbm
            have d1 : decide (z ≤ 55295) = false := by simp; omega
            have d2 : decide (57344 < z) = false := by simp; omega
            have e2 : decide (z ≤ 57343) = true := by simp; omega
            by_cases hend : i + 4 = n
            · have hno := narS_none (HN.out.2.1.trans (HM.out.2.1.short HA.out.1 HA.out.2.1 hx' (by have := HN.out.2.2; omega)))
              have d4 : decide (((n - 2 : Nat) : Int) ≤ (i : Int) + 2) = true := by simp; omega
              clear hbm hx'
              go_wp2
              go_quiet (fail)
              go_wp2_with (go_at_call 47; refine (new_any _ _).mono ?_; rintro e w5 ⟨rfl, h5⟩)
              go_ret2
              exact ⟨_, by first | rfl | (rw [hno.1]; rfl), by intro h; first | cases h | (rw [hno.2] at h; cases h), fun _ => ⟨_, _, rfl⟩, (below_drewN HM.out.2.2.2 _).trans (h5.mono (below_drewN HM.out.2.2.2 _).size)⟩
            · have hs2 : i + 4 < s.size := by have := HN.out.1; omega
              have hs3 : i + 5 < s.size := by have := HN.out.1; omega
              have hget2 := get_of hs2
              have hget3 := get_of hs3
              have hk2 : w1.cell? ⟨g, i + 4, none⟩ = some (.int .u8 s[i + 4].toNat) := HC.out (i + 4) hs2
              have hk3 : w1.cell? ⟨g, i + 5, none⟩ = some (.int .u8 s[i + 5].toNat) := HC.out (i + 5) hs3
              obtain ⟨c, hce⟩ : ∃ c, s[i + 4] = c := ⟨_, rfl⟩
              obtain ⟨d, hde⟩ : ∃ d, s[i + 5] = d := ⟨_, rfl⟩
              rw [hce] at hget2 hk2
              rw [hde] at hget3 hk3
              rw [show i + 4 = 2 + (i + 2) by omega] at hk2
              rw [show i + 5 = 2 + (i + 3) by omega] at hk3
              have lc := c.toNat_lt
              have ld := d.toNat_lt
              obtain ⟨v2, hv2⟩ : ∃ v2, v2 = un c d := ⟨_, rfl⟩
              obtain ⟨x', hx2⟩ : ∃ x' : Int, x' = (c.toNat : Int) := ⟨_, rfl⟩
              obtain ⟨y', hy2'⟩ : ∃ y' : Int, y' = (d.toNat : Int) := ⟨_, rfl⟩
              obtain ⟨z', hz2'⟩ : ∃ z' : Int, z' = (v2 : Int) := ⟨_, rfl⟩
              rw [← hx2] at hk2
              rw [← hy2'] at hk3
              have hzv : x' * 256 + y' = z' := by rw [hx2, hy2', hz2', hv2]; unfold un; omega
              have x0' : 0 ≤ x' := by omega
              have x1' : x' < 256 := by omega
              have y0' : 0 ≤ y' := by omega
              have y1' : y' < 256 := by omega
              have z0' : 0 ≤ z' := by omega
              have z1' : z' < 65536 := by omega
              have n3 : (i : Int) + 3 < ((n - 2 : Nat) : Int) := by omega
              have n4 : (i : Int) + 2 < ((n - 2 : Nat) : Int) := by omega
              have d4 : decide (((n - 2 : Nat) : Int) ≤ (i : Int) + 2) = false := by simp; omega
              have HK : Hid (w1.cell? ⟨g, 2 + (i + 2), none⟩ = some (.int .u8 x') ∧ w1.cell? ⟨g, 2 + (i + 3), none⟩ = some (.int .u8 y')) := ⟨hk2, hk3⟩
              have HA2 : Hid (s.data.toList[i + 2 + 2]? = some c ∧ s.data.toList[i + 2 + 3]? = some d ∧ v2 = un c d) := ⟨hget2, hget3, hv2⟩
              have HZ2 : Hid (z' = (v2 : Int)) := hz2'
              clear hget2 hget3 hk2 hk3 hs2 hs3 hv2 hx2 hy2' hz2' hce hde lc ld
              by_cases h5 : 56320 ≤ z
              · have hno := narS_none (HN.out.2.1.trans (HM.out.2.1.single HA.out.1 HA.out.2.1 HA2.out.1 HA2.out.2.1 hx' (.inl (by have := HZ.out.1; rw [← HA.out.2.2]; omega))))
                have d5 : decide (56320 ≤ z) = true := by simp; omega
                clear hbm hx' h5
                go_wp2
                go_quiet (fail)
                go_wp2_with (go_at_call 47; refine (new_any _ _).mono ?_; rintro e w5 ⟨rfl, h5⟩)
                go_ret2
                exact ⟨_, by first | rfl | (rw [hno.1]; rfl), by intro h; first | cases h | (rw [hno.2] at h; cases h), fun _ => ⟨_, _, rfl⟩, (below_drewN HM.out.2.2.2 _).trans (h5.mono (below_drewN HM.out.2.2.2 _).size)⟩
              · have d5 : decide (56320 ≤ z) = false := by simp; omega
                have hu56 : u < 56320 := by have := HZ.out.1; omega
                by_cases hy : lone u v2
                · have hno := narS_none (HN.out.2.1.trans (HM.out.2.1.single HA.out.1 HA.out.2.1 HA2.out.1 HA2.out.2.1 hx' (by rw [← HA.out.2.2, ← HA2.out.2.2]; exact hy)))
                  have h67 : z' < 56320 ∨ (56320 ≤ z' ∧ 57343 < z') := by have := HZ2.out; unfold lone at hy; omega
                  clear hbm hx' h5 hy hu56
                  go_wp2
                  go_quiet (fail)
                  go_wp2_with (at_builtin; refine wpList_append_own _ rfl _ _ 64 rfl w1.heap.size 67 i1 (.int .u16 0) 1 2 Tryz.underlying64 hi1 hy0 hy1 hy2 rfl (by decide) _ _ _ rfl (World.ownsRow.alloc (w := World.drewN _ _) hown _) ⟨wr.heap.size, 0, none⟩ 1 1 [.int .u16 z] rfl rfl (cell_one_new (World.drewN _ _) _ _) (by intro u hu; simp at hu; subst hu; rfl) (by unfold maxLen; omega) (by omega) (by simp; omega) ?_)
                  intro v' w' hown' hgrow' hnil
                  have hnn' : v' ≠ .slice none 0 0 := fun h => hnil h
                  have hB := ((below_drewN HM.out.2.2.2 _).alloc (by simpa using hsz) (.cells #[.int .u16 z] 67)).grown hgrow' (by simp; omega) (fun k hk => (hown.lt k hk).1)
                  have hw' := hB.size
                  have hk2 : w'.cell? ⟨g, 2 + (i + 2), none⟩ = some (.int .u8 x') := (below_cell hB hg).trans HK.out.1
                  have hk3 : w'.cell? ⟨g, 2 + (i + 3), none⟩ = some (.int .u8 y') := (below_cell hB hg).trans HK.out.2
                  have HB : Hid (Below w1.heap.size w1 w') := hB
                  clear hB hgrow' hnil
                  go_wp2
                  have q1 : (i : Int) + 2 ≤ 9223372036854775807 := by omega
                  have q2 : -9223372036854775808 ≤ (i : Int) + 2 := by omega
                  have q3 : 0 ≤ (i : Int) + 2 := by omega
                  have q4 : (i : Int) + 3 ≤ 9223372036854775807 := by omega
                  have q5 : 0 ≤ (i : Int) + 3 := by omega
                  go_quiet (fail)
                  rcases h67 with h6 | ⟨h6, h7⟩
                  · have d6 : decide (z' < 56320) = true := by simp; omega
                    go_wp2_with (go_at_call 47; refine (new_any _ _).mono ?_; rintro e w5 ⟨rfl, h5⟩)
                    go_ret2
                    exact ⟨_, by first | rfl | (rw [hno.1]; rfl), by intro h; first | cases h | (rw [hno.2] at h; cases h), fun _ => ⟨_, _, rfl⟩, (below_drewN HB.out _).trans (h5.mono (below_drewN HB.out _).size)⟩
                  · have d6 : decide (z' < 56320) = false := by simp; omega
                    have d7 : decide (57343 < z') = true := by simp; omega
                    go_wp2_with (go_at_call 47; refine (new_any _ _).mono ?_; rintro e w5 ⟨rfl, h5⟩)
                    go_ret2
                    exact ⟨_, by first | rfl | (rw [hno.1]; rfl), by intro h; first | cases h | (rw [hno.2] at h; cases h), fun _ => ⟨_, _, rfl⟩, (below_drewN HB.out _).trans (h5.mono (below_drewN HB.out _).size)⟩
                · have h6 : 56320 ≤ v2 ∧ v2 < 57344 := by unfold lone at hy; omega
                  have h8 : 55296 ≤ u ∧ u < 56320 := by have := HZ.out.1; omega
                  have d6 : decide (z' < 56320) = false := by have := HZ2.out; simp; omega
                  have d7 : decide (57343 < z') = false := by have := HZ2.out; simp; omega
                  have hm2 := HM.out.2.1.double HA.out.1 HA.out.2.1 HA2.out.1 HA2.out.2.1 hx' (by rw [← HA.out.2.2, ← HA2.out.2.2]; exact hy)
                  rw [← HA.out.2.2, ← HA2.out.2.2] at hm2
                  have HP : Hid (2 * (u16s (out ++ [pair u v2])).length = i + 4 ∧ MidU s.data.toList (i + 4 + 2) (out ++ [pair u v2]) ∧ vals16 (u16s (out ++ [pair u v2])) = vals16 (u16s out) ++ [.int .u16 z, .int .u16 z'] ∧
                      okc (pair u v2)) := by
                    refine ⟨?_, ?_, ?_, okc_pair h8 h6⟩
                    · rw [u16s_snoc, u16_pair h8 h6, List.length_append, List.length_cons, List.length_cons, List.length_nil]; have := HM.out.1; omega
                    · rw [show i + 4 + 2 = i + 2 + 4 by omega]; exact hm2
                    · rw [u16s_snoc, u16_pair h8 h6, HZ.out.1, HZ2.out]; simp [vals16]
                  clear hm2 hbm hx' h5 hy hu56 h6 h8
                  go_wp2
                  go_quiet (fail)
                  go_wp2_with (at_builtin; refine wpList_append_own _ rfl _ _ 64 rfl w1.heap.size 67 i1 (.int .u16 0) 1 2 Tryz.underlying64 hi1 hy0 hy1 hy2 rfl (by decide) _ _ _ rfl (World.ownsRow.alloc (w := World.drewN _ _) hown _) ⟨wr.heap.size, 0, none⟩ 1 1 [.int .u16 z] rfl rfl (cell_one_new (World.drewN _ _) _ _) (by intro u hu; simp at hu; subst hu; rfl) (by unfold maxLen; omega) (by omega) (by simp; omega) ?_)
                  intro v' w' hown' hgrow' hnil
                  have hnn' : v' ≠ .slice none 0 0 := fun h => hnil h
                  have hB := ((below_drewN HM.out.2.2.2 _).alloc (by simpa using hsz) (.cells #[.int .u16 z] 67)).grown hgrow' (by simp; omega) (fun k hk => (hown.lt k hk).1)
                  have hw' := hB.size
                  have hk2 : w'.cell? ⟨g, 2 + (i + 2), none⟩ = some (.int .u8 x') := (below_cell hB hg).trans HK.out.1
                  have hk3 : w'.cell? ⟨g, 2 + (i + 3), none⟩ = some (.int .u8 y') := (below_cell hB hg).trans HK.out.2
                  have HB : Hid (Below w1.heap.size w1 w') := hB
                  clear hB hgrow' hnil
                  go_wp2
                  have q1 : (i : Int) + 2 ≤ 9223372036854775807 := by omega
                  have q2 : -9223372036854775808 ≤ (i : Int) + 2 := by omega
                  have q3 : 0 ≤ (i : Int) + 2 := by omega
                  have q4 : (i : Int) + 3 ≤ 9223372036854775807 := by omega
                  have q5 : 0 ≤ (i : Int) + 3 := by omega
                  go_quiet (fail)
                  go_wp2_with (at_builtin; refine wpList_append_own _ rfl _ _ 64 rfl w1.heap.size 67 i1 (.int .u16 0) 1 2 Tryz.underlying64 hi1 hy0 hy1 hy2 rfl (by decide) _ _ _ rfl (World.ownsRow.alloc (w := World.drewN _ _) hown' _) ⟨w'.heap.size, 0, none⟩ 1 1 [.int .u16 z'] rfl rfl (cell_one_new (World.drewN _ _) _ _) (by intro u hu; simp at hu; subst hu; rfl) (by unfold maxLen; omega) (by omega) (by simp; omega) ?_)
                  intro v3 w3 hown3 hgrow3 hnil3
                  have hnn3 : v3 ≠ .slice none 0 0 := fun h => hnil3 h
                  have hB3 := ((below_drewN HB.out _).alloc (by simpa using hw') (.cells #[.int .u16 z'] 67)).grown hgrow3 (by simp; omega) (fun k hk => (hown'.lt k hk).1)
                  have hw3 := hB3.size
                  have HB3 : Hid (Below w1.heap.size w1 w3) := hB3
                  clear hB3 hgrow3 hnil3
                  go_wp2
                  go_roundw
                  case rel => exact ⟨i + 4, out ++ [pair u v2], by simp, by omega, by omega, hw3, by rw [show (i + 4) / 2 = i / 2 + 1 + 1 by omega, HP.out.2.2.1]; exact hown3, hnn3, HP.out.1, HP.out.2.1, okc_snoc HM.out.2.2.1 HP.out.2.2.2, HB3.out⟩
                  case measure => simp [intOf]; omega
        · have hie2 : i = n - 2 := by omega
          have hnm := HM.out.2.1
          rw [show i + 2 = s.data.toList.length by have := HN.out.2.2; omega] at hnm
          have hso := narS_some (HN.out.2.1.trans hnm.done)
          have HS : Hid (narS s.data.toList = ⟨(encs out).toArray⟩ ∧ narB s.data.toList = true) := hso
          have hul : (u16s out).length = i / 2 := by have := HM.out.1; omega
          have hol := u16s_many out
          obtain ⟨g1, cap1, rfl⟩ : ∃ g1 cap1, u4 = .slice (some ⟨g1, 0, none⟩) (i / 2) cap1 := by
            rcases Joins.ownsRow_forms hown with ⟨h, _⟩ | h
            · exact absurd h hnn
            · exact h
          have hD := fun (w' : World) (h : w'.ownsRow w1.heap.size 67 1 (.slice (some ⟨g1, 0, none⟩) (i / 2) cap1) (i / 2) (vals16 (u16s out))) => Decode_any out HM.out.2.2.1 (i / 2) g1 cap1 w1.heap.size w' hul.symm (by omega) h
          have HO : Hid (∀ j (h : j < out.length), okc out[j]) := HM.out.2.2.1
          have hlo : out.length ≤ 9000 := by omega
          clear hnm hso hul hnn hol
          subst hie2
          go_wp2_with (first
            | (at_make; refine wpList_make_full _ rfl _ _ 43 rfl wr.heap.size 5 i0 (.int .u8 0) 1 Tryz.underlying43 hi hz0 hz1 .i64 .i64 _ _ 4 rfl rfl (by omega) (by omega) (by rw [hz2]; omega) (by unfold maxLen; omega) (by simp) ?_; intro w2 hown2 hgrow2
               have hs1 : (wr.alloc (.cells #[] 5)).heap.size = wr.heap.size + 1 := by simp
               rw [hs1] at hown2
               have hU : Ub (wr.heap.size + 1) w2 := ub_of_row hown2
               have hd0 : w2.ownsRow w1.heap.size 5 1 (.slice (some ⟨wr.heap.size, 0, none⟩) 0 0) 0 [] := (World.ownsRow_made wr #[] 0 hsz (by unfold maxLen; omega) rfl).kept hgrow2 (by right; simp [Value.ownBlock])
               have hd := hD w2 ((hown.alloc (.cells #[] 5)).kept hgrow2 (by right; simp [Value.ownBlock]))
               have hB2 : Below w1.heap.size w1 w2 := ((HM.out.2.2.2).alloc hsz (.cells #[] 5)).grown hgrow2 (by simp; omega) (fun k hk => by cases hk)
               have HU : Hid (Ub (wr.heap.size + 1) w2 ∧ w2.ownsRow w1.heap.size 5 1 (.slice (some ⟨wr.heap.size, 0, none⟩) 0 0) 0 [] ∧ Below w1.heap.size w1 w2) := ⟨hU, hd0, hB2⟩
               clear hs1 hown2 hgrow2 hD hU hd0 hB2)
            | (go_at_call 48; refine Calls.mono (by with_reducible exact hd) ?_; rintro e w3 ⟨rv, rfl, hrn, hrow, hbr⟩
               obtain ⟨g2, cap2, rfl⟩ : ∃ g2 cap2, rv = .slice (some ⟨g2, 0, none⟩) out.length cap2 := by
                 rcases Joins.ownsRow_forms hrow with ⟨h, _⟩ | h
                 · exact absurd h hrn
                 · exact h
               have hlt2 := HU.out.1.1
               have hg2 := (hrow.lt g2 rfl).1
               have hk1 := hbr.block (wr.heap.size + 1) hlt2
               have HR : Hid (w3.ownsRow w2.heap.size 21 1 (.slice (some ⟨g2, 0, none⟩) out.length cap2) out.length (vals32 out) ∧ Ub (wr.heap.size + 1) w3 ∧ w3.ownsRow w1.heap.size 5 1 (.slice (some ⟨wr.heap.size, 0, none⟩) 0 0) 0 [] ∧ g2 ≠ wr.heap.size + 1 ∧ w1.heap.size ≤ wr.heap.size + 1 ∧ Below w1.heap.size w1 w3) :=
                 ⟨hrow, HU.out.1.of_block hk1 hbr.size, own_of_block HU.out.2.1 (fun k hk => by simp [Value.ownBlock] at hk; subst hk; exact hbr.block _ (by omega)), by omega, by omega, HU.out.2.2.trans (hbr.mono HU.out.2.2.size)⟩
               have hsz3 : w1.heap.size ≤ w3.heap.size := HR.out.2.2.2.2.2.size
               clear hrn hrow hbr hk1 HU hlt2 hg2))
          generalize wr.heap.size = db at HR ⊢
          go_loopw [7, 103] (fun dv kv wq => ∃ (k : Nat), kv = .int .i64 k ∧ k ≤ out.length ∧ w1.heap.size ≤ wq.heap.size ∧ (encs (out.take k)).length ≤ 4 * k ∧ wq.ownsRow w1.heap.size 5 1 dv (encs (out.take k)).length (vals (encs (out.take k))) ∧
              Hid (wq.ownsRow w2.heap.size 21 1 (.slice (some ⟨g2, 0, none⟩) out.length cap2) out.length (vals32 out) ∧ Ub (db + 1) wq ∧ dv.ownBlock ≠ some (db + 1) ∧ g2 ≠ db + 1 ∧ w1.heap.size ≤ db + 1 ∧ Below w1.heap.size w1 wq))
            (fun _ kv _ => out.length - (intOf kv).toNat)
          case atStart => exact ⟨0, rfl, Nat.zero_le _, hsz3, Nat.le_refl _, HR.out.2.2.1, HR.out.1, HR.out.2.1, by simp [Value.ownBlock], HR.out.2.2.2.1, HR.out.2.2.2.2.1, HR.out.2.2.2.2.2⟩
          case round =>
            obtain ⟨k, rfl, hk, hsq, hel, hdown, HQ⟩ := hrel
            by_cases hlt2 : k < out.length
            · have hok := HO.out k hlt2
              have hcell : wr.cell? ⟨g2, k, none⟩ = some (.int .i32 (out[k] : Int)) := own_cell HQ.out.1 k (vals32_at (List.getElem?_eq_getElem hlt2))
              have htk := encs_snoc (out.take k) out[k]
              rw [← take_snoc hlt2] at htk
              obtain ⟨c, hc⟩ : ∃ c, out[k] = c := ⟨_, rfl⟩
              rw [hc] at hok hcell htk
              obtain ⟨z, hz⟩ : ∃ z : Int, z = (c : Int) := ⟨_, rfl⟩
              rw [← hz] at hcell
              obtain ⟨m, L, hL1, hL2, hm4, z0, z1, hL3, hm2⟩ := enc_cells c hok z hz
              have hE := encRune_at (db + 1) m z L hL1 hL2 hm4 z0 z1 wr HQ.out.2.1
              have hone : ∀ u ∈ L, u.oneCell' = true := by rw [hL3]; intro u hu; simp [vals] at hu; obtain ⟨q, _, rfl⟩ := hu; rfl
              have HT : Hid ((encs (out.take (k + 1))).length = (encs (out.take k)).length + m ∧ vals (encs (out.take (k + 1))) = vals (encs (out.take k)) ++ L) := by
                refine ⟨by rw [htk, List.length_append, hm2], by rw [htk, hL3]; simp [vals]⟩
              have HL : Hid (L.length = m * 1 ∧ ∀ u ∈ L, u.oneCell' = true) := ⟨by omega, hone⟩
              obtain ⟨len0, hlen0⟩ : ∃ len0, len0 = (encs (out.take k)).length := ⟨_, rfl⟩
              rw [← hlen0] at hdown hel HT
              clear htk hL1 hL2 hL3 hm2 hok hc hz z0 z1 hone hlen0
              go_wp2_with (first
                | (go_at_call 49; refine Calls.mono (by with_reducible exact hE) ?_; rintro e w4 ⟨rfl, hcs, hU4, hg4, hs4, hb4⟩
                   have hown4 := hdown.kept hg4 (.inr HQ.out.2.2.1)
                   have HW : Hid (w4.ownsRow w2.heap.size 21 1 (.slice (some ⟨g2, 0, none⟩) out.length cap2) out.length (vals32 out) ∧ Ub (db + 1) w4 ∧ Below w1.heap.size w1 w4) :=
                     ⟨HQ.out.1.kept hg4 (.inr (by simp only [Value.ownBlock]; intro h; cases h; exact HQ.out.2.2.2.1 rfl)), hU4, HQ.out.2.2.2.2.2.trans (hb4 _ HQ.out.2.2.2.2.1)⟩
                   have hs5 : w1.heap.size ≤ w4.heap.size := by omega
                   clear hE hdown hU4 hg4 hb4 hs4)
                | (at_builtin; refine wpList_append_own_at _ rfl _ _ 43 rfl w1.heap.size 5 i0 (.int .u8 0) 1 1 Tryz.underlying43 hi hz0 hz1 hz2 rfl (by decide) _ _ _ rfl hown4 ⟨db + 1, 0, none⟩ m 4 L rfl HL.out.1 (by intro j u hu; rw [add_at]; exact hcs j u hu) HL.out.2 (by unfold maxLen; omega) (by omega) (by omega) ?_))
              intro v' w' hown' hgrow' hnil hat
              have hne2 : v'.ownBlock ≠ some (db + 1) := by
                have := HW.out.2.1.1
                rcases hat with h | h
                · rw [h]; exact HQ.out.2.2.1
                · rw [h]; intro e; have := Option.some.inj e; omega
              have hHU := HW.out.2.1.of_block (hgrow'.block (db + 1) HW.out.2.1.1 (fun e => HQ.out.2.2.1 e.symm)) hgrow'.size
              have hHB := HW.out.2.2.grown hgrow' hs5 (fun k hk => (hown4.lt k hk).1)
              have hHR := HW.out.1.kept hgrow' (own_apart HW.out.1 hown4 (by decide))
              have hs6 := hHB.size
              have HF : Hid (w'.ownsRow w2.heap.size 21 1 (.slice (some ⟨g2, 0, none⟩) out.length cap2) out.length (vals32 out) ∧ Ub (db + 1) w' ∧ v'.ownBlock ≠ some (db + 1) ∧ g2 ≠ db + 1 ∧ w1.heap.size ≤ db + 1 ∧ Below w1.heap.size w1 w') :=
                ⟨hHR, hHU, hne2, HQ.out.2.2.2.1, HQ.out.2.2.2.2.1, hHB⟩
              clear hne2 hHU hHB hHR hgrow' hnil hat hown4
              go_wp2
              go_roundw
              case rel => exact ⟨k + 1, by simp, by omega, hs6, by rw [HT.out.1]; omega, by rw [HT.out.1, HT.out.2]; exact hown', HF.out⟩
              case measure => simp [intOf]; omega
            · have hke : k = out.length := by omega
              subst hke
              rw [List.take_length] at hdown
              have hcv := conv_own hdown
              go_wp2
              go_ret2
              exact ⟨_, by first | rfl | (rw [HS.out.1]; rfl), fun _ => rfl, fun h => (by rw [HS.out.2] at h; cases h), HQ.out.2.2.2.2.2⟩

end Go.Proofs.YtgemkjickljedaaGreatDoor
