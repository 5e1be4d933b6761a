/- What types.EncodeUTF16String and impl.UTF16Of answer of the code points of a text. Conditions: at most 4096 code points. -/
import Derived.Test.YtgemkjickljedaaGreatDoorUO
import Derived.Laws.IdiomStrings
namespace Go.Proofs.YtgemkjickljedaaGreatDoor
open Go.ChangeShapes Go.WideShapes Go.ChangeAt Go.RowKit

def be2 (u : Nat) : List UInt8 := [UInt8.ofNat (u / 256), UInt8.ofNat (u % 256)]
/-- UTF-16BE behind its mark. -/
def wide (cs : List Nat) : List UInt8 := [254, 255] ++ (u16s cs).flatMap be2

theorem unit_lt (cs : List Nat) (hok : ∀ j (h : j < cs.length), okc cs[j]) : ∀ u ∈ u16s cs, u < 65536 := by
  intro u hu
  unfold u16s at hu
  obtain ⟨c, hc, hu⟩ := List.mem_flatMap.1 hu
  obtain ⟨j, hj, rfl⟩ := List.getElem_of_mem hc
  have := hok j hj
  unfold okc at this
  unfold cunits at hu
  split at hu
  · simp at hu; omega
  · simp at hu; omega

theorem and16 (x : Nat) (hx : x < 65536) : bits .and .u16 (x : Int) 255 = ((x % 256 : Nat) : Int) := by
  have h1 : (BitVec.ofInt 16 (x : Int)).toNat = x := by
    rw [BitVec.ofInt_natCast, BitVec.toNat_ofNat]; exact Nat.mod_eq_of_lt (by omega)
  have h2 : (BitVec.ofInt 16 (255 : Int)).toNat = 255 := by decide
  have h3 : x &&& 255 = x % 256 := Nat.and_two_pow_sub_one_eq_mod x 8
  show IntKind.u16.wrap ((BitVec.ofInt 16 (x : Int) &&& BitVec.ofInt 16 (255 : Int)).toNat : Int) = _
  rw [BitVec.toNat_and, h1, h2, h3]
  have : (x % 256 : Nat) < 256 := Nat.mod_lt _ (by decide)
  simp [IntKind.wrap, IntKind.signed, IntKind.bits]
  omega

theorem runes_row (s : ByteArray) (cs : List Nat) (hr : Conv.runesFrom s s.size 0 #[] = (vals32 cs).toArray) (hl : cs.length ≤ 4096) (w : World) :
    ∃ cap w0, (convert 9 66 (.string s)).run Tryz.prog w = .ok (.slice (some ⟨w.heap.size, 0, none⟩) cs.length cap) w0 ∧ w0.ownsRow w.heap.size 21 1 (.slice (some ⟨w.heap.size, 0, none⟩) cs.length cap) cs.length (vals32 cs) ∧ Below w.heap.size w w0 := by
  have hsz : (Conv.runesFrom s s.size 0 #[]).size = cs.length := by rw [hr]; simp [vals32]
  have h := run_runes_of_string (P := Tryz.prog) w 9 66 21 s Tryz.underlying9 Tryz.underlying66 Tryz.underlying21 (by rw [hsz]; omega)
  rw [hsz, hr] at h
  have hge := grownCap_ge w cs.length 0 21
  refine ⟨_, _, h, ⟨by rw [vals32_len]; omega, .inr ⟨w.heap.size, _, _, rfl, Nat.le_refl _, heap_alloc_new w.drew _, hge, grownCap_le_maxLen w _ 0 21 (by unfold maxLen; omega), ?_, ?_⟩⟩, (below_drewN (Below.refl w.heap.size w) 1).alloc (Nat.le_refl _) _⟩
  · simp [vals32]; omega
  · have hvl := vals32_len cs
    rw [Array.toList_append, List.toList_toArray, Nat.mul_one, ← hvl]
    exact List.take_left

set_option maxHeartbeats 4000000 in
set_option maxRecDepth 100000 in
theorem encStr_any (s : ByteArray) (cs : List Nat) (hr : Conv.runesFrom s s.size 0 #[] = (vals32 cs).toArray) (hok : ∀ j (h : j < cs.length), okc cs[j]) (hl : cs.length ≤ 4096) (w : World) :
    Calls Tryz.prog 26 #[.string s] w fun e w' => e = .returned (.string ⟨(wide cs).toArray⟩) ∧ Below w.heap.size w w' := by
  obtain ⟨i0, hi, hz0, hz1, hz2⟩ := info_parts Tryz.info5
  obtain ⟨cap, w0, hcv, hrow, hb0⟩ := runes_row s cs hr hl w
  have hE := Encode_any cs hok cs.length w.heap.size cap w.heap.size w0 rfl hl hrow
  have htw := u16s_twice cs
  have HU : Hid (∀ u ∈ u16s cs, u < 65536) := unit_lt cs hok
  clear hrow hok hr
  go_enter Tryz.func26, Tryz.ntmps26
  go_wp2_with
    (go_at_call 42; refine Calls.mono (by with_reducible exact hE) ?_; rintro e w1 ⟨g, m, cap1, hm, rfl, hun, hb1⟩
     have hgw := (hun.lt g rfl).2
     have hsz1 : w.heap.size ≤ w1.heap.size := (hb0.trans (hb1.mono hb0.size)).size
     have HM : Hid (m = (u16s cs).length ∧ w1.ownsRow w0.heap.size 67 1 (.slice (some ⟨g, 0, none⟩) m m) m (vals16 (u16s cs)) ∧ Below w.heap.size w w1 ∧ g < w1.heap.size ∧ w.heap.size ≤ w1.heap.size) := ⟨hm, hun, hb0.trans (hb1.mono hb0.size), hgw, hsz1⟩
     have hm2 : m ≤ 8192 := by omega
     clear hE hm hun hb0 hb1 hcv hgw)
  have hbb := World.ownsRow_lit (base := w1.heap.size) (e := 5) (size := 1) w1 #[.int .u8 254, .int .u8 255] 2 (Nat.le_refl _) (by unfold maxLen; omega) rfl
  go_loopw [4, 13] (fun bv kv wr => ∃ (k : Nat), kv = .int .i64 k ∧ k ≤ m ∧ w1.heap.size ≤ wr.heap.size ∧ wr.ownsRow w1.heap.size 5 1 bv (2 + 2 * k) (vals ([254, 255] ++ ((u16s cs).take k).flatMap be2)) ∧
      Hid (Below w1.heap.size w1 wr)) (fun _ kv _ => m - (intOf kv).toNat)
  case atStart => exact ⟨0, rfl, Nat.zero_le _, by simp, by simpa [vals] using hbb, (Below.refl _ _).alloc (Nat.le_refl _) _⟩
  case round =>
    obtain ⟨k, rfl, hk, hsz, hown, HB⟩ := hrel
    by_cases hlt : k < m
    · have hlt' : k < (u16s cs).length := by have := HM.out.1; omega
      have hcell : wr.cell? ⟨g, k, none⟩ = some (.int .u16 ((u16s cs)[k] : Int)) := (below_cell HB.out HM.out.2.2.2.1).trans (own_cell (cap := m) HM.out.2.1 k (vals16_at (List.getElem?_eq_getElem hlt')))
      have hlu := HU.out (u16s cs)[k] (List.getElem_mem hlt')
      have htk : (u16s cs).take (k + 1) = (u16s cs).take k ++ [(u16s cs)[k]] := by simp
      obtain ⟨u, hu⟩ : ∃ u, (u16s cs)[k] = u := ⟨_, rfl⟩
      rw [hu] at hcell hlu htk
      obtain ⟨z, hz⟩ : ∃ z : Int, z = (u : Int) := ⟨_, rfl⟩
      obtain ⟨x, hx⟩ : ∃ x : Int, x = ((u / 256 : Nat) : Int) := ⟨_, rfl⟩
      have hy : z % 256 = ((u % 256 : Nat) : Int) := by omega
      rw [← hz] at hcell
      have a1 : Value.int .u16 (bits .and .u16 z 255) = .int .u16 (z % 256) := by rw [hy, hz, and16 u hlu]
      have a2 : z / 256 = x := by omega
      have HV : Hid (vals ([254, 255] ++ ((u16s cs).take (k + 1)).flatMap be2) = vals ([254, 255] ++ ((u16s cs).take k).flatMap be2) ++ [.int .u8 x, .int .u8 (z % 256)]) := by
        show vals _ = _
        rw [htk, hx, hy]
        have e1 : u / 256 % 256 = u / 256 := Nat.mod_eq_of_lt (by omega)
        simp [vals, be2]
        omega
      have z0 : 0 ≤ z := by omega
      have z1 : z < 65536 := by omega
      have x0 : 0 ≤ x := by omega
      have x1 : x < 256 := by omega
      clear htk hu hz hx hy hlu
      go_wp2_with (at_builtin; refine wpList_append_own _ rfl _ _ 43 rfl w1.heap.size 5 i0 (.int .u8 0) 1 1 Tryz.underlying43 hi hz0 hz1 hz2 rfl (by decide) _ _ _ rfl (hown.alloc _) ⟨wr.heap.size, 0, none⟩ 2 2 [.int .u8 x, .int .u8 (z % 256)] rfl rfl (cell_two_new _ _ _ _) (by intro u hu; simp at hu; rcases hu with rfl | rfl <;> rfl) (by unfold maxLen; omega) (by omega) (by simp; omega) ?_)
      intro v' w' hown' hgrow' hnil
      have hB := (HB.out.alloc hsz (.cells #[.int .u8 x, .int .u8 (z % 256)] 5)).grown hgrow' (by simp; omega) (fun k hk => (hown.lt k hk).1)
      have hw' := hB.size
      have HB2 : Hid (Below w1.heap.size w1 w') := hB
      clear hB hgrow' hnil
      go_wp2
      go_roundw
      case rel => exact ⟨k + 1, by simp, by omega, hw', by rw [HV.out, show 2 + 2 * (k + 1) = 2 + 2 * k + 2 by omega]; exact hown', HB2.out⟩
      case measure => simp [intOf]; omega
    · have hkm : k = m := by omega
      subst hkm
      have hf : vals ([254, 255] ++ ((u16s cs).take k).flatMap be2) = vals (wide cs) := by
        rw [HM.out.1, List.take_length]; rfl
      rw [hf] at hown
      have hwl : 2 + 2 * k = (wide cs).length := by
        have := hown.1; rw [show (vals (wide cs)).length = (wide cs).length by simp [vals]] at this; omega
      rw [hwl] at hown
      have hcv := conv_own hown
      clear hf hwl
      go_wp2
      go_ret
      exact ⟨rfl, HM.out.2.2.1.trans (HB.out.mono HM.out.2.2.2.2)⟩

theorem of16_any (s : ByteArray) (cs : List Nat) (hr : Conv.runesFrom s s.size 0 #[] = (vals32 cs).toArray) (hok : ∀ j (h : j < cs.length), okc cs[j]) (hl : cs.length ≤ 4096) (w : World) :
    Calls Tryz.prog 12 #[.string s] w fun e w' => e = .returned (.string ⟨(wide cs).toArray⟩) ∧ Below w.heap.size w w' := by
  have hh := encStr_any s cs hr hok hl w
  clear hr hok
  go_enter Tryz.func12, Tryz.ntmps12
  go_wp2_with (go_at_call 26; refine Calls.mono (by with_reducible exact hh) ?_; rintro e w1 ⟨rfl, h1⟩)
  go_ret
  exact ⟨rfl, h1⟩

end Go.Proofs.YtgemkjickljedaaGreatDoor
