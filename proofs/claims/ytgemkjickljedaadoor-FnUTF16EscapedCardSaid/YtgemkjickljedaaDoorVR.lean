/- What spec.unit16 and spec.Wide answer. Conditions: at most 2147483647 code points; the tables of unicode/utf8 are laid. -/
import Derived.Test.YtgemkjickljedaaDoorVQ
import Derived.Test.YtgemkjickljedaaDoorVShelf
import Derived.Test.YtgemkjickljedaaDoorUM
namespace Go.Proofs.YtgemkjickljedaaDoor
open Go.ChangeShapes Go.WideShapes Go.ChangeAt Go.RowKit

set_option maxRecDepth 100000 in
theorem unit16_any (u : Nat) (hu : u < 65536) (w : World) : Calls Tryd.prog 39 #[.int .i64 (u : Int)] w fun e w' => e = .returned (.string ⟨(be2 u).toArray⟩) ∧ Below w.heap.size w w' := by
  obtain ⟨z, hz⟩ : ∃ z : Int, z = (u : Int) := ⟨_, rfl⟩
  obtain ⟨x, hx⟩ : ∃ x : Int, x = ((u / 256 : Nat) : Int) := ⟨_, rfl⟩
  obtain ⟨y, hy⟩ : ∃ y : Int, y = ((u % 256 : Nat) : Int) := ⟨_, rfl⟩
  have hown := World.ownsRow_lit (base := w.heap.size) (e := 5) (size := 1) w #[.int .u8 x, .int .u8 y] 2 (Nat.le_refl _) (by unfold maxLen; omega) rfl
  have hv : (#[.int .u8 x, .int .u8 y] : Array Value).toList = vals (be2 u) := by
    have e1 : u / 256 % 256 = u / 256 := Nat.mod_eq_of_lt (by omega)
    simp [vals, be2, hx, hy]
    omega
  rw [hv] at hown
  have hcv := conv_own (l := be2 u) hown
  have a2 : z / 256 = x := by omega
  have a3 : z % 256 = y := by omega
  have a4 : x % 256 = x := by omega
  have z0 : 0 ≤ z := by omega
  have z1 : z < 65536 := by omega
  have HB : Hid (Below w.heap.size w (w.alloc (.cells #[.int .u8 x, .int .u8 y] 5))) := (Below.refl _ _).alloc (Nat.le_refl _) _
  rw [← hz]
  clear hz hx hy hv hown hu
  go_enter Tryd.func39, Tryd.ntmps39
  go_wp2
  go_ret
  exact ⟨rfl, HB.out⟩

theorem and64 (x : Nat) (hx : x < 1048576) : bits .and .i64 (x : Int) 1023 = ((x % 1024 : Nat) : Int) := by
  have h1 : (BitVec.ofInt 64 (x : Int)).toNat = x := by
    rw [BitVec.ofInt_natCast, BitVec.toNat_ofNat]; exact Nat.mod_eq_of_lt (by omega)
  have h2 : (BitVec.ofInt 64 (1023 : Int)).toNat = 1023 := by decide
  have h3 : x &&& 1023 = x % 1024 := Nat.and_two_pow_sub_one_eq_mod x 10
  show IntKind.i64.wrap ((BitVec.ofInt 64 (x : Int) &&& BitVec.ofInt 64 (1023 : Int)).toNat : Int) = _
  rw [BitVec.toNat_and, h1, h2, h3, IntKind.wrap_i64]
  omega
theorem wide_snoc (l : List Nat) (c : Nat) : wide (l ++ [c]) = wide l ++ (cunits c).flatMap be2 := by simp [wide, u16s_snoc]

set_option maxHeartbeats 2000000 in
set_option maxRecDepth 100000 in
theorem wide_any (s : ByteArray) (cs : List Nat) (hR : Rs s.data.toList cs) (hl : cs.length ≤ 2147483647) (w : World) (hV : Calls Tryd.prog 38 #[.string s] w fun e w' => e = .returned (.bool true) ∧ Below w.heap.size w w') :
    Calls Tryd.prog 21 #[.string s] w fun e w' => e = .returned (.tuple #[.string ⟨(wide cs).toArray⟩, .bool true]) ∧ Below w.heap.size w w' := by
  have HR := Lib.hid hR
  have HL := Lib.hid hl
  clear hR hl
  go_enter Tryd.func21, Tryd.ntmps21
  go_wp2_with (go_at_call 38; refine Calls.mono (by with_reducible exact hV) ?_; rintro e w1 ⟨rfl, hb1⟩
               have HB1 := Lib.hid hb1
               clear hb1 hV)
  go_loopw [4] (fun ov wr => ∃ (S : ByteArray) (pos : Nat), ov = .string S ∧ wr.heap[w1.heap.size]? = some (.stringIter s pos) ∧ Hid (∃ pre suf, cs = pre ++ suf ∧ S.data.toList = wide pre ∧ Rs (s.data.toList.drop pos) suf ∧ Below w1.heap.size w1 wr)) (fun _ wr => s.size - wr.iterPos w1.heap.size)
  case atStart => exact ⟨_, 0, rfl, World.iter_heap w1 s 0, [], cs, rfl, rfl, by simpa using HR.out, (Below.refl _ _).alloc (Nat.le_refl _) _⟩
  case round =>
    obtain ⟨S, pos, rfl, hit, HM⟩ := hrel
    have hpos0 := iterPos_of hit
    by_cases hp : pos < s.size
    · have hnx : ∀ ty, (Instr.next (.pointer (some ⟨w1.heap.size, 0, none⟩)) true ty).run Tryd.prog wr = _ := fun ty => Lib.run_next_any_at wr w1.heap.size s pos ty hit hp
      have hit2 := Lib.iterAt_heap wr w1.heap.size s pos (pos + (Utf8.decode s pos).2) hit
      have hwd := Lib.width_pos s pos
      obtain ⟨pre, suf, hcs, hS, hRs, hbw⟩ := HM.out
      have hbw2 := Lib.below_iterAt hbw (k := w1.heap.size) (Nat.le_refl _) s (pos + (Utf8.decode s pos).2)
      obtain ⟨W1, hW1⟩ : ∃ W1, W1 = wr.iterAt w1.heap.size s (pos + (Utf8.decode s pos).2) := ⟨_, rfl⟩
      rw [← hW1] at hnx hit2 hbw2
      obtain ⟨L, hL⟩ : ∃ L, s.data.toList.drop pos = L := ⟨_, rfl⟩
      rw [hL] at hRs
      cases hRs with
      | nil =>
        exfalso
        have := congrArg List.length hL
        simp at this; omega
      | @cons _ c t hne hd ho he ht =>
        subst hL
        rw [Lib.decodeL_drop] at hd
        have hc : ((Utf8.decode s pos).1 : Int) = (c : Int) := by rw [hd]
        obtain ⟨ci, hci⟩ : ∃ ci : Int, ci = (c : Int) := ⟨_, rfl⟩
        rw [hc, ← hci] at hnx
        rw [List.drop_drop] at ht
        have hk : (Utf8.decode s pos).2 = (enc c).length := by rw [hd]
        have HN : Hid (∀ (U : ByteArray), U.data.toList = S.data.toList ++ (cunits c).flatMap be2 → ∃ pre suf, cs = pre ++ suf ∧ U.data.toList = wide pre ∧ Rs (s.data.toList.drop (pos + (Utf8.decode s pos).2)) suf) := fun U hU => by
          refine ⟨pre ++ [c], t, by rw [hcs]; simp, ?_, by rw [hk]; exact ht⟩
          rw [hU, hS, wide_snoc]
        have HB2 := Lib.hid hbw2
        have HIT := Lib.hid hit2
        have HW : Hid (wr.iterPos w1.heap.size = pos ∧ 1 ≤ (Utf8.decode s pos).2 ∧ pos < s.size) := ⟨hpos0, hwd, hp⟩
        have hSz : S.size ≤ 20000000000 := by
          have h1 := congrArg List.length hS
          have h2 := wide_len pre
          have h3 := u16s_twice pre
          have h4 := congrArg List.length hcs
          have h5 := HL.out
          simp at h1 h4
          omega
        unfold okc at ho
        have hlW : w1.heap.size < W1.heap.size := (Array.getElem?_eq_some_iff.1 hit2).1
        clear hbw2 hit2 hbw hcs hS he hne hd ht hk hc hit hpos0 hwd HM HR hW1
        by_cases h16 : c < 65536
        · have d1 : decide (ci < 65536) = true := by simp; omega
          have hC := fun w => unit16_any c h16 w
          obtain ⟨U, hU⟩ : ∃ U, (⟨(be2 c).toArray⟩ : ByteArray) = U := ⟨_, rfl⟩
          have hUs : U.size = 2 := by rw [← hU]; rfl
          have HUL : Hid (U.data.toList = be2 c) := by
            show U.data.toList = _
            rw [← hU]
          rw [← hci, hU] at hC
          clear hU
          have c0 : 0 ≤ ci := by omega
          have c1 : ci < 65536 := by omega
          have HU : Hid (cunits c = [c]) := u16_bmp h16
          clear ho hci h16
          go_wp2_with (go_at_call 39; refine Calls.mono (by with_reducible exact hC _) ?_; rintro e w3 ⟨rfl, hb3⟩
                       have hit3 := (hb3.block w1.heap.size hlW).trans HIT.out
                       have HB3 : Hid (Below w1.heap.size w1 w3) := HB2.out.trans (hb3.mono HB2.out.size)
                       clear hb3 hnx)
          go_roundw
          case rel =>
            obtain ⟨pre2, suf2, k1, k2, k3⟩ := HN.out (S ++ U) (by rw [HU.out]; simp [HUL.out])
            exact ⟨_, _, rfl, hit3, pre2, suf2, k1, k2, k3, HB3.out⟩
          case measure => rw [iterPos_of hit3, HW.out.1]; have := HW.out.2; omega
        · have d1 : decide (ci < 65536) = false := by simp; omega
          obtain ⟨x, hx⟩ : ∃ x, 55296 + (c - 65536) / 1024 = x := ⟨_, rfl⟩
          obtain ⟨y, hy⟩ : ∃ y, 56320 + (c - 65536) % 1024 = y := ⟨_, rfl⟩
          have HU : Hid (cunits c = [x, y]) := by
            show cunits c = _
            rw [← hx, ← hy]; simp [cunits, h16]
          have hC1 := fun w => unit16_any x (by omega) w
          have hC2 := fun w => unit16_any y (by omega) w
          obtain ⟨xi, hxi⟩ : ∃ xi : Int, xi = (x : Int) := ⟨_, rfl⟩
          obtain ⟨yi, hyi⟩ : ∃ yi : Int, yi = (y : Int) := ⟨_, rfl⟩
          obtain ⟨yl, hyl⟩ : ∃ yl : Int, yl = (((c - 65536) % 1024 : Nat) : Int) := ⟨_, rfl⟩
          obtain ⟨xl, hxl⟩ : ∃ xl : Int, xl = (((c - 65536) / 1024 : Nat) : Int) := ⟨_, rfl⟩
          obtain ⟨U, hU⟩ : ∃ U, (⟨(be2 x).toArray⟩ : ByteArray) = U := ⟨_, rfl⟩
          have hUs : U.size = 2 := by rw [← hU]; rfl
          have HUL : Hid (U.data.toList = be2 x) := by
            show U.data.toList = _
            rw [← hU]
          obtain ⟨V, hV⟩ : ∃ V, (⟨(be2 y).toArray⟩ : ByteArray) = V := ⟨_, rfl⟩
          have hVs : V.size = 2 := by rw [← hV]; rfl
          have HVL : Hid (V.data.toList = be2 y) := by
            show V.data.toList = _
            rw [← hV]
          rw [← hxi, hU] at hC1
          rw [← hyi, hV] at hC2
          clear hU hV
          have a1 : Value.int .i64 (bits .and .i64 (ci - 65536) 1023) = .int .i64 yl := by
            rw [show ci - 65536 = ((c - 65536 : Nat) : Int) by omega, and64 _ (by omega), hyl]
          have a2 : (ci - 65536) / 1024 = xl := by omega
          have a3 : 55296 + xl = xi := by omega
          have a4 : 56320 + yl = yi := by omega
          have b1 : 0 ≤ xl := by omega
          have b2 : xl < 1024 := by omega
          have b3 : 0 ≤ yl := by omega
          have b4 : yl < 1024 := by omega
          have c0 : 65536 ≤ ci := by omega
          have c1 : ci < 1114112 := by omega
          clear ho hci h16 hx hy hxi hyi hyl hxl
          go_wp2_with (first
            | (go_at_call 39; refine Calls.mono (by with_reducible exact hC1 _) ?_; rintro e w3 ⟨rfl, hb3⟩
               have hit3 := (hb3.block w1.heap.size hlW).trans HIT.out
               have HB3 : Hid (Below w1.heap.size w1 w3) := HB2.out.trans (hb3.mono HB2.out.size)
               have hlW3 : w1.heap.size < w3.heap.size := Nat.lt_of_lt_of_le hlW hb3.size
               clear hb3 hnx)
            | (go_at_call 39; refine Calls.mono (by with_reducible exact hC2 _) ?_; rintro e w4 ⟨rfl, hb4⟩
               have hit4 := (hb4.block w1.heap.size hlW3).trans hit3
               have HB4 : Hid (Below w1.heap.size w1 w4) := HB3.out.trans (hb4.mono HB3.out.size)
               clear hb4))
          go_roundw
          case rel =>
            obtain ⟨pre2, suf2, k1, k2, k3⟩ := HN.out (S ++ (U ++ V)) (by rw [HU.out]; simp [HUL.out, HVL.out])
            exact ⟨_, _, rfl, hit4, pre2, suf2, k1, k2, k3, HB4.out⟩
          case measure => rw [iterPos_of hit4, HW.out.1]; have := HW.out.2; omega
    · have hnx : ∀ ty, (Instr.next (.pointer (some ⟨w1.heap.size, 0, none⟩)) true ty).run Tryd.prog wr = _ := fun ty => Lib.run_next_end_at wr w1.heap.size s pos ty hit hp
      have HS : Hid (S = ⟨(wide cs).toArray⟩ ∧ Below w1.heap.size w1 wr) := by
        obtain ⟨pre, suf, hcs, hS, hRs, hbw⟩ := HM.out
        have hnil : s.data.toList.drop pos = [] := List.drop_eq_nil_of_le (by simpa using hp)
        rw [hnil] at hRs
        cases hRs with
        | nil => exact ⟨str_ext (by rw [hS, hcs]; simp), hbw⟩
        | cons hne => exact absurd rfl hne
      obtain ⟨rfl, hbS⟩ := HS.out
      have HBS := Lib.hid hbS
      clear HM hbS HS
      go_wp2
      go_ret2
      exact ⟨rfl, HB1.out.trans (HBS.out.mono HB1.out.size)⟩

set_option maxRecDepth 100000 in
theorem wide_no (s : ByteArray) (w : World) (hV : Calls Tryd.prog 38 #[.string s] w fun e w' => e = .returned (.bool false) ∧ Below w.heap.size w w') :
    Calls Tryd.prog 21 #[.string s] w fun e w' => e = .returned (.tuple #[.string ⟨#[]⟩, .bool false]) ∧ Below w.heap.size w w' := by
  go_enter Tryd.func21, Tryd.ntmps21
  go_wp2_with (go_at_call 38; refine Calls.mono (by with_reducible exact hV) ?_; rintro e w1 ⟨rfl, hb1⟩
               have HB1 := Lib.hid hb1
               clear hb1 hV)
  go_ret2
  exact ⟨rfl, HB1.out⟩

end Go.Proofs.YtgemkjickljedaaDoor
