/- What spec.padded and the package's reader of an entry's fields answer. Conditions: the table of powers of ten reads as it is laid. -/
import Derived.Test.YtnpedhdonfdbmaaDoorEP
import Derived.Test.YtnpedhdonfdbmaaDoorShelf
import Derived.WalkKit
import Derived.ProofKit
import Derived.WalkLawsBesides
import Derived.WalkSpells
import Derived.Lib.Hide
import Derived.BigQuiet
import Derived.WalkSmall
import Derived.ArgAppend
import Derived.Lib.SmallJoins
namespace Go.Proofs.YtnpedhdonfdbmaaDoor
open Go.ChangeShapes Go.WideShapes Go.ChangeAt Go.RowKit Go.Sort

theorem below_grow (w : World) (k : Nat) (os : Array Obj) : Below w.heap.size w (grow (w.drewN k) os) :=
  ⟨rfl, rfl, rfl, by simp [grow], fun i hi => by simp [grow, Array.getElem?_append, hi]⟩
theorem str_ext {a b : ByteArray} (h : a.data.toList = b.data.toList) : a = b := by
  cases a; cases b; simp_all
def PS (d u : Nat) : ByteArray := ⟨(pad d u).toArray⟩
theorem PS_list (d u : Nat) : (PS d u).data.toList = pad d u := by simp [PS]
theorem PS_size {d u : Nat} (h : u < 10 ^ d) (hd : 1 ≤ d) : (PS d u).size = d := by
  have := pad_len h hd
  show (pad d u).toArray.size = d
  simpa using this

set_option maxRecDepth 100000 in
theorem padded_any (u d : Nat) (w : World) (hu : u < 10 ^ d) (hd : 1 ≤ d) (hd2 : d ≤ 10) (hn : (u : Int) ≤ 9223372036854775807) (htab : Lib.TabIs Tryd.prog w "internal/strconv.uint64pow10" .u64 Lib.pow10Tab) :
    Calls Tryd.prog 13 #[.int .i64 u, .int .i64 d] w fun e w' => e = .returned (.string (PS d u)) ∧ Below w.heap.size w w' := by
  have hI := Tryd.strconv_Itoa (u : Int) (by omega) hn w htab
  rw [Lib.itoa_nonneg] at hI
  have hT : Calls Tryd.prog 26 #[.int .i64 u] w fun e w' => e = .returned (.string ⟨(Lib.decDigits u).toArray⟩) ∧ ∃ k os, w' = grow (w.drewN k) os := by
    clear htab
    go_enter Tryd.func26, Tryd.ntmps26
    go_wp2_with (go_at_call 42; refine Calls.mono (by with_reducible exact hI) ?_; rintro e w1 ⟨rfl, k, os, rfl⟩)
    go_ret
    exact ⟨rfl, k, os, rfl⟩
  clear hI htab
  have hpl := pad_len hu hd
  obtain ⟨L, hL⟩ : ∃ L, L = Lib.decDigits u := ⟨_, rfl⟩
  have hP : pad d u = List.replicate (d - L.length) 48 ++ L := by rw [hL]; rfl
  have hLd : L.length ≤ d := by rw [hP, List.length_append, List.length_replicate] at hpl; omega
  rw [← hL] at hT
  obtain ⟨S0, hS0⟩ : ∃ S0 : ByteArray, S0 = ⟨L.toArray⟩ := ⟨_, rfl⟩
  rw [← hS0] at hT
  have HS0 : Hid (S0.data.toList = L) := by show _ = _; rw [hS0]
  have hsz0 : S0.size = L.length := by rw [hS0]; show L.toArray.size = _; simp
  have HP : Hid (pad d u = List.replicate (d - L.length) 48 ++ L) := hP
  obtain ⟨n0, hn0⟩ : ∃ n0, n0 = L.length := ⟨_, rfl⟩
  have HN0 : Hid (n0 = L.length ∧ S0.size = L.length) := ⟨hn0, hsz0⟩
  have hn0d : n0 ≤ d := by omega
  clear hL hS0 hP hpl hLd hsz0 hn0 hu hn
  go_enter Tryd.func13, Tryd.ntmps13
  go_wp2_with (go_at_call 26; refine Calls.mono (by with_reducible exact hT) ?_; rintro e w1 ⟨rfl, k, os, rfl⟩)
  go_loop [5] (fun sv => ∃ (j : Nat) (S : ByteArray), sv = .string S ∧ S.size = j + n0 ∧ j + n0 ≤ d ∧ Hid (S.data.toList = List.replicate j 48 ++ L)) (fun sv => match sv with | .string S => d - S.size | _ => 0)
  case atStart => exact ⟨0, S0, rfl, by have := HN0.out; omega, by omega, by show _ = _; rw [HS0.out]; rfl⟩
  case round =>
    obtain ⟨j, S, rfl, hsz, hjd, HS⟩ := hrel
    by_cases hlt : j + n0 < d
    · have d1 : S.size < d := by omega
      have hsz2 : (⟨#[48]⟩ ++ S : ByteArray).size = j + 1 + n0 := by
        rw [ByteArray.size_append, hsz]; show 1 + _ = _; omega
      have HS2 : Hid ((⟨#[48]⟩ ++ S : ByteArray).data.toList = List.replicate (j + 1) 48 ++ L) := by
        show _ = _
        rw [ByteArray.data_append, Array.toList_append, HS.out, List.replicate_succ]; rfl
      have HZ : Hid (S.size = j + n0) := hsz
      have hb : S.size ≤ 10 := by omega
      clear hsz
      go_wp2
      go_round
      case rel => exact ⟨j + 1, _, rfl, hsz2, by omega, HS2⟩
      case measure => have := HZ.out; simp only [hsz2]; omega
    · have d1 : ¬ S.size < d := by omega
      have hSP : S = PS d u := by
        apply str_ext
        rw [PS_list, HS.out, HP.out, ← HN0.out.1, show d - n0 = j by omega]
      clear hsz
      subst hSP
      go_wp2
      go_ret
      exact ⟨rfl, below_grow w _ _⟩

theorem below_bytes {w w' : World} (h : w' = w ∨ ∃ t, w' = Lib.bytesWorld w 5 t) : Below w.heap.size w w' := by
  rcases h with rfl | ⟨t, rfl⟩
  · exact Below.refl _ _
  · exact Joins.below_bytesWorld _ _ _ _ (Nat.le_refl _)
theorem below_cell {B : Nat} {w w' : World} (h : Below B w w') {a : Addr} (ha : a.block < B) : w'.cell? a = w.cell? a := World.cell?_of_block (h.block a.block ha)

theorem PS_head {d u : Nat} (h : u < 10 ^ d) (hd : 1 ≤ d) : ∃ hh : 0 < (PS d u).size, 48 ≤ ((PS d u)[0]'hh).toNat ∧ ((PS d u)[0]'hh).toNat ≤ 57 := by
  have hs := PS_size h hd
  refine ⟨by omega, ?_⟩
  obtain ⟨c, t, e, h1, h2⟩ := pad_head d u
  have : (PS d u)[0]'(by omega) = c := by
    have h3 : (PS d u).data.toList[0]? = some ((PS d u)[0]'(by omega)) := by
      rw [List.getElem?_eq_getElem (by simpa using (show 0 < (PS d u).size by omega)), Array.getElem_toList]; rfl
    rw [PS_list, e] at h3
    exact (Option.some.inj h3).symm
  rw [this]; exact ⟨h1, h2⟩

theorem digit_any (c : UInt8) (h1 : 48 ≤ c.toNat) (h2 : c.toNat ≤ 57) (w : World) : Calls Tryd.prog 43 #[.int .u8 c.toNat] w fun e w' => e = .returned (.bool true) ∧ w' = w := by
  have d1 : decide (48 ≤ (c.toNat : Int)) = true := by simp; omega
  have d2 : decide ((c.toNat : Int) ≤ 57) = true := by simp; omega
  clear h1 h2
  go_enter Tryd.func43, Tryd.ntmps43
  go_wp2
  go_ret
  exact ⟨rfl, rfl⟩

set_option maxRecDepth 100000 in
set_option maxHeartbeats 1000000 in
theorem decodeSub_any (o n : Nat) (K : ByteArray) (hK : K = ⟨#[102]⟩ ∨ K = ⟨#[110]⟩) (g cap : Nat) (w : World) (ho : o < 10 ^ 10) (hn : n < 10 ^ 5) (hg : g < w.heap.size)
    (h0 : w.cell? ⟨g, 0, none⟩ = some (.string (PS 10 o))) (h1 : w.cell? ⟨g, 1, none⟩ = some (.string (PS 5 n))) (h2 : w.cell? ⟨g, 2, none⟩ = some (.string K)) :
    Calls Tryd.prog 27 #[.slice (some ⟨g, 0, none⟩) 3 cap] w fun e w' => e = .returned (.tuple #[.int .i64 o, .int .i64 n, .string K, .nilIface]) ∧ Below w.heap.size w w' := by
  obtain ⟨hs0, hd1, hd2⟩ := PS_head ho (by decide)
  have hsA := PS_size ho (by decide)
  have hsB := PS_size hn (by decide)
  have hP := fun w => Tryd.strconv_ParseInt_10_at64_ok (PS 10 o) (by omega) (o : Int) (by rw [PS_list]; exact int_pad 10 o (by omega)) w
  have hA := fun w => Tryd.strconv_Atoi_ok (PS 5 n) (by omega) (n : Int) (by rw [PS_list]; exact atoi_pad 5 n (by omega)) w
  obtain ⟨A, hAA⟩ : ∃ A, PS 10 o = A := ⟨_, rfl⟩
  obtain ⟨B, hBB⟩ : ∃ B, PS 5 n = B := ⟨_, rfl⟩
  simp only [hAA] at hs0 hd1 hd2 hsA hP h0
  simp only [hBB] at hsB hA h1
  have hD := fun w => digit_any (A[0]'hs0) hd1 hd2 w
  clear ho hn hd1 hd2 hAA hBB
  rcases hK with rfl | rfl
  all_goals (
    go_enter Tryd.func27, Tryd.ntmps27
    go_wp2_with (fail)
    go_loop [6] (fun v => v = .string A) (fun _ => 0)
    case atStart => rfl
    case round =>
      subst hrel
      go_wp2_with (first
        | (go_at_call 43; refine Calls.mono (by with_reducible exact hD _) ?_; rintro e w1 ⟨rfl, rfl⟩)
        | (go_at_call 44; refine Calls.mono (by with_reducible exact hP _) ?_; rintro e w2 ⟨rfl, hw⟩
           have b2 := below_bytes hw
           have g1 := (below_cell b2 (a := ⟨g, 1, none⟩) hg).trans h1
           have g2 := (below_cell b2 (a := ⟨g, 2, none⟩) hg).trans h2
           have B2 : Hid (Below w1.heap.size w1 w2) := b2
           clear b2 hw hP)
        | (go_at_call 16; refine Calls.mono (by with_reducible exact hA _) ?_; rintro e w3 ⟨rfl, hw⟩
           have b3 := B2.out.trans ((below_bytes hw).mono B2.out.size)
           have g3 := (below_cell b3 (a := ⟨g, 2, none⟩) hg).trans h2
           have B3 : Hid (Below w1.heap.size w1 w3) := b3
           clear b3 hw hA))
      exact bodyPost_ret (v := .tuple #[.int .i64 o, .int .i64 n, .string _, .nilIface]) (by simp [results, Tryd.results27, go_sem]) rfl ⟨rfl, B3.out⟩)

theorem decodeZz_any (o n : Nat) (K : ByteArray) (hK : K = ⟨#[102]⟩ ∨ K = ⟨#[110]⟩) (g cap : Nat) (w : World) (ho : o < 10 ^ 10) (hn : n < 10 ^ 5) (hg : g < w.heap.size)
    (h0 : w.cell? ⟨g, 0, none⟩ = some (.string (PS 10 o))) (h1 : w.cell? ⟨g, 1, none⟩ = some (.string (PS 5 n))) (h2 : w.cell? ⟨g, 2, none⟩ = some (.string K)) :
    Calls Tryd.prog 14 #[.slice (some ⟨g, 0, none⟩) 3 cap] w fun e w' => e = .returned (.tuple #[.int .i64 o, .int .i64 n, .string K, .nilIface]) ∧ Below w.heap.size w w' := by
  have hh := decodeSub_any o n K hK g cap w ho hn hg h0 h1 h2
  clear hK ho hn hg h0 h1 h2
  go_enter Tryd.func14, Tryd.ntmps14
  go_wp2_with (go_at_call 27; refine Calls.mono (by with_reducible exact hh) ?_; rintro e w3 ⟨rfl, h3⟩)
  exact bodyPost_ret (v := .tuple #[.int .i64 o, .int .i64 n, .string K, .nilIface]) (by simp [results, Tryd.results14, go_sem]) rfl ⟨rfl, h3⟩

/-- What impl.DecodeEntry answers. -/
theorem decodeEntry_any (o n : Nat) (K : ByteArray) (hK : K = ⟨#[102]⟩ ∨ K = ⟨#[110]⟩) (w : World) (ho : o < 10 ^ 10) (hn : n < 10 ^ 5) :
    Calls Tryd.prog 7 #[.agg #[.string (PS 10 o), .string (PS 5 n), .string K]] w fun e w' => e = .returned (.tuple #[.int .i64 o, .int .i64 n, .string K, .bool true]) ∧ Below w.heap.size w w' := by
  obtain ⟨A, hA⟩ : ∃ A, PS 10 o = A := ⟨_, rfl⟩
  obtain ⟨B, hB⟩ : ∃ B, PS 5 n = B := ⟨_, rfl⟩
  have hh := fun (w' : World) hg h0 h1 h2 => decodeZz_any o n K hK w.heap.size 3 w' ho hn hg h0 h1 h2
  rw [hA, hB] at hh ⊢
  have hD := hh (w.alloc (.cells #[.string A, .string B, .string K] 27)) (by simp) (by go_simp) (by go_simp) (by go_simp)
  clear hh hA hB hK ho hn
  go_enter Tryd.func7, Tryd.ntmps7
  go_wp2_with (go_at_call 14; refine Calls.mono (by with_reducible exact hD) ?_; rintro e w3 ⟨rfl, h3⟩)
  go_quiet (fail)
  go_wp2
  exact bodyPost_ret (v := .tuple #[.int .i64 o, .int .i64 n, .string K, .bool true]) (by simp [results, Tryd.results7, go_sem]) rfl ⟨rfl, below_drewN (((Below.refl _ _).alloc (Nat.le_refl _) _).trans (h3.mono (by simp))) _⟩

end Go.Proofs.YtnpedhdonfdbmaaDoor
