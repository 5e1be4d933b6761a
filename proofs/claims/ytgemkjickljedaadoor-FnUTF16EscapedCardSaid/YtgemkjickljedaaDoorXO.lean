/- What spec.LiteralBytes answers. Conditions: at most 20000 bytes. -/
import Derived.Test.YtgemkjickljedaaDoorXN
namespace Go.Proofs.YtgemkjickljedaaDoor.Lit
open Go.ChangeShapes Go.WideShapes Go.ChangeAt Go.RowKit

set_option maxHeartbeats 1000000 in
set_option maxRecDepth 100000 in
theorem litBytes_any (s : ByteArray) (w : World) (hs : s.size ≤ 20000) :
    Calls Tryd.prog 18 #[.string s] w fun e w' => ∃ (S : ByteArray) (ok : Bool), e = .returned (.tuple #[.string S, .bool ok]) ∧ (ok = true → rt false s.data.toList = false → S.data.toList = un .n s.data.toList) ∧ (np false s.data.toList = true → ok = true) ∧ Below w.heap.size w w' := by
  have hts := par_size s
  have hR : Rl w.heap.size (par s) 0 (w.alloc (.cells #[.string (par s), .int .i64 0, .int .i64 0, .int .i64 0, .bool false, .bool false] 36)) := by
    constructor <;> go_simp <;> rfl
  have hL := literal_any w.heap.size s (w.alloc (.cells #[.string (par s), .int .i64 0, .int .i64 0, .int .i64 0, .bool false, .bool false] 36)) hR (by simp) hs
  have hL2 : Calls Tryd.prog 36 #[.pointer (some ⟨w.heap.size, 0, none⟩)] (w.alloc (.cells #[.string (par s), .int .i64 0, .int .i64 0, .int .i64 0, .bool false, .bool false] 36)) fun e w' => ∃ S : ByteArray, e = .returned (.string S) ∧ w'.cell? ⟨w.heap.size, 0, none⟩ = some (.string (par s)) ∧
      ((w'.cell? ⟨w.heap.size, 2, none⟩ = some (.int .i64 1) ∧ np false s.data.toList = false) ∨ (∃ k : Int, w'.cell? ⟨w.heap.size, 2, none⟩ = some (.int .i64 0) ∧ w'.cell? ⟨w.heap.size, 1, none⟩ = some (.int .i64 k) ∧ (k = (s.size : Int) + 2 → rt false s.data.toList = false → S.data.toList = un .n s.data.toList) ∧ (np false s.data.toList = true → k = (s.size : Int) + 2))) ∧ Below w.heap.size w w' :=
    hL.mono fun e w' hq => by
      unfold LitQ at hq
      obtain ⟨S, k, bad, h1, h2, h3, h4, h5, h6, hnp, h7⟩ := hq
      refine ⟨S, h1, h2, ?_, ((Below.refl _ _).alloc (Nat.le_refl _) _).trans h7⟩
      rcases h6 with rfl | rfl
      · exact .inr ⟨k, h4, h3, fun hk hr => h5 rfl hk hr, fun h => (hnp h).2⟩
      · refine .inl ⟨h4, ?_⟩
        cases hv : np false s.data.toList with
        | false => rfl
        | true => exact absurd (hnp hv).1 (by decide)
  have hsz : ((⟨#[40]⟩ ++ s ++ ⟨#[41]⟩ : ByteArray).size : Int) = (s.size : Int) + 2 := by
    have : (⟨#[40]⟩ ++ s ++ ⟨#[41]⟩ : ByteArray).size = s.size + 2 := hts
    omega
  clear hR hL hts
  go_enter Tryd.func18, Tryd.ntmps18
  go_wp2_with
    (go_at_call 36; refine Calls.mono (by with_reducible exact hL2) ?_; rintro e w1 ⟨S, rfl, c0, hcs, hB⟩
     have HB : Hid (Below w.heap.size w w1) := hB
     clear hB)
  rcases hcs with ⟨c2, hnp⟩ | ⟨k, c2, c1, hk, hnp⟩
  · have HNP := Lib.hid hnp
    clear hnp
    go_quiet (fail)
    go_wp2
    go_ret2
    exact ⟨_, _, rfl, fun h => (by cases h), fun h => (by rw [HNP.out] at h; cases h), below_drewN HB.out _⟩
  · by_cases hkk : k = (s.size : Int) + 2
    · have d1 : (k == (s.size : Int) + 2) = true := by simp; omega
      have HK : Hid (rt false s.data.toList = false → S.data.toList = un .n s.data.toList) := hk hkk
      have HKK := Lib.hid hkk
      clear hkk hk hnp
      go_quiet (fail)
      go_wp2
      go_ret2
      exact ⟨_, _, rfl, fun _ h => HK.out h, fun _ => (by have := HKK.out; simp; omega), below_drewN HB.out _⟩
    · have d1 : (k == 1 + (s.size : Int) + 1) = false := by simp; omega
      have HNP : Hid (np false s.data.toList = true → False) := fun h => hkk (hnp h)
      clear hkk hk hnp
      go_quiet (fail)
      go_wp2
      go_ret2
      exact ⟨_, _, rfl, fun h => (by cases h), fun h => (HNP.out h).elim, below_drewN HB.out _⟩

end Go.Proofs.YtgemkjickljedaaDoor.Lit
