/- What impl.Unescape answers, and the law FnUnescape. Conditions: none. -/
import Derived.Test.YtgemkjickljedaaDoorLU
import Derived.Test.YtgemkjickljedaaDoorLO
namespace Go.Proofs.YtgemkjickljedaaDoor
open Go.ChangeShapes Go.WideShapes Go.ChangeAt Go.RowKit

theorem implUn_any (s : ByteArray) (w : World) (hs : s.size ≤ 4096) :
    Calls Tryd.prog 20 #[.string s] w fun e w' => ∃ v, e = .returned (.tuple #[v, .bool true]) ∧ (convert 22 9 v).run Tryd.prog w' = .ok (.string ⟨(un .n s.data.toList).toArray⟩) w' ∧ Below w.heap.size w w' := by
  have hu := unesc_any s w hs
  clear hs
  generalize un .n s.data.toList = R at hu ⊢
  go_enter Tryd.func20, Tryd.ntmps20
  go_wp2_with (go_at_call 37; refine Calls.mono (by with_reducible exact hu) ?_; rintro e w1 ⟨v, rfl, hv, hb⟩; have HV : Hid (w1.ownsRow w.heap.size 5 1 v R.length (vals R) ∧ Below w.heap.size w w1) := ⟨hv, hb⟩; clear hv hb)
  go_quiet (fail)
  go_wp2
  go_ret2
  exact ⟨v, rfl, conv_own HV.out.1, below_drewN HV.out.2 _⟩

set_option maxRecDepth 100000 in
set_option maxHeartbeats 1000000 in
theorem law_un (s : ByteArray) (w : World) : Calls Tryd.prog 6 #[.string s] w fun e w' => e = .returned (.bool true) ∧ Below w.heap.size w w' := by
  by_cases h1 : 2147483647 < s.size
  · have d1 : decide (2147483647 < (s.size : Int)) = true := by simp; omega
    clear h1
    go_enter Tryd.func6, Tryd.ntmps6
    go_wp2
    go_ret
    exact ⟨rfl, Below.refl _ _⟩
  have d1 : decide (2147483647 < (s.size : Int)) = false := by simp; omega
  by_cases h2 : 4096 < s.size
  · have d2 : decide (4096 < (s.size : Int)) = true := by simp; omega
    clear h1 h2
    go_enter Tryd.func6, Tryd.ntmps6
    go_wp2
    go_ret
    exact ⟨rfl, Below.refl _ _⟩
  have d2 : decide (4096 < (s.size : Int)) = false := by simp; omega
  have hs : s.size ≤ 4096 := by omega
  have hL := litBytes_any s w hs
  have hR := fun w => returns_any s w hs
  have hU := fun w => implUn_any s w hs
  clear hs h1 h2
  obtain ⟨r, hr⟩ : ∃ r, rt false s.data.toList = r := ⟨_, rfl⟩
  rw [hr] at hL hR
  clear hr
  generalize un .n s.data.toList = U at hL hU
  cases r
  all_goals
    go_enter Tryd.func6, Tryd.ntmps6
    go_wp2_with
      (go_at_call 18; refine Calls.mono (by with_reducible exact hL) ?_; rintro e w1 ⟨S, ok, rfl, hS, b1⟩
       have H1 : Hid ((ok = true → _ → S.data.toList = U) ∧ Below w.heap.size w w1) := ⟨hS, b1⟩
       clear hS b1 hL
       cases ok)
  · go_wp2
    go_ret
    exact ⟨rfl, H1.out.2⟩
  · have hSU : (⟨U.toArray⟩ : ByteArray) = S := str_ext (by have := H1.out.1 (by trivial) (by trivial); simp [this])
    rw [hSU] at hU
    go_wp2_with (first
      | (go_at_call 19; refine Calls.mono (by with_reducible exact hR _) ?_; rintro e w2 ⟨rfl, rfl⟩)
      | (go_at_call 20; refine Calls.mono (by with_reducible exact hU _) ?_; rintro e w3 ⟨v, rfl, hcv, b3⟩
         have H3 : Hid (Below w.heap.size w w3) := H1.out.2.trans (b3.mono H1.out.2.size); clear b3))
    go_ret
    exact ⟨rfl, H3.out⟩
  · go_wp2
    go_ret
    exact ⟨rfl, H1.out.2⟩
  · go_wp2_with (go_at_call 19; refine Calls.mono (by with_reducible exact hR _) ?_; rintro e w2 ⟨rfl, rfl⟩)
    go_ret
    exact ⟨rfl, H1.out.2⟩

end Go.Proofs.YtgemkjickljedaaDoor
