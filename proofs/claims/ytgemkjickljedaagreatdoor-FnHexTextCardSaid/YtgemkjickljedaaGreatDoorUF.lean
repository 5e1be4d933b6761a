/- What utf16.Decode and the package's decoder of UTF-16BE answer. Conditions: at most 9000 bytes. -/
import Derived.Test.YtgemkjickljedaaGreatDoorUE
namespace Go.Proofs.YtgemkjickljedaaGreatDoor
open Go.ChangeShapes Go.WideShapes Go.ChangeAt Go.RowKit

set_option maxRecDepth 100000 in
set_option maxHeartbeats 1000000 in
theorem Decode_any (out : List Nat) (hok : ∀ j (h : j < out.length), okc out[j]) (n g cap B0 : Nat) (w : World) (hn : n = (u16s out).length) (hlen : n ≤ 9000)
    (hs : w.ownsRow B0 67 1 (.slice (some ⟨g, 0, none⟩) n cap) n (vals16 (u16s out))) :
    Calls Tryz.prog 48 #[.slice (some ⟨g, 0, none⟩) n cap] w fun e w' => ∃ v, e = .returned v ∧ v ≠ .slice none 0 0 ∧ w'.ownsRow w.heap.size 21 1 v out.length (vals32 out) ∧ Below w.heap.size w w' := by
  obtain ⟨i0, hi, hz0, hz1, hz2⟩ := info_parts Tryz.info21
  have HN : Hid (n = (u16s out).length) := hn
  clear hn
  go_enter Tryz.func48, Tryz.ntmps48
  go_wp2_with (first
    | (at_make; refine wpList_make_own _ rfl _ _ 66 rfl w.heap.size 21 i0 (.int .i32 0) 1 Tryz.underlying66 hi hz0 hz1 .i64 .i64 _ 64 rfl rfl (by omega) (by rw [hz2]; omega) (by unfold maxLen; omega) (Nat.le_refl _) ?_; intro w0 hown0 hgrow0
       have hs0 := hs.kept hgrow0 (by right; simp [Value.ownBlock])
       have hb0 := (Below.refl w.heap.size w).grown hgrow0 (Nat.le_refl _) (fun k hk => by cases hk)
       have hd := decode_any out hok n g cap B0 w.heap.size _ w0 HN hlen hs0 hown0 (by intro h; cases h) hb0.size
       clear hgrow0 hown0 hs0)
    | (go_at_call 64; refine Calls.mono (by with_reducible exact hd) ?_; rintro e w4 ⟨v, rfl, h2, h3, h4⟩))
  go_ret
  exact ⟨v, rfl, h2, h3, hb0.trans h4⟩

end Go.Proofs.YtgemkjickljedaaGreatDoor
