/- What types.IsUTF16BE answers of bytes. Conditions: at most 9000 bytes. -/
import Derived.Test.YtgemkjickljedaaGreatDoorUF
import Derived.Test.YtgemkjickljedaaGreatDoorUW
namespace Go.Proofs.YtgemkjickljedaaGreatDoor
open Go.ChangeShapes Go.WideShapes Go.ChangeAt Go.RowKit

/-- Marked, and of an even length. -/
def be (l : List UInt8) : Bool := decide (marked l = true ∧ l.length % 2 = 0)

set_option maxHeartbeats 1000000 in
set_option maxRecDepth 100000 in
theorem isbe_any (s : ByteArray) (n g cap : Nat) (w : World) (hn : n = s.size) (hs : n ≤ 9000) (hc : ∀ i (h : i < s.size), w.cell? ⟨g, i, none⟩ = some (.int .u8 s[i].toNat)) :
    Calls Tryz.prog 35 #[.slice (some ⟨g, 0, none⟩) n cap] w fun e w' => e = .returned (.bool (be s.data.toList)) ∧ w' = w := by
  have hlen : s.data.toList.length = n := by rw [hn]; simp
  obtain ⟨r, hr⟩ : ∃ r, r = be s.data.toList := ⟨_, rfl⟩
  rw [← hr]
  unfold be at hr
  rw [hlen] at hr
  by_cases h0 : n = 0
  · have : marked s.data.toList = false := marked_short (by omega)
    rw [this] at hr
    obtain rfl : r = false := by rw [hr]; simp
    clear this hr hlen hn hc hs
    subst h0
    go_enter Tryz.func35, Tryz.ntmps35
    go_wp2
    go_ret
    exact ⟨rfl, rfl⟩
  · have z0 : ((n : Int) == 0) = false := by simp; omega
    by_cases hod : n % 2 = 1
    · obtain rfl : r = false := by rw [hr]; simp; omega
      have z : ((n : Int) % 2 != 0) = true := by simp; omega
      clear hr hlen hn hc hs
      go_enter Tryz.func35, Tryz.ntmps35
      go_wp2
      go_ret
      exact ⟨rfl, rfl⟩
    · have z : ((n : Int) % 2 != 0) = false := by simp; omega
      have h2 : 2 ≤ s.size := by omega
      have hm := marked_long h2
      have e1 := u8_beq s[0] 254 (by decide)
      have e2 := u8_beq s[1] 255 (by decide)
      have hm2 : marked s.data.toList = (decide (s[0].toNat = 254) && decide (s[1].toNat = 255)) := by rw [hm, ← e1, ← e2]; rfl
      rw [hm2] at hr
      have c0 := hc 0 (by omega)
      have c1 := hc 1 (by omega)
      obtain ⟨x, hx⟩ : ∃ x : Nat, x = s[0].toNat := ⟨_, rfl⟩
      obtain ⟨y, hy⟩ : ∃ y : Nat, y = s[1].toNat := ⟨_, rfl⟩
      rw [← hx] at c0 hr
      rw [← hy] at c1 hr
      obtain ⟨X, hX⟩ : ∃ X : Int, X = (x : Int) := ⟨_, rfl⟩
      obtain ⟨Y, hY⟩ : ∃ Y : Int, Y = (y : Int) := ⟨_, rfl⟩
      rw [← hX] at c0
      rw [← hY] at c1
      have n0 : 0 < n := by omega
      have n1 : 1 < n := by omega
      have n2 : (1 : Int) < (n : Int) := by omega
      clear hx hy hm hm2 e1 e2 hlen hc h2 hn hs
      by_cases q0 : x = 254
      · have d0 : (X == 254) = true := by simp; omega
        by_cases q1 : y = 255
        · have d1 : (Y == 255) = true := by simp; omega
          obtain rfl : r = true := by rw [hr]; simp [q0, q1]; omega
          clear hr q0 q1 hX hY hod h0
          go_enter Tryz.func35, Tryz.ntmps35
          go_wp2
          go_ret
          exact ⟨rfl, rfl⟩
        · have d1 : (Y == 255) = false := by simp; omega
          obtain rfl : r = false := by rw [hr]; simp [q1]
          clear hr q0 q1 hX hY hod h0
          go_enter Tryz.func35, Tryz.ntmps35
          go_wp2
          go_ret
          exact ⟨rfl, rfl⟩
      · have d0 : (X == 254) = false := by simp; omega
        obtain rfl : r = false := by rw [hr]; simp [q0]
        clear hr q0 hX hY hod h0
        go_enter Tryz.func35, Tryz.ntmps35
        go_wp2
        go_ret
        exact ⟨rfl, rfl⟩

end Go.Proofs.YtgemkjickljedaaGreatDoor
