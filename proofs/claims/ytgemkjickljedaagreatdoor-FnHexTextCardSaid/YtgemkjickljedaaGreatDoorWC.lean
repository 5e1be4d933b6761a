/- What spec.docSigns answers: PDFDocEncoding's signs. Conditions: none. -/
import Derived.Test.YtgemkjickljedaaGreatDoorWB
namespace Go.Proofs.YtgemkjickljedaaGreatDoor
open Go.ChangeShapes Go.WideShapes Go.ChangeAt Go.RowKit

def lowS : List Int := [728, 711, 710, 729, 733, 731, 730, 732]
def highS : List Int := [8226, 8224, 8225, 8230, 8212, 8211, 402, 8260, 8249, 8250, 8722, 8240, 8222, 8220, 8221, 8216, 8217, 8218, 8482, 64257, 64258, 321, 338, 352, 376, 381, 305, 322, 339, 353, 382]
/-- The code point that a byte is; -1: none. -/
def sign (n : Nat) : Int :=
  if n = 9 ∨ n = 10 ∨ n = 13 ∨ (32 ≤ n ∧ n ≤ 126) then n else if 24 ≤ n ∧ n ≤ 31 then lowS.getD (n - 24) 0 else if 128 ≤ n ∧ n ≤ 158 then highS.getD (n - 128) 0 else if n = 160 then 8364 else if 160 < n ∧ n ≠ 173 then n else -1

set_option maxRecDepth 100000 in
theorem signs_any (w : World) : Calls Tryz.prog 44 #[] w fun e w' => e = .returned (.tuple #[.slice (some ⟨w.heap.size, 0, none⟩) 8 8, .slice (some ⟨w.heap.size + 1, 0, none⟩) 31 31]) ∧
    (w.alloc (.cells #[.int .i32 728, .int .i32 711, .int .i32 710, .int .i32 729, .int .i32 733, .int .i32 731, .int .i32 730, .int .i32 732] 21)).alloc (.cells #[.int .i32 8226, .int .i32 8224, .int .i32 8225, .int .i32 8230, .int .i32 8212, .int .i32 8211, .int .i32 402, .int .i32 8260, .int .i32 8249, .int .i32 8250, .int .i32 8722, .int .i32 8240, .int .i32 8222, .int .i32 8220, .int .i32 8221, .int .i32 8216, .int .i32 8217, .int .i32 8218, .int .i32 8482, .int .i32 64257, .int .i32 64258, .int .i32 321, .int .i32 338, .int .i32 352, .int .i32 376, .int .i32 381, .int .i32 305, .int .i32 322, .int .i32 339, .int .i32 353, .int .i32 382] 21) = w' := by
  go_enter Tryz.func44, Tryz.ntmps44
  go_wp2_with (fail)
  go_ret2
  exact ⟨rfl, rfl⟩

end Go.Proofs.YtgemkjickljedaaGreatDoor
