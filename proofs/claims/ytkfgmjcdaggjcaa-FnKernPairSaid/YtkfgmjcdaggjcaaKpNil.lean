/- The sort of nothing, and nothing made compact, walked. -/
import Derived.Test.YtkfgmjcdaggjcaaKpMade
namespace Go.Proofs.Ytkfgmjcdaggjcaa.Kp
open Go Go.RowKit

set_option maxRecDepth 1000000 in
set_option maxHeartbeats 2000000 in
theorem ins_nil (w : World) :
    Calls Try.prog 13 #[.slice none 0 0, .int .i64 0, .int .i64 0, .func (.func 5) #[] #[]] w fun e w' => e = .returned (.tuple #[]) ∧ Below w.heap.size w w' := by
  go_enter Try.func13, Try.ntmps13
  go_wp2_with fail
  go_loopg [8] (1) (fun gk iv W => gk = 1 ∧ iv = .int .i64 1 ∧ W = w)
  case atStart => exact ⟨rfl, rfl, rfl⟩
  case round =>
    obtain ⟨hgk, rfl, hW⟩ := hrel
    have HW := Lib.hid hW
    clear hgk hW
    go_wp2_with fail
    go_end0
    exact ⟨rfl, by rw [HW.out]; exact Below.refl _ _⟩

set_option maxRecDepth 1000000 in
set_option maxHeartbeats 2000000 in
theorem stable_nil (w : World) :
    Calls Try.prog 10 #[.slice none 0 0, .int .i64 0, .func (.func 5) #[] #[]] w fun e w' => e = .returned (.tuple #[]) ∧ Below w.heap.size w w' := by
  have HI := Lib.hid (ins_nil w)
  go_enter Try.func10, Try.ntmps10
  go_wp2_with fail
  go_loopg [7, 8] (1) (fun gk av bv W => gk = 1 ∧ av = .int .i64 0 ∧ bv = .int .i64 20 ∧ W = w)
  case atStart => exact ⟨rfl, rfl, rfl, rfl⟩
  case round =>
    obtain ⟨hgk, rfl, rfl, hW⟩ := hrel
    obtain rfl : wr = w := hW
    clear hgk
    go_wp2_with fail
    refine HI.out.mono ?_
    rintro e w1 ⟨rfl, hb⟩
    have HB := Lib.hid hb
    clear hb
    go_wp2_with fail
    go_loopg [6] (1) (fun gk iv W => gk = 1 ∧ iv = .int .i64 20 ∧ W = w1)
    case atStart => exact ⟨rfl, rfl, rfl⟩
    case round =>
      obtain ⟨hgk, rfl, hW⟩ := hrel
      have HW := Lib.hid hW
      clear hgk hW
      go_wp2_with fail
      go_end0
      exact ⟨rfl, by rw [HW.out]; exact HB.out⟩

set_option maxRecDepth 1000000 in
set_option maxHeartbeats 2000000 in
theorem sort_nil (w : World) :
    Calls Try.prog 4 #[.slice none 0 0, .func (.func 5) #[] #[]] w fun e w' => e = .returned (.tuple #[]) ∧ Below w.heap.size w w' := by
  have H := Lib.hid (stable_nil w)
  go_enter Try.func4, Try.ntmps4
  go_wp2_with fail
  refine H.out.mono ?_
  rintro e w1 ⟨rfl, hb⟩
  go_wp2
  go_end0
  exact ⟨rfl, hb⟩

set_option maxRecDepth 1000000 in
set_option maxHeartbeats 2000000 in
theorem compact_nil (w : World) :
    Calls Try.prog 6 #[.slice none 0 0, .func (.func 7) #[] #[]] w fun e w' => e = .returned (.slice none 0 0) ∧ Below w.heap.size w w' := by
  go_enter Try.func6, Try.ntmps6
  go_wp2
  go_ret
  exact ⟨rfl, Below.refl _ _⟩
end Go.Proofs.Ytkfgmjcdaggjcaa.Kp
