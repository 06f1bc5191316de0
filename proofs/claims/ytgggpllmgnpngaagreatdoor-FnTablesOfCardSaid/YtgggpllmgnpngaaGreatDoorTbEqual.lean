/- Rows compared: walked. -/
import Derived.Test.YtgggpllmgnpngaaGreatDoorTbImpl
namespace Go.Proofs.YtgggpllmgnpngaaGreatDoor.Tb
open Go Go.RowKit

set_option maxRecDepth 100000 in
set_option maxHeartbeats 4000000 in
theorem eqs_any (G1 G2 n c1 c2 : Nat) (S : Nat → ByteArray) (w : World) (hn : n ≤ 1000) (h1 : ∀ j, j < n → w.cell? ⟨G1, j, none⟩ = some (.string (S j))) (h2 : ∀ j, j < n → w.cell? ⟨G2, j, none⟩ = some (.string (S j))) :
    Calls Tryz.prog 7 #[.slice (some ⟨G1, 0, none⟩) n c1, .slice (some ⟨G2, 0, none⟩) n c2] w fun e w' => e = .returned (.bool true) ∧ ∃ q, w' = w.drewN q := by
  have H1 := Lib.hid h1
  have H2 := Lib.hid h2
  clear h1 h2
  go_enter Tryz.func7, Tryz.ntmps7
  go_wp2_with fail
  go_loopg [13] (n) (fun gk iv W => ∃ k : Nat, k ≤ n ∧ gk = n - k ∧ iv = .int .i64 k ∧ ∃ q, W = w.drewN q)
  case atStart => exact ⟨0, by omega, rfl, rfl, 0, rfl⟩
  case round =>
    obtain ⟨k, hk, hgk, rfl, q, rfl⟩ := hrel
    have HK := Lib.hid hgk
    clear hgk
    by_cases hlt : k < n
    · have kk : (k : Int) < n := by omega
      have c1 := H1.out k hlt
      have c2 := H2.out k hlt
      obtain ⟨s, hs⟩ : ∃ s, s = S k := ⟨_, rfl⟩
      rw [← hs] at c1 c2
      clear hs
      go_upto_region 6 with fail
      go_quiet (fail)
      go_wp2_with fail
      go_roundg (n - (k + 1))
      case measure => rw [HK.out]; omega
      case rel => exact ⟨k + 1, by omega, rfl, by go_num, q + nq, rfl⟩
    · have kk : ¬ (k : Int) < n := by omega
      go_wp2_with fail
      go_ret
      exact ⟨rfl, q, rfl⟩

set_option maxRecDepth 100000 in
set_option maxHeartbeats 4000000 in
theorem eqb_any (G1 G2 n o c1 c2 : Nat) (S : Nat → Int) (w : World) (hn : n ≤ 1000000) (h1 : ∀ j, j < n → w.cell? ⟨G1, j, none⟩ = some (.int .u8 (S j))) (h2 : ∀ j, j < n → w.cell? ⟨G2, o + j, none⟩ = some (.int .u8 (S j))) :
    Calls Tryz.prog 9 #[.slice (some ⟨G1, 0, none⟩) n c1, .slice (some ⟨G2, o, none⟩) n c2] w fun e w' => e = .returned (.bool true) ∧ ∃ q, w' = w.drewN q := by
  have H1 := Lib.hid h1
  have H2 := Lib.hid h2
  clear h1 h2
  go_enter Tryz.func9, Tryz.ntmps9
  go_wp2_with fail
  go_loopg [13] (n) (fun gk iv W => ∃ k : Nat, k ≤ n ∧ gk = n - k ∧ iv = .int .i64 k ∧ ∃ q, W = w.drewN q)
  case atStart => exact ⟨0, by omega, rfl, rfl, 0, rfl⟩
  case round =>
    obtain ⟨k, hk, hgk, rfl, q, rfl⟩ := hrel
    have HK := Lib.hid hgk
    clear hgk
    by_cases hlt : k < n
    · have kk : (k : Int) < n := by omega
      have c1 := H1.out k hlt
      have c2 := H2.out k hlt
      obtain ⟨s, hs⟩ : ∃ s, s = S k := ⟨_, rfl⟩
      rw [← hs] at c1 c2
      clear hs
      go_upto_region 6 with fail
      go_quiet (fail)
      go_wp2_with fail
      go_roundg (n - (k + 1))
      case measure => rw [HK.out]; omega
      case rel => exact ⟨k + 1, by omega, rfl, by go_num, q + nq, rfl⟩
    · have kk : ¬ (k : Int) < n := by omega
      go_wp2_with fail
      go_ret
      exact ⟨rfl, q, rfl⟩
end Go.Proofs.YtgggpllmgnpngaaGreatDoor.Tb
