/- Numbers of 16 bits read, walked. -/
import Derived.Test.YtkfgmjcdaggjcaaKpBytes
namespace Go.Proofs.Ytkfgmjcdaggjcaa.Kp
open Go Go.RowKit

theorem ofInt16 (a : Nat) (ha : a < 65536) : (BitVec.ofInt 16 (a : Int)).toNat = a := by
  rw [BitVec.toNat_ofInt]; omega
theorem or_bytes (a b : Nat) (ha : a < 256) (hb : b < 256) : bits .or .u16 (b : Int) ((a : Int) * 256) = ((a * 256 + b : Nat) : Int) := by
  have e : ((a : Int) * 256) = ((a * 256 : Nat) : Int) := by omega
  rw [e]
  show IntKind.u16.wrap ((BitVec.ofInt 16 (b : Int) ||| BitVec.ofInt 16 ((a * 256 : Nat) : Int)).toNat : Int) = _
  rw [BitVec.toNat_or, ofInt16 b (by omega), ofInt16 _ (by omega)]
  have h : b ||| a * 256 = a * 256 + b := by
    have := Nat.two_pow_add_eq_or_of_lt (i := 8) (b := b) (by omega) a
    rw [Nat.or_comm, show a * 256 = 2 ^ 8 * a by omega, ← this]
  rw [h]
  simp [IntKind.wrap, IntKind.bits, IntKind.signed]
  omega

set_option maxHeartbeats 1000000 in
theorem half_any (g off n cap a b : Nat) (w : World) (hn : 2 ≤ n) (ha : a < 256) (hb : b < 256) (h0 : w.cell? ⟨g, off, none⟩ = some (.int .u8 (a : Nat))) (h1 : w.cell? ⟨g, off + 1, none⟩ = some (.int .u8 (b : Nat))) :
    Calls Try.prog 19 #[.agg #[], .slice (some ⟨g, off, none⟩) n cap] w fun e w' => e = .returned (.int .u16 (a * 256 + b : Nat)) ∧ Below w.heap.size w w' := by
  have hg : g < w.heap.size := World.block_lt_of_cell? w _ h0
  have n1 : (1 : Int) < n := by omega
  have n0 : (0 : Int) < n := by omega
  go_enter Try.func19, Try.ntmps19
  go_wp2
  go_quiet (fail)
  go_wp2
  go_ret
  refine ⟨?_, below_drewN ((Below.refl _ _).alloc (Nat.le_refl _) _) nq⟩
  show Ending.returned (.int .u16 (bits .or .u16 (b : Int) ((a : Int) * 256))) = _
  rw [or_bytes a b ha hb]
end Go.Proofs.Ytkfgmjcdaggjcaa.Kp
