/- The end of a subtable, walked. -/
import Derived.Test.YtkfgmjcdaggjcaaKpData
namespace Go.Proofs.Ytkfgmjcdaggjcaa.Kp
open Go Go.RowKit

set_option maxRecDepth 1000000 in
theorem end_any (I N cap L : Nat) (A : Option Addr) (w : World) (hL : L ≤ N) (hN : N ≤ 60000) (hc : w.cell? ⟨I, 1, none⟩ = some (.int .u16 (L : Nat))) :
    Calls Try.prog 29 #[.pointer (some ⟨I, 0, none⟩), .slice A N cap] w fun e w' => e = .returned (.tuple #[.int .i64 (L : Nat), .nilIface]) ∧ Below w.heap.size w w' := by
  have hL6 : L < 65536 := by omega
  have hd : decide ((N : Int) < (L : Int)) = false := decide_eq_false (by omega)
  have hlt := World.block_lt_of_cell? w _ hc
  have hle : (L : Int) ≤ N := by omega
  have hnl : ¬ (N : Int) < L := by omega
  clear hL hN
  go_enter Try.func29, Try.ntmps29
  go_upto_region 1 with fail
  go_quiet (fail)
  have c2 : (w.drewN nq).cell? ⟨I, 1, none⟩ = some (.int .u16 (L : Nat)) := hc
  have hb : Below w.heap.size w (w.drewN nq) := below_drewN (Below.refl _ _) nq
  have HB := Lib.hid hb
  clear hb hc
  generalize w.drewN nq = w2 at c2 HB ⊢
  go_wp2
  go_ret2
  exact ⟨rfl, HB.out⟩
end Go.Proofs.Ytkfgmjcdaggjcaa.Kp
