/- The texts that came in, and the records made of them, walked. -/
import Derived.Test.YtdihfcmmnljchaaProg
import Derived.Test.YtdihfcmmnljchaaNm
import Derived.Test.YtdihfcmmnljchaaRow
import Derived.WalkKit
import Derived.WalkSmall
import Derived.Deep.LoopGhost
import Derived.Deep.DeepMust
import Derived.Deep.CutBlock
import Derived.Deep.CutRange
import Derived.Deep.DeepCutAuto
import Derived.KernelRfl
import Derived.Lib.Hide
namespace Go.Proofs.Ytdihfcmmnljchaa.Nm
open Go Go.RowKit

/-- A slice of strings that came in. -/
def Texts (w : World) (A : Option Addr) (n : Nat) : Prop :=
  0 < n → ∃ b off, A = some ⟨b, off, none⟩ ∧ ∀ j, j < n → ∃ s : ByteArray, s.size ≤ maxLen ∧ w.cell? ⟨b, off + j, none⟩ = some (.string s)

theorem fits_any (n : Nat) (A : Option Addr) (cap : Nat) (w : World) (hn : n ≤ 9223372036854775807) (ht : Texts w A n) :
    Calls Try.prog 4 #[.slice A n cap] w fun e w' => (∃ b, e = .returned (.bool b)) ∧ w = w' := by
  have HT := Lib.hid ht
  clear ht
  by_cases hl : (2147483647 : Int) < n
  · go_enter Try.func4, Try.ntmps4
    go_wp2
    go_ret
    exact ⟨⟨_, rfl⟩, rfl⟩
  go_enter Try.func4, Try.ntmps4
  go_wp2
  go_loopg [10] (n) (fun gk iv W => ∃ k : Nat, k ≤ n ∧ gk = n - k ∧ iv = .int .i64 k ∧ w = W)
  case atStart => exact ⟨0, Nat.zero_le _, rfl, rfl, rfl⟩
  case round =>
    obtain ⟨k, hk, hgk, rfl, rfl⟩ := hrel
    have HK := Lib.hid hgk
    clear hgk
    by_cases hlt : k < n
    · obtain ⟨b, off, rfl, hcells⟩ := HT.out (by omega)
      obtain ⟨s, hs, hc⟩ := hcells k hlt
      have hs2 : s.size ≤ 9223372036854775807 := hs
      clear hcells hs
      by_cases hlong : (2147483647 : Int) < s.size
      · go_wp2
        go_ret
        exact ⟨⟨_, rfl⟩, rfl⟩
      · go_wp2
        go_roundg (n - (k + 1))
        case measure => have := HK.out; omega
        case rel => exact ⟨k + 1, by omega, rfl, by go_num, rfl⟩
    · go_wp2
      go_ret
      exact ⟨⟨_, rfl⟩, rfl⟩
end Go.Proofs.Ytdihfcmmnljchaa.Nm
