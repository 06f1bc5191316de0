/- Whether slices are of a fit size; coordinates; numbers of a list; an axis of a region: walked. -/
import Derived.Test.YtdknpamegphjlaaMem
namespace Go.Proofs.Ytdknpamegphjlaa.Sd
open Go Go.RowKit

theorem fits4_any (n : Nat) (A : Option Addr) (cap : Nat) (w : World) (hn : n ≤ 9223372036854775807) (ht : InAll In3 w A n) :
    Calls Try.prog 4 #[.slice A n cap] w fun e w' => (∃ b, e = .returned (.bool b)) ∧ w = w' := by
  have HT := Lib.hid ht
  clear ht
  by_cases hl : (2147483647 : Int) < n
  · go_enter Try.func4, Try.ntmps4
    go_wp2
    go_ret
    exact ⟨⟨_, rfl⟩, rfl⟩
  go_enter Try.func4, Try.ntmps4
  go_wp2
  go_loopg [10] (n) (fun gk iv W => ∃ k : Nat, k ≤ n ∧ gk = n - k ∧ iv = .int .i64 k ∧ w = W)
  case atStart => exact ⟨0, Nat.zero_le _, rfl, rfl, rfl⟩
  case round =>
    obtain ⟨k, hk, hgk, rfl, rfl⟩ := hrel
    have HK := Lib.hid hgk
    clear hgk
    by_cases hlt : k < n
    · obtain ⟨b, off, rfl, hcells⟩ := HT.out (by omega)
      obtain ⟨A', n', c', hs2, hc, _⟩ := hcells k hlt
      clear hcells
      by_cases hlong : (2147483647 : Int) < n'
      · go_wp2
        go_ret
        exact ⟨⟨_, rfl⟩, rfl⟩
      · go_wp2
        go_roundg (n - (k + 1))
        case measure => have := HK.out; omega
        case rel => exact ⟨k + 1, by omega, rfl, by go_num, rfl⟩
    · go_wp2
      go_ret
      exact ⟨⟨_, rfl⟩, rfl⟩

theorem fits5_any (n : Nat) (A : Option Addr) (cap : Nat) (w : World) (hn : n ≤ 9223372036854775807) (ht : InAll InU8 w A n) :
    Calls Try.prog 5 #[.slice A n cap] w fun e w' => (∃ b, e = .returned (.bool b)) ∧ w = w' := by
  have HT := Lib.hid ht
  clear ht
  by_cases hl : (2147483647 : Int) < n
  · go_enter Try.func5, Try.ntmps5
    go_wp2
    go_ret
    exact ⟨⟨_, rfl⟩, rfl⟩
  go_enter Try.func5, Try.ntmps5
  go_wp2
  go_loopg [10] (n) (fun gk iv W => ∃ k : Nat, k ≤ n ∧ gk = n - k ∧ iv = .int .i64 k ∧ w = W)
  case atStart => exact ⟨0, Nat.zero_le _, rfl, rfl, rfl⟩
  case round =>
    obtain ⟨k, hk, hgk, rfl, rfl⟩ := hrel
    have HK := Lib.hid hgk
    clear hgk
    by_cases hlt : k < n
    · obtain ⟨b, off, rfl, hcells⟩ := HT.out (by omega)
      obtain ⟨A', n', c', hs2, hc, _⟩ := hcells k hlt
      clear hcells
      by_cases hlong : (2147483647 : Int) < n'
      · go_wp2
        go_ret
        exact ⟨⟨_, rfl⟩, rfl⟩
      · go_wp2
        go_roundg (n - (k + 1))
        case measure => have := HK.out; omega
        case rel => exact ⟨k + 1, by omega, rfl, by go_num, rfl⟩
    · go_wp2
      go_ret
      exact ⟨⟨_, rfl⟩, rfl⟩

theorem fits6_any (n : Nat) (A : Option Addr) (cap : Nat) (w : World) (hn : n ≤ 9223372036854775807) (ht : InAll InI16 w A n) :
    Calls Try.prog 6 #[.slice A n cap] w fun e w' => (∃ b, e = .returned (.bool b)) ∧ w = w' := by
  have HT := Lib.hid ht
  clear ht
  by_cases hl : (2147483647 : Int) < n
  · go_enter Try.func6, Try.ntmps6
    go_wp2
    go_ret
    exact ⟨⟨_, rfl⟩, rfl⟩
  go_enter Try.func6, Try.ntmps6
  go_wp2
  go_loopg [10] (n) (fun gk iv W => ∃ k : Nat, k ≤ n ∧ gk = n - k ∧ iv = .int .i64 k ∧ w = W)
  case atStart => exact ⟨0, Nat.zero_le _, rfl, rfl, rfl⟩
  case round =>
    obtain ⟨k, hk, hgk, rfl, rfl⟩ := hrel
    have HK := Lib.hid hgk
    clear hgk
    by_cases hlt : k < n
    · obtain ⟨b, off, rfl, hcells⟩ := HT.out (by omega)
      obtain ⟨A', n', c', hs2, hc, _⟩ := hcells k hlt
      clear hcells
      by_cases hlong : (2147483647 : Int) < n'
      · go_wp2
        go_ret
        exact ⟨⟨_, rfl⟩, rfl⟩
      · go_wp2
        go_roundg (n - (k + 1))
        case measure => have := HK.out; omega
        case rel => exact ⟨k + 1, by omega, rfl, by go_num, rfl⟩
    · go_wp2
      go_ret
      exact ⟨⟨_, rfl⟩, rfl⟩

/-- A coordinate's number. -/
def crd (c : Int) : Int := if -16384 < (if c < 16384 then c else 16384) then (if c < 16384 then c else 16384) else -16384
theorem crd_in (c : Int) : -16384 ≤ crd c ∧ crd c ≤ 16384 := by unfold crd; split <;> split <;> omega
theorem coord_any (c : Int) (w : World) (h : -32768 ≤ c ∧ c ≤ 32767) :
    Calls Try.prog 13 #[.int .i16 c] w fun e w' => e = .returned (.int .i64 (crd c)) ∧ w = w' := by
  have k0 : IntKind.i64.wrap c = c := IntWalk.i64_in _ (by omega)
  obtain ⟨m, hm⟩ : ∃ m, m = if c < 16384 then c else 16384 := ⟨_, rfl⟩
  obtain ⟨m2, hm2⟩ : ∃ m2, m2 = if -16384 < m then m else -16384 := ⟨_, rfl⟩
  have e : crd c = m2 := by rw [hm2, hm]; rfl
  rw [e]
  have k1 := hm.symm
  have k2 := hm2.symm
  clear e hm hm2 h
  go_enter Try.func13, Try.ntmps13
  go_wp2
  go_ret
  exact ⟨rfl, rfl⟩

theorem sixteen_any (c : Int) (w : World) (h : -32768 ≤ c ∧ c ≤ 32767) :
    Calls Try.prog 15 #[.int .i64 c] w fun e w' => e = .returned (.int .i16 c) ∧ w = w' := by
  have k0 : ¬ c < -32768 := by omega
  have k1 : ¬ (32767 : Int) < c := by omega
  have k2 : IntKind.i16.wrap c = c := by simp [IntKind.wrap, IntKind.bits, IntKind.signed]; omega
  go_enter Try.func15, Try.ntmps15
  go_wp2
  go_ret
  exact ⟨rfl, rfl⟩

theorem nth_any (n cap i : Nat) (A : Option Addr) (w : World) (hn : n ≤ 9223372036854775807) (hi : i < 100) (h : InI16 w A n) :
    Calls Try.prog 12 #[.slice A n cap, .int .i64 i] w fun e w' => (∃ x, e = .returned (.int .i64 x) ∧ -32768 ≤ x ∧ x ≤ 32767) ∧ w = w' := by
  have HH := Lib.hid h
  clear h
  by_cases hz : n = 0
  · subst hz
    go_enter Try.func12, Try.ntmps12
    go_wp2
    go_ret
    exact ⟨⟨_, rfl, by decide, by decide⟩, rfl⟩
  · obtain ⟨b, off, rfl, hc⟩ := HH.out (by omega)
    obtain ⟨j, hj⟩ : ∃ j, j = i % n := ⟨_, rfl⟩
    have hjn : j < n := by rw [hj]; exact Nat.mod_lt _ (by omega)
    have m1 : (i : Int).tmod n = j := by rw [Int.tmod_eq_emod_of_nonneg (by omega), hj]; exact (Int.natCast_emod i n).symm
    have m2 : (i : Int) % n = j := by rw [hj]; exact (Int.natCast_emod i n).symm
    obtain ⟨x, hx, c0⟩ := hc j hjn
    have k0 : IntKind.i64.wrap x = x := IntWalk.i64_in _ (by omega)
    have n1 : ¬ (n : Int) = 0 := by omega
    have i1 : (j : Int) < n := by omega
    have HX := Lib.hid hx
    clear hj hc hx
    go_enter Try.func12, Try.ntmps12
    go_wp2
    go_ret
    exact ⟨⟨x, rfl, HX.out.1, HX.out.2⟩, rfl⟩
end Go.Proofs.Ytdknpamegphjlaa.Sd
