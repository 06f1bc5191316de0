/- UTF-16 read, walked. -/
import Derived.Test.YtdihfcmmnljchaaNmParse
namespace Go.Proofs.Ytdihfcmmnljchaa.Nm
open Go Go.RowKit

theorem ofInt32 (a : Nat) (ha : a < 4294967296) : (BitVec.ofInt 32 (a : Int)).toNat = a := by
  rw [BitVec.ofInt_natCast, BitVec.toNat_ofNat]; exact Nat.mod_eq_of_lt (by omega)
theorem or_pair (a b : Nat) (ha : a < 1024) (hb : b < 1024) : bits .or .i32 ((a * 1024 : Nat) : Int) (b : Int) = ((a * 1024 + b : Nat) : Int) := by
  show IntKind.i32.wrap ((BitVec.ofInt 32 ((a * 1024 : Nat) : Int) ||| BitVec.ofInt 32 (b : Int)).toNat : Int) = _
  rw [BitVec.toNat_or, ofInt32 _ (by omega), ofInt32 b (by omega)]
  have h : a * 1024 ||| b = a * 1024 + b := by
    have := Nat.two_pow_add_eq_or_of_lt (i := 10) (b := b) (by omega) a
    rw [show a * 1024 = 2 ^ 10 * a by omega, ← this]
  rw [h]
  simp [IntKind.wrap, IntKind.bits, IntKind.signed]
  omega

/-- Two surrogates make one character. -/
theorem pair_any (a b : Nat) (w : World) (ha : a < 1024) (hb : b < 1024) :
    Calls Try.prog 33 #[.int .i32 (55296 + a : Nat), .int .i32 (56320 + b : Nat)] w fun e w' => e = .returned (.int .i32 (65536 + a * 1024 + b : Nat)) ∧ w = w' := by
  obtain ⟨x, hx⟩ : ∃ x : Nat, x = 55296 + a := ⟨_, rfl⟩
  obtain ⟨y, hy⟩ : ∃ y : Nat, y = 56320 + b := ⟨_, rfl⟩
  rw [← hx, ← hy]
  have f0 : (55296 : Int) ≤ x := by omega
  have f1 : (x : Int) < 56320 := by omega
  have f2 : (56320 : Int) ≤ y := by omega
  have f3 : (y : Int) < 57344 := by omega
  have HX := Lib.hid hx
  have HY := Lib.hid hy
  clear hx hy
  go_enter Try.func33, Try.ntmps33
  go_wp2
  go_ret
  refine ⟨?_, rfl⟩
  show Ending.returned (.int .i32 (wrap32 (bits .or .i32 (((x : Int) - 55296) * 1024) ((y : Int) - 56320) + 65536))) = _
  rw [show ((x : Int) - 55296) * 1024 = ((a * 1024 : Nat) : Int) by have := HX.out; omega, show ((y : Int) - 56320) = (b : Int) by have := HY.out; omega, or_pair a b ha hb, IntWalk.wrap32_in _ (by omega)]
  congr 2
  omega
end Go.Proofs.Ytdihfcmmnljchaa.Nm
