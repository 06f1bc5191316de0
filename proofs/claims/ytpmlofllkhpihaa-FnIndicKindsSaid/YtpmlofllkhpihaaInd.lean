/- The kinds of some Indic characters, by the kernel's own evaluation of the code. -/
import Derived.Test.YtpmlofllkhpihaaProg
import Derived.Test.YtpmlofllkhpihaaEv
namespace Go.Proofs.Ytpmlofllkhpihaa.Indic
open Go

/-- What a character's kind and place are evaluated to, for the nine scripts. -/
noncomputable def at9 (off : Int) (w : World) : List (Option (Value × World)) :=
  [2304, 2432, 2560, 2688, 2816, 2944, 3072, 3200, 3328].map fun first => Ev.evalCall Try.prog 1 5 8 #[.int .i32 (first + off)] w
def pair (k p : Int) (w : World) : Option (Value × World) := some (.tuple #[.int .i64 k, .int .i64 p], w)

theorem c0 (w : World) : at9 21 w = [pair 1 4 w, pair 1 4 w, pair 1 4 w, pair 1 4 w, pair 1 4 w, pair 1 4 w, pair 1 4 w, pair 1 4 w, pair 1 4 w] := by kernel_rfl
theorem c1 (w : World) : at9 26 w = [pair 1 4 w, pair 1 4 w, pair 1 4 w, pair 1 4 w, pair 1 4 w, pair 1 4 w, pair 1 4 w, pair 1 4 w, pair 1 4 w] := by kernel_rfl
theorem c2 (w : World) : at9 31 w = [pair 1 4 w, pair 1 4 w, pair 1 4 w, pair 1 4 w, pair 1 4 w, pair 1 4 w, pair 1 4 w, pair 1 4 w, pair 1 4 w] := by kernel_rfl
theorem c3 (w : World) : at9 35 w = [pair 1 4 w, pair 1 4 w, pair 1 4 w, pair 1 4 w, pair 1 4 w, pair 1 4 w, pair 1 4 w, pair 1 4 w, pair 1 4 w] := by kernel_rfl
theorem c4 (w : World) : at9 36 w = [pair 1 4 w, pair 1 4 w, pair 1 4 w, pair 1 4 w, pair 1 4 w, pair 1 4 w, pair 1 4 w, pair 1 4 w, pair 1 4 w] := by kernel_rfl
theorem c5 (w : World) : at9 40 w = [pair 1 4 w, pair 1 4 w, pair 1 4 w, pair 1 4 w, pair 1 4 w, pair 1 4 w, pair 1 4 w, pair 1 4 w, pair 1 4 w] := by kernel_rfl
theorem r0 (w : World) : at9 48 w = [pair 15 4 w, pair 15 4 w, pair 15 4 w, pair 15 4 w, pair 15 4 w, pair 15 4 w, pair 15 4 w, pair 15 4 w, pair 15 4 w] := by kernel_rfl
theorem v0 (w : World) : at9 5 w = [pair 2 4 w, pair 2 4 w, pair 2 4 w, pair 2 4 w, pair 2 4 w, pair 2 4 w, pair 2 4 w, pair 2 4 w, pair 2 4 w] := by kernel_rfl
theorem v1 (w : World) : at9 7 w = [pair 2 4 w, pair 2 4 w, pair 2 4 w, pair 2 4 w, pair 2 4 w, pair 2 4 w, pair 2 4 w, pair 2 4 w, pair 2 4 w] := by kernel_rfl
theorem v2 (w : World) : at9 9 w = [pair 2 4 w, pair 2 4 w, pair 2 4 w, pair 2 4 w, pair 2 4 w, pair 2 4 w, pair 2 4 w, pair 2 4 w, pair 2 4 w] := by kernel_rfl
theorem h0 (w : World) : at9 77 w = [pair 4 8 w, pair 4 8 w, pair 4 8 w, pair 4 8 w, pair 4 8 w, pair 4 6 w, pair 4 6 w, pair 4 6 w, pair 4 6 w] := by kernel_rfl

/-- The first character of a script. -/
def F (s : Nat) : Int := [2304, 2432, 2560, 2688, 2816, 2944, 3072, 3200, 3328].getD s 0
def L (t : Nat) : Int := [21, 26, 31, 35, 36, 40].getD t 0
def V (t : Nat) : Int := [5, 7, 9].getD t 0

theorem F_le (s : Nat) : 0 ≤ F s ∧ F s ≤ 4000 := by
  match s with
  | 0 | 1 | 2 | 3 | 4 | 5 | 6 | 7 | 8 => decide
  | n + 9 => simp [F]
theorem L_le (s : Nat) : 0 ≤ L s ∧ L s ≤ 40 := by
  match s with
  | 0 | 1 | 2 | 3 | 4 | 5 => decide
  | n + 6 => simp [L]
theorem V_le (s : Nat) : 0 ≤ V s ∧ V s ≤ 9 := by
  match s with
  | 0 | 1 | 2 => decide
  | n + 3 => simp [V]

theorem at9_get (off : Int) (w : World) (s : Nat) (hs : s < 9) : (at9 off w)[s]? = some (Ev.evalCall Try.prog 1 5 8 #[.int .i32 (F s + off)] w) := by
  unfold at9
  match s, hs with
  | 0, _ | 1, _ | 2, _ | 3, _ | 4, _ | 5, _ | 6, _ | 7, _ | 8, _ => rfl

/-- What the program says of a character that was evaluated. -/
theorem told {off : Int} {w : World} {l : List (Option (Value × World))} (h : at9 off w = l) {s : Nat} (hs : s < 9) {k p : Int} (hl : l[s]? = some (pair k p w)) :
    Calls Try.prog 8 #[.int .i32 (F s + off)] w fun e W => e = .returned (.tuple #[.int .i64 k, .int .i64 p]) ∧ W = w := by
  have h1 := at9_get off w s hs
  rw [h, hl] at h1
  exact Ev.calls_eval 1 5 (Option.some.inj h1).symm

theorem cons_any (s t : Nat) (hs : s < 9) (ht : t < 6) (w : World) :
    Calls Try.prog 8 #[.int .i32 (F s + L t)] w fun e W => e = .returned (.tuple #[.int .i64 1, .int .i64 4]) ∧ W = w := by
  have hl : [pair 1 4 w, pair 1 4 w, pair 1 4 w, pair 1 4 w, pair 1 4 w, pair 1 4 w, pair 1 4 w, pair 1 4 w, pair 1 4 w][s]? = some (pair 1 4 w) := by
    match s, hs with
    | 0, _ | 1, _ | 2, _ | 3, _ | 4, _ | 5, _ | 6, _ | 7, _ | 8, _ => rfl
  match t, ht with
  | 0, _ => exact told (c0 w) hs hl
  | 1, _ => exact told (c1 w) hs hl
  | 2, _ => exact told (c2 w) hs hl
  | 3, _ => exact told (c3 w) hs hl
  | 4, _ => exact told (c4 w) hs hl
  | 5, _ => exact told (c5 w) hs hl

theorem ra_any (s : Nat) (hs : s < 9) (w : World) :
    Calls Try.prog 8 #[.int .i32 (F s + 48)] w fun e W => e = .returned (.tuple #[.int .i64 15, .int .i64 4]) ∧ W = w := by
  refine told (r0 w) hs ?_
  match s, hs with
  | 0, _ | 1, _ | 2, _ | 3, _ | 4, _ | 5, _ | 6, _ | 7, _ | 8, _ => rfl

theorem vowel_any (s t : Nat) (hs : s < 9) (ht : t < 3) (w : World) :
    Calls Try.prog 8 #[.int .i32 (F s + V t)] w fun e W => e = .returned (.tuple #[.int .i64 2, .int .i64 4]) ∧ W = w := by
  have hl : [pair 2 4 w, pair 2 4 w, pair 2 4 w, pair 2 4 w, pair 2 4 w, pair 2 4 w, pair 2 4 w, pair 2 4 w, pair 2 4 w][s]? = some (pair 2 4 w) := by
    match s, hs with
    | 0, _ | 1, _ | 2, _ | 3, _ | 4, _ | 5, _ | 6, _ | 7, _ | 8, _ => rfl
  match t, ht with
  | 0, _ => exact told (v0 w) hs hl
  | 1, _ => exact told (v1 w) hs hl
  | 2, _ => exact told (v2 w) hs hl

theorem vir_any (s : Nat) (hs : s < 9) (w : World) : ∃ p : Int,
    Calls Try.prog 8 #[.int .i32 (F s + 77)] w fun e W => e = .returned (.tuple #[.int .i64 4, .int .i64 p]) ∧ W = w := by
  refine ⟨if s < 5 then 8 else 6, told (h0 w) hs ?_⟩
  match s, hs with
  | 0, _ | 1, _ | 2, _ | 3, _ | 4, _ | 5, _ | 6, _ | 7, _ | 8, _ => rfl
end Go.Proofs.Ytpmlofllkhpihaa.Indic
