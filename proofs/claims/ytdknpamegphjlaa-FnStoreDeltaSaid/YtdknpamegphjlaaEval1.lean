/- An axis's factor, walked. -/
import Derived.Test.YtdknpamegphjlaaFac
import Derived.Test.YtdknpamegphjlaaIvs2
import Derived.Laws.FloatArith
namespace Go.Proofs.Ytdknpamegphjlaa.Sd
open Go Go.RowKit Ieee

def Facd (x : Ax) (c : Int) (w : World) (e : Ending) (w' : World) : Prop := (∃ r, e = .returned (.float .f32 r) ∧ FacIs single x c r) ∧ Below w.heap.size w w'

set_option maxRecDepth 1000000 in
set_option maxHeartbeats 2000000 in
theorem eval1_any (x : Ax) (c : Int) (w : World) (hx : x.Ok) (hc : -16384 ≤ c ∧ c ≤ 16384) :
    Calls Try.prog 30 #[.agg #[.int .i16 x.a, .int .i16 x.b, .int .i16 x.c], .int .i16 c] w (Facd x c w) := by
  obtain ⟨a, b, d⟩ := x
  obtain ⟨h1, h2, h3, h4, h5⟩ := hx
  dsimp only at h1 h2 h3 h4 h5 ⊢
  have v1 : fac ⟨a, b, d⟩ c = 1 → FacIs single ⟨a, b, d⟩ c 1065353216 := fun h => ⟨1, one_single, by rw [h]; exact close_self (u3_nonneg _)⟩
  have v0 : fac ⟨a, b, d⟩ c = 0 → FacIs single ⟨a, b, d⟩ c 0 := fun h => ⟨0, zero_single, by rw [h]; exact close_self (u3_nonneg _)⟩
  have V1 := Lib.hid v1
  have V0 := Lib.hid v0
  clear v1 v0
  have BB := Lib.hid ((Below.refl _ w).alloc (Nat.le_refl _) (.cells #[.int .i16 a, .int .i16 b, .int .i16 d] 108))
  by_cases c1 : b = 0
  · have F := Lib.hid (V1.out (by unfold fac; simp [c1]))
    have k1 : (b == 0) = true := by rw [beq_iff_eq]; exact c1
    clear c1 V1 V0 h1 h2 h3 h4 h5
    go_enter Try.func30, Try.ntmps30
    go_wp2_with fail
    go_quiet (fail)
    go_wp2_with fail
    all_goals
      go_ret
      exact ⟨⟨_, rfl, F.out⟩, below_drewN BB.out _⟩
  have k1 : (b == 0) = false := by rw [beq_eq_false_iff_ne]; exact c1
  by_cases c2 : c = b
  · have F := Lib.hid (V1.out (by unfold fac; simp [c2]))
    have k2 : (c == b) = true := by rw [beq_iff_eq]; exact c2
    clear c1 c2 V1 V0 h1 h2 h3 h4 h5
    go_enter Try.func30, Try.ntmps30
    go_wp2_with fail
    go_quiet (fail)
    go_wp2_with fail
    all_goals
      go_ret
      exact ⟨⟨_, rfl, F.out⟩, below_drewN BB.out _⟩
  have k2 : (c == b) = false := by rw [beq_eq_false_iff_ne]; exact c2
  by_cases c3 : c = 0
  · have F := Lib.hid (V0.out (by unfold fac; rw [if_neg (by dsimp only; omega), if_pos (by dsimp only; omega)]))
    have k3 : (c == 0) = true := by rw [beq_iff_eq]; exact c3
    clear c1 c2 c3 V1 V0 h1 h2 h3 h4 h5
    go_enter Try.func30, Try.ntmps30
    go_wp2_with fail
    go_quiet (fail)
    go_wp2_with fail
    all_goals
      go_ret
      exact ⟨⟨_, rfl, F.out⟩, below_drewN BB.out _⟩
  have k3 : (c == 0) = false := by rw [beq_eq_false_iff_ne]; exact c3
  by_cases c4 : c ≤ a
  · have F := Lib.hid (V0.out (by unfold fac; rw [if_neg (by dsimp only; omega), if_pos (by dsimp only; omega)]))
    have k4 : decide (c ≤ a) = true := decide_eq_true c4
    clear c1 c2 c3 c4 V1 V0 h1 h2 h3 h4 h5
    go_enter Try.func30, Try.ntmps30
    go_wp2_with fail
    go_quiet (fail)
    go_wp2_with fail
    all_goals
      go_ret
      exact ⟨⟨_, rfl, F.out⟩, below_drewN BB.out _⟩
  have k4 : decide (c ≤ a) = false := decide_eq_false c4
  by_cases c5 : d ≤ c
  · have F := Lib.hid (V0.out (by unfold fac; rw [if_neg (by dsimp only; omega), if_pos (by dsimp only; omega)]))
    have k5 : decide (d ≤ c) = true := decide_eq_true c5
    clear c1 c2 c3 c4 c5 V1 V0 h1 h2 h3 h4 h5
    go_enter Try.func30, Try.ntmps30
    go_wp2_with fail
    go_quiet (fail)
    go_wp2_with fail
    all_goals
      go_ret
      exact ⟨⟨_, rfl, F.out⟩, below_drewN BB.out _⟩
  have k5 : decide (d ≤ c) = false := decide_eq_false c5
  by_cases c6 : c < b
  · obtain ⟨r, v, q1, q2, q3⟩ := quo_fac (k := .f32) single_fine (m := c - a) (n := b - a) (by omega) (by omega) (by omega) (by omega)
    have F : Hid (FacIs single ⟨a, b, d⟩ c r) := Lib.hid ⟨v, q2, by unfold fac; rw [if_neg (by dsimp only; omega), if_neg (by dsimp only; omega), if_pos (by dsimp only; omega)]; exact q3⟩
    have k6 : decide (c < b) = true := decide_eq_true c6
    have w1 : IntKind.i16.wrap (c - a) = c - a := IntWalk.i16_in _ (by omega)
    have w2 : IntKind.i16.wrap (b - a) = b - a := IntWalk.i16_in _ (by omega)
    have hop : ∀ t W, (binOp .quo t (.float .f32 (floatOfInt .f32 (c - a))) (.float .f32 (floatOfInt .f32 (b - a)))).run Try.prog W = .ok (.float .f32 r) W := fun t W => run_float_arith W .quo t .f32 _ _ r q1
    clear c1 c2 c3 c4 c5 c6 V1 V0 h1 h2 h3 h4 h5 q1 q2 q3
    go_enter Try.func30, Try.ntmps30
    go_wp2_with fail
    go_quiet (fail)
    go_wp2_with (simp only [w1, w2, hop])
    all_goals
      go_ret
      exact ⟨⟨_, rfl, F.out⟩, below_drewN BB.out _⟩
  · obtain ⟨r, v, q1, q2, q3⟩ := quo_fac (k := .f32) single_fine (m := d - c) (n := d - b) (by omega) (by omega) (by omega) (by omega)
    have F : Hid (FacIs single ⟨a, b, d⟩ c r) := Lib.hid ⟨v, q2, by unfold fac; rw [if_neg (by dsimp only; omega), if_neg (by dsimp only; omega), if_neg (by dsimp only; omega)]; exact q3⟩
    have k6 : decide (c < b) = false := decide_eq_false c6
    have w1 : IntKind.i16.wrap (d - c) = d - c := IntWalk.i16_in _ (by omega)
    have w2 : IntKind.i16.wrap (d - b) = d - b := IntWalk.i16_in _ (by omega)
    have hop : ∀ t W, (binOp .quo t (.float .f32 (floatOfInt .f32 (d - c))) (.float .f32 (floatOfInt .f32 (d - b)))).run Try.prog W = .ok (.float .f32 r) W := fun t W => run_float_arith W .quo t .f32 _ _ r q1
    clear c1 c2 c3 c4 c5 c6 V1 V0 h1 h2 h3 h4 h5 q1 q2 q3
    go_enter Try.func30, Try.ntmps30
    go_wp2_with fail
    go_quiet (fail)
    go_wp2_with (simp only [w1, w2, hop])
    all_goals
      go_ret
      exact ⟨⟨_, rfl, F.out⟩, below_drewN BB.out _⟩
end Go.Proofs.Ytdknpamegphjlaa.Sd
