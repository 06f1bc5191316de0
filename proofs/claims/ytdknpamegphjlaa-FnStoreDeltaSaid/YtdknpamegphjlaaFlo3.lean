/- How the errors of floats add up. No program in sight. -/
import Derived.Test.YtdknpamegphjlaaFlo2
namespace Go.Proofs.Ytdknpamegphjlaa.Sd
open Ieee

/-- v is X, up to e. -/
def Close (e X v : Rat) : Prop := v ≤ X + e ∧ X ≤ v + e
/-- The format is fine enough. -/
structure Fine' (f : Format) : Prop where
  roomy : Roomy f
  u : uu f ≤ 1 / 1000
  e : eta f ≤ uu f / 1000

theorem p2_neg_mul (n : Nat) : p2 (-(n : Int)) * ((2 ^ n : Nat) : Rat) = 1 := by
  rw [← p2_nat, ← p2_add, show -(n : Int) + (n : Int) = 0 by omega]; rfl
theorem p2_neg10 : p2 (-10) = 1 / 1024 := by
  have h := p2_neg_mul 10
  have e : ((2 ^ 10 : Nat) : Rat) = 1024 := rfl
  rw [e] at h
  have h2 : p2 (-((10 : Nat) : Int)) = p2 (-10) := rfl
  rw [h2] at h
  grind
theorem fine_of {f : Format} (hr : Roomy f) (h1 : -(f.fractionBits : Int) - 1 ≤ -10) (h2 : f.leastPlace - 1 ≤ (-(f.fractionBits : Int) - 1) + -10) : Fine' f := by
  have a := p2_mono h1
  have b := p2_mono h2
  rw [p2_add] at b
  have c := p2_neg10
  rw [c] at a b
  have hu := uu_pos f
  unfold uu at hu
  refine ⟨hr, ?_, ?_⟩
  · unfold uu; grind
  · unfold uu eta; grind
theorem single_fine : Fine' single := fine_of single_roomy (by decide) (by decide)
theorem double_fine : Fine' double := fine_of double_roomy (by decide) (by decide)

theorem big60 : (1000000 : Rat) ≤ p2 60 := by
  rw [show (60 : Int) = ((60 : Nat) : Int) from rfl, p2_nat]
  exact Rat.natCast_le_natCast.2 (show 1000000 ≤ 2 ^ 60 by decide)

/-- A quotient's error. -/
theorem quot_close {f : Format} (hf : Fine' f) {x y : Nat} {a b : Rat} (hx : IsVal f x a) (hy : IsVal f y b) (ha : 0 ≤ a) (hb : 0 < b) (hab : a ≤ b) :
    ∃ r v, f.div x y = some r ∧ IsVal f r v ∧ Close (3 * uu f) (a / b) v := by
  obtain ⟨r, v, h1, h2, h3, h4⟩ := div_val hf.roomy hx hy ha hb hab
  have hu := uu_pos f
  have := hf.e
  exact ⟨r, v, h1, h2, by grind, by grind⟩

theorem prod_bound {a b c d : Rat} (h1 : -c ≤ a) (h2 : a ≤ c) (h3 : -d ≤ b) (h4 : b ≤ d) (_hc : 0 ≤ c) (_hd : 0 ≤ d) : a * b ≤ c * d ∧ -(a * b) ≤ c * d := by
  have x1 := Rat.mul_nonneg (show 0 ≤ c - a by grind) (show 0 ≤ d + b by grind)
  have x2 := Rat.mul_nonneg (show 0 ≤ c + a by grind) (show 0 ≤ d - b by grind)
  have x3 := Rat.mul_nonneg (show 0 ≤ c - a by grind) (show 0 ≤ d - b by grind)
  have x4 := Rat.mul_nonneg (show 0 ≤ c + a by grind) (show 0 ≤ d + b by grind)
  constructor <;> grind

/-- A product of numbers from 0 to 1. -/
theorem prod_close {f : Format} (hf : Fine' f) {x y : Nat} {v w P F k : Rat} (hx : IsVal f x v) (hy : IsVal f y w) (hk0 : 0 ≤ k) (hk : k ≤ 15) (hP0 : 0 ≤ P) (hP1 : P ≤ 1) (hF0 : 0 ≤ F) (hF1 : F ≤ 1) (h1 : Close (k * uu f) P v) (h2 : Close (3 * uu f) F w) :
    ∃ r t, f.mul x y = some r ∧ IsVal f r t ∧ Close ((k + 5) * uu f) (P * F) t := by
  have hu := uu_pos f
  have hu1 := hf.u
  have he := hf.e
  obtain ⟨a1, a2⟩ := h1
  obtain ⟨b1, b2⟩ := h2
  have hku : k * uu f ≤ 15 * uu f := Rat.mul_le_mul_of_nonneg_right hk (Rat.le_of_lt hu)
  have hku0 : 0 ≤ k * uu f := Rat.mul_nonneg hk0 (Rat.le_of_lt hu)
  -- the product's size
  obtain ⟨c1, c2⟩ := prod_bound (a := v) (b := w) (c := 11 / 10) (d := 11 / 10) (by grind) (by grind) (by grind) (by grind) (by grind) (by grind)
  obtain ⟨r, t, e1, e2, e3, e4⟩ := mul_val hf.roomy hx hy (M := 5 / 4) (by grind) (by grind) (by have := big60; grind)
  -- its distance
  obtain ⟨d1, d2⟩ := prod_bound (a := v - P) (b := w) (c := k * uu f) (d := 1 + 3 * uu f) (by grind) (by grind) (by grind) (by grind) hku0 (by grind)
  obtain ⟨f1, f2⟩ := prod_bound (a := P) (b := w - F) (c := 1) (d := 3 * uu f) (by grind) (by grind) (by grind) (by grind) (by grind) (by grind)
  have g1 : k * uu f * (3 * uu f) ≤ 15 * uu f * (3 * (1 / 1000)) := by
    have x1 : k * uu f * (3 * uu f) ≤ 15 * uu f * (3 * uu f) := Rat.mul_le_mul_of_nonneg_right hku (by grind)
    have x2 : 15 * uu f * (3 * uu f) ≤ 15 * uu f * (3 * (1 / 1000)) := Rat.mul_le_mul_of_nonneg_left (by grind) (by grind)
    grind
  refine ⟨r, t, e1, e2, ?_, ?_⟩
  · grind
  · grind

theorem mul01 {P F : Rat} (hP0 : 0 ≤ P) (hP1 : P ≤ 1) (hF0 : 0 ≤ F) (hF1 : F ≤ 1) : 0 ≤ P * F ∧ P * F ≤ 1 := by
  have h1 := Rat.mul_nonneg hP0 hF0
  have h2 := Rat.mul_nonneg hP0 (show 0 ≤ 1 - F by grind)
  constructor <;> grind

/-- A whole number times a number from 0 to 1. -/
theorem scale_close {f : Format} (hf : Fine' f) {x y : Nat} {X v P a : Rat} (hx : IsVal f x X) (hy : IsVal f y v) (ha1 : X ≤ a) (ha2 : -X ≤ a) (ha : a ≤ 32768) (hP0 : 0 ≤ P) (hP1 : P ≤ 1) (h : Close (15 * uu f) P v) :
    ∃ r t, f.mul x y = some r ∧ IsVal f r t ∧ Close (17 * uu f * a + eta f) (X * P) t := by
  have hu := uu_pos f
  have hu1 := hf.u
  have ha0 : 0 ≤ a := by grind
  obtain ⟨a1, a2⟩ := h
  obtain ⟨c1, c2⟩ := prod_bound (a := X) (b := v) (c := a) (d := 5 / 4) (by grind) (by grind) (by grind) (by grind) ha0 (by grind)
  obtain ⟨r, t, e1, e2, e3, e4⟩ := mul_val hf.roomy hx hy (M := a * (5 / 4)) c1 c2 (by have := big60; grind)
  obtain ⟨d1, d2⟩ := prod_bound (a := X) (b := v - P) (c := a) (d := 15 * uu f) (by grind) (by grind) (by grind) (by grind) ha0 (by grind)
  have hau := Rat.mul_nonneg ha0 (Rat.le_of_lt hu)
  exact ⟨r, t, e1, e2, by grind, by grind⟩

/-- A sum's error. -/
theorem sum_close {f : Format} (hf : Fine' f) {x y : Nat} {s t T Y A a i : Rat} (hx : IsVal f x s) (hy : IsVal f y t) (hi0 : 0 ≤ i) (hi : i ≤ 5) (hA : 0 ≤ A) (hA2 : A ≤ 200000) (ha : 0 ≤ a) (ha2 : a ≤ 32768) (hT1 : T ≤ A) (hT2 : -T ≤ A) (hY1 : Y ≤ a) (hY2 : -Y ≤ a)
    (h1 : Close ((17 + 2 * i) * uu f * A + 3 * i * eta f) T s) (h2 : Close (17 * uu f * a + eta f) Y t) :
    ∃ r z, f.add x y = some r ∧ IsVal f r z ∧ Close ((17 + 2 * (i + 1)) * uu f * (A + a) + 3 * (i + 1) * eta f) (T + Y) z := by
  have hu := uu_pos f
  have hu1 := hf.u
  have he0 := eta_pos f
  have he := hf.e
  obtain ⟨a1, a2⟩ := h1
  obtain ⟨b1, b2⟩ := h2
  have hAu := Rat.mul_nonneg hA (Rat.le_of_lt hu)
  have hau := Rat.mul_nonneg ha (Rat.le_of_lt hu)
  have hiA : i * (uu f * A) ≤ 5 * (uu f * A) := Rat.mul_le_mul_of_nonneg_right hi (by grind)
  have hiA0 : 0 ≤ i * (uu f * A) := Rat.mul_nonneg hi0 (by grind)
  have hia0 : 0 ≤ i * (uu f * a) := Rat.mul_nonneg hi0 (by grind)
  have hie : i * eta f ≤ 5 * eta f := Rat.mul_le_mul_of_nonneg_right hi (Rat.le_of_lt he0)
  have hie0 : 0 ≤ i * eta f := Rat.mul_nonneg hi0 (Rat.le_of_lt he0)
  have hAu1 : A * uu f ≤ A * (1 / 1000) := Rat.mul_le_mul_of_nonneg_left hu1 hA
  have hau1 : a * uu f ≤ a * (1 / 1000) := Rat.mul_le_mul_of_nonneg_left hu1 ha
  -- the sum's size
  have hM1 : s + t ≤ 11 / 10 * (A + a) + 20 * eta f := by grind
  have hM2 : -(s + t) ≤ 11 / 10 * (A + a) + 20 * eta f := by grind
  obtain ⟨r, z, e1, e2, e3, e4⟩ := add_val hf.roomy hx hy (M := 11 / 10 * (A + a) + 20 * eta f) hM1 hM2 (by have := big60; grind)
  have heu : eta f * uu f ≤ eta f * (1 / 1000) := Rat.mul_le_mul_of_nonneg_left hu1 (Rat.le_of_lt he0)
  refine ⟨r, z, e1, e2, ?_, ?_⟩
  · grind
  · grind
end Go.Proofs.Ytdknpamegphjlaa.Sd
