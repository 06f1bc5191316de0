/- The two answers lie as near as the law says. No program in sight. -/
import Derived.Test.YtdknpamegphjlaaRef
namespace Go.Proofs.Ytdknpamegphjlaa.Sd
open Go Ieee

theorem const_val {bits m : Nat} {e : Int} (h : double.read bits = .number false m e) : IsVal double bits ((m : Rat) * p2 e) := ⟨false, m, e, h, rfl⟩
def cBits : Nat := 4521832792735477133
def sBits : Nat := 4576918229304087675
theorem u_single : 16777216 * uu single = 1 := by
  have h := p2_neg_mul 24
  have e : ((2 ^ 24 : Nat) : Rat) = 16777216 := rfl
  rw [e] at h
  have h2 : uu single = p2 (-((24 : Nat) : Int)) := rfl
  rw [h2]
  grind
theorem u_double : 9007199254740992 * uu double = 1 := by
  have h := p2_neg_mul 53
  have e : ((2 ^ 53 : Nat) : Rat) = 9007199254740992 := rfl
  rw [e] at h
  have h2 : uu double = p2 (-((53 : Nat) : Int)) := rfl
  rw [h2]
  grind
theorem tiny_double : 1000 * eta double ≤ uu double ∧ 0 < eta double := ⟨by have := double_fine.e; grind, eta_pos _⟩
theorem tiny_single : 1000 * eta single ≤ uu single ∧ 0 < eta single := ⟨by have := single_fine.e; grind, eta_pos _⟩
theorem c_val : ∃ v, IsVal double 4521832792735477133 v ∧ 19999 ≤ 10000000000 * v ∧ 10000000000 * v ≤ 20001 := by
  refine ⟨_, const_val (m := 4722366482869645) (e := -71) (by decide), ?_⟩
  have h := p2_neg_mul 71
  have e : ((2 ^ 71 : Nat) : Rat) = 2361183241434822606848 := rfl
  rw [e] at h
  have h2 : p2 (-((71 : Nat) : Int)) = p2 (-71) := rfl
  rw [h2] at h
  have h3 : ((4722366482869645 : Nat) : Rat) = 4722366482869645 := rfl
  rw [h3]
  constructor <;> grind
theorem s_val : ∃ v, IsVal double 4576918229304087675 v ∧ 99 ≤ 10000 * v ∧ 1000 * v ≤ 11 := by
  refine ⟨_, const_val (m := 5764607523034235) (e := -59) (by decide), ?_⟩
  have h := p2_neg_mul 59
  have e : ((2 ^ 59 : Nat) : Rat) = 576460752303423488 := rfl
  rw [e] at h
  have h2 : p2 (-((59 : Nat) : Int)) = p2 (-59) := rfl
  rw [h2] at h
  have h3 : ((5764607523034235 : Nat) : Rat) = 5764607523034235 := rfl
  rw [h3]
  constructor <;> grind

/-- The slack after i items. -/
def SlIs (row : List Int) (i : Nat) (b : Nat) : Prop := ∃ v, IsVal double b v ∧ 99 - (i : Rat) + 330000 * (uu single * mag row i) ≤ 10000 * v ∧ 1000 * v ≤ 11 + 70 * (i : Rat)
theorem sl_start (row : List Int) : SlIs row 0 4576918229304087675 := by
  obtain ⟨v, h1, h2, h3⟩ := s_val
  refine ⟨v, h1, ?_, ?_⟩
  · simp only [mag]
    have : ((0 : Nat) : Rat) = 0 := rfl
    rw [this]; grind
  · have : ((0 : Nat) : Rat) = 0 := rfl
    rw [this]; grind

/-- The step, by numbers alone. -/
theorem sl_nums {us U H X c v t b i P : Rat} (hus : 16777216 * us = 1) (hU : 9007199254740992 * U = 1) (hH : 1000 * H ≤ U) (hX0 : 0 ≤ X) (hX1 : X ≤ 32768) (hc1 : 19999 ≤ 10000000000 * c) (hc2 : 10000000000 * c ≤ 20001)
    (hv1 : 99 - i + 330000 * P ≤ 10000 * v) (hv2 : 1000 * v ≤ 11 + 70 * i) (ht1 : 10 * t ≤ 10 * (X * c) + U + 10 * H) (ht2 : 10 * (X * c) ≤ 10 * t + U + 10 * H) (hb1 : b ≤ v + t + U + H) (hb2 : v + t ≤ b + U + H) :
    99 - (i + 1) + 330000 * (P + us * X) ≤ 10000 * b ∧ 1000 * b ≤ 11 + 70 * (i + 1) := by
  have a1 : 33 * us ≤ c := by grind
  have a2 : X * (33 * us) ≤ X * c := Rat.mul_le_mul_of_nonneg_left a1 hX0
  have a3 : X * (10000000000 * c) ≤ X * 20001 := Rat.mul_le_mul_of_nonneg_left hc2 hX0
  have a4 : 10000 * (X * c) ≤ 700 := by grind
  constructor
  · grind
  · grind

theorem sl_step {row : List Int} {i s : Nat} {x : Int} (hi : i < 5) (hx : row[i]? = some x) (hrow : ∀ x ∈ row, -32768 ≤ x ∧ x ≤ 32767) (h : SlIs row i s) :
    ∃ z y, double.mul (FloatKind.nearest .f64 (x.natAbs : Nat)) 4521832792735477133 = some z ∧ double.add s z = some y ∧ SlIs row (i + 1) y := by
  obtain ⟨v, h1, h2, h3⟩ := h
  obtain ⟨c, g1, g2, g3⟩ := c_val
  have hxb := hrow x (List.mem_of_getElem? hx)
  have hX := int_val .f64 ((x.natAbs : Nat) : Int) (by omega)
  rw [Rat.intCast_natCast] at hX
  have hX1 : ((x.natAbs : Nat) : Rat) ≤ 32768 := Rat.natCast_le_natCast.2 (show x.natAbs ≤ 32768 by omega)
  have hX0 : (0 : Rat) ≤ ((x.natAbs : Nat) : Rat) := Rat.natCast_nonneg
  have hm := Rat.mul_nonneg (Rat.le_of_lt (uu_pos single)) (mag_nonneg row i)
  have hi5 : (i : Rat) ≤ 5 := Rat.natCast_le_natCast.2 (show i ≤ 5 by omega)
  have hi0 : (0 : Rat) ≤ (i : Rat) := Rat.natCast_nonneg
  have d1 : row.getD i 0 = x := by rw [List.getD_eq_getElem?_getD, hx]; rfl
  have c1 : ((i + 1 : Nat) : Rat) = (i : Rat) + 1 := by rw [Rat.natCast_add]; rfl
  obtain ⟨X, hXe⟩ : ∃ X : Rat, X = ((x.natAbs : Nat) : Rat) := ⟨_, rfl⟩
  rw [← hXe] at hX hX1 hX0
  have b60 := big60
  have a3 : X * (10000000000 * c) ≤ X * 20001 := Rat.mul_le_mul_of_nonneg_left g3 hX0
  have a4 : X * c ≤ 1 / 10 := by clear hm h2 h3 hi5 hi0 c1; grind
  have a0 : 0 ≤ X * c := Rat.mul_nonneg hX0 (by clear hm h2 h3 hi5 hi0 c1; grind)
  obtain ⟨z, t, m1, m2, m3, m4⟩ := mul_val double_roomy hX g1 (M := 1 / 10) a4 (by clear hm h2 h3 hi5 hi0 c1; grind) (by clear hm h2 h3 hi5 hi0 c1; grind)
  have hU := u_double
  have hH := tiny_double
  have v1 : v ≤ 1 / 2 := by clear hm h2 m3 m4 a3 a4 a0 c1 hXe; grind
  have v0 : 0 ≤ v := by clear h3 m3 m4 a3 a4 a0 c1 hXe; grind
  have t1 : t ≤ 1 / 5 := by clear hm h2 h3 hi5 hi0 c1; grind
  have t0 : -(1 / 5) ≤ t := by clear hm h2 h3 hi5 hi0 c1; grind
  obtain ⟨y, b, n1, n2, n3, n4⟩ := add_val double_roomy h1 m2 (M := 1) (by clear hm h2 h3 hi5 hi0 c1; grind) (by clear hm h2 h3 hi5 hi0 c1; grind) (by clear hm h2 h3 hi5 hi0 c1; grind)
  have r := sl_nums u_single hU hH.1 hX0 hX1 g2 g3 h2 h3 (t := t) (b := b) (by clear hm h2 h3 hi5 hi0 c1; grind) (by clear hm h2 h3 hi5 hi0 c1; grind) (by clear hm h2 h3 hi5 hi0 c1; grind) (by clear hm h2 h3 hi5 hi0 c1; grind)
  refine ⟨z, y, m1, n1, b, n2, ?_, ?_⟩
  · simp only [mag]
    rw [c1, d1, ← hXe, Rat.mul_add]
    exact r.1
  · rw [c1]
    exact r.2

/-- The end, by numbers alone. -/
theorem end_nums {us es U H M n T v v2 sv b : Rat} (hus : 16777216 * us = 1) (hes : 1000 * es ≤ us) (hes0 : 0 < es) (hU : 9007199254740992 * U = 1) (hH : 1000 * H ≤ U) (hH0 : 0 < H) (hM0 : 0 ≤ M) (hM1 : M ≤ 163840) (hn : n ≤ 5)
    (h1 : Close ((17 + 2 * n) * us * M + 3 * n * es) T v) (h2 : Close ((17 + 2 * n) * U * M + 3 * n * H) T v2) (hs : 99 - n + 330000 * (us * M) ≤ 10000 * sv) (hb1 : b ≤ v - v2 + 1 * U + H) (hb2 : v - v2 ≤ b + 1 * U + H) : b ≤ sv ∧ -b ≤ sv ∧ v - v2 ≤ 1 ∧ -(v - v2) ≤ 1 := by
  obtain ⟨a1, a2⟩ := h1
  obtain ⟨b1, b2⟩ := h2
  have hus0 : 0 ≤ us := by grind
  have hU0 : 0 ≤ U := by grind
  have m0 : 0 ≤ us * M := Rat.mul_nonneg hus0 hM0
  have m1 : us * M ≤ us * 163840 := Rat.mul_le_mul_of_nonneg_left hM1 hus0
  have m2 : n * (us * M) ≤ 5 * (us * M) := Rat.mul_le_mul_of_nonneg_right hn m0
  have m3 : 0 ≤ U * M := Rat.mul_nonneg hU0 hM0
  have m4 : n * (U * M) ≤ 5 * (U * M) := Rat.mul_le_mul_of_nonneg_right hn m3
  have m5 : n * es ≤ 5 * es := Rat.mul_le_mul_of_nonneg_right hn (Rat.le_of_lt hes0)
  have m6 : n * H ≤ 5 * H := Rat.mul_le_mul_of_nonneg_right hn (Rat.le_of_lt hH0)
  have m7 : U * M ≤ U * 163840 := Rat.mul_le_mul_of_nonneg_left hM1 hU0
  have e1 : (17 + 2 * n) * us * M + 3 * n * es ≤ 27 * (us * M) + 15 * es := by grind
  have e2 : (17 + 2 * n) * U * M + 3 * n * H ≤ 27 * (U * M) + 15 * H := by grind
  have f1 : v ≤ T + (27 * (us * M) + 15 * es) := by grind
  have f2 : T ≤ v + (27 * (us * M) + 15 * es) := by grind
  have f3 : v2 ≤ T + (27 * (U * M) + 15 * H) := by grind
  have f4 : T ≤ v2 + (27 * (U * M) + 15 * H) := by grind
  clear a1 a2 b1 b2 e1 e2 m2 m4 m5 m6
  generalize us * M = p at *
  generalize U * M = q at *
  refine ⟨?_, ?_, ?_, ?_⟩ <;> grind

theorem tot_size {us es M n T v : Rat} (hus : 16777216 * us = 1) (hes : 1000 * es ≤ us) (hes0 : 0 < es) (hM0 : 0 ≤ M) (hM1 : M ≤ 163840) (hn : n ≤ 5) (hT1 : T ≤ M) (hT2 : -T ≤ M) (h1 : Close ((17 + 2 * n) * us * M + 3 * n * es) T v) : v ≤ 1000000 ∧ -v ≤ 1000000 := by
  obtain ⟨a1, a2⟩ := h1
  have hus0 : 0 ≤ us := by grind
  have m0 : 0 ≤ us * M := Rat.mul_nonneg hus0 hM0
  have m1 : us * M ≤ us * 163840 := Rat.mul_le_mul_of_nonneg_left hM1 hus0
  have m2 : n * (us * M) ≤ 5 * (us * M) := Rat.mul_le_mul_of_nonneg_right hn m0
  have m5 : n * es ≤ 5 * es := Rat.mul_le_mul_of_nonneg_right hn (Rat.le_of_lt hes0)
  have e1 : (17 + 2 * n) * us * M + 3 * n * es ≤ 27 * (us * M) + 15 * es := by grind
  constructor <;> grind

theorem end_val {all : List (List Ax)} {cs regs row : List Int} {ax n b32 b64 sb : Nat} (hn : n ≤ 5) (hrow : ∀ x ∈ row, -32768 ≤ x ∧ x ≤ 32767) (h1 : TotIs single all cs regs row ax n b32) (h2 : TotIs double all cs regs row ax n b64) (h3 : SlIs row n sb) :
    ∃ c d, floatToFloatBits .f32 b32 .f64 = some c ∧ double.sub c b64 = some d ∧ ∃ dv sv, IsVal double d dv ∧ IsVal double sb sv ∧ dv ≤ sv ∧ -dv ≤ sv := by
  obtain ⟨v, a1, a2⟩ := h1
  obtain ⟨v2, b1, b2⟩ := h2
  obtain ⟨sv, c1, c2, c3⟩ := h3
  have hn5 : (n : Rat) ≤ 5 := Rat.natCast_le_natCast.2 hn
  have hM0 := mag_nonneg row n
  have hM1 : mag row n ≤ 163840 := by
    have := mag_le row hrow n
    grind
  obtain ⟨hT1, hT2⟩ := tot_abs all cs regs row ax n
  have b60 := big60
  obtain ⟨s1, s2⟩ := tot_size u_single tiny_single.1 tiny_single.2 hM0 hM1 hn5 hT1 hT2 a2
  obtain ⟨c, e1, e2⟩ := conv_val a1 (Rat.le_trans s1 b60) (Rat.le_trans s2 b60)
  have hU := u_double
  have hH := tiny_double
  have z := end_nums u_single tiny_single.1 tiny_single.2 u_double tiny_double.1 tiny_double.2 hM0 hM1 hn5 a2 b2 c2 (b := v - v2) (by grind) (by grind)
  obtain ⟨d, dv, f1, f2, f3, f4⟩ := sub_val double_roomy e2 b1 (M := 1) z.2.2.1 z.2.2.2 (by grind)
  have y := end_nums u_single tiny_single.1 tiny_single.2 u_double tiny_double.1 tiny_double.2 hM0 hM1 hn5 a2 b2 c2 f3 f4
  exact ⟨c, d, e1, f1, dv, sv, f2, c1, y.1, y.2.1⟩

theorem rat_tri (a b : Rat) : a < b ∨ a = b ∨ b < a := by
  by_cases h : a < b
  · exact Or.inl h
  · by_cases h2 : a = b
    · exact Or.inr (Or.inl h2)
    · exact Or.inr (Or.inr (by grind))

/-- The greater of two floats, and whether it is small enough. -/
theorem max_val {P : Program} {x y s : Nat} {a b sv : Rat} (hx : IsVal double x a) (hy : IsVal double y b) (hs : IsVal double s sv) (h1 : a ≤ sv) (h2 : b ≤ sv) :
    ∃ r, (∀ (ts : Array TypeId) (t : TypeId) (w : World), (Builtin.max_ ts t #[.float .f64 x, .float .f64 y]).run P w = .ok (.float .f64 r) w) ∧ (FloatKind.f64.format.order r s == some .lt || FloatKind.f64.format.order r s == some .eq) = true := by
  obtain ⟨o1, o2, o3⟩ := order_val hx hy
  have key : ∀ r v, IsVal double r v → v ≤ sv → (FloatKind.f64.format.order r s == some .lt || FloatKind.f64.format.order r s == some .eq) = true := fun r v hr hv => by
    obtain ⟨p1, p2, p3⟩ := order_val hr hs
    have : double.order r s = some .lt ∨ double.order r s = some .eq := by
      rcases rat_tri v sv with h | h | h
      · exact Or.inl (p1 h)
      · exact Or.inr (p2 h)
      · exact absurd hv (Rat.not_le.2 h)
    rcases this with e | e <;> simp [FloatKind.format, e]
  rcases rat_tri a b with h | h | h
  · refine ⟨y, fun ts t w => ?_, key y b hy h2⟩
    have e : FloatKind.f64.format.order x y = some .lt := o1 h
    simp [Builtin.max_, Builtin.max2, e]
  · refine ⟨if (FloatKind.f64.decode x).neg then y else x, fun ts t w => ?_, ?_⟩
    · have e : FloatKind.f64.format.order x y = some .eq := o2 h
      simp [Builtin.max_, Builtin.max2, e]
    · split
      · exact key y b hy h2
      · exact key x a hx h1
  · refine ⟨x, fun ts t w => ?_, key x a hx h1⟩
    have e : FloatKind.f64.format.order x y = some .gt := o3 h
    simp [Builtin.max_, Builtin.max2, e]
end Go.Proofs.Ytdknpamegphjlaa.Sd
