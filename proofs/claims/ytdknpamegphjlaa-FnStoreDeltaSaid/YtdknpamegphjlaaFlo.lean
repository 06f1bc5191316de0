/- What is left of a number when it is written as a float: bounds, over exact fractions. No program in sight. -/
import Derived.Laws.FloatBits
namespace Go.Proofs.Ytdknpamegphjlaa.Sd
open Ieee

def p2 (e : Int) : Rat := (2 : Rat) ^ e
theorem p2_pos (e : Int) : 0 < p2 e := Rat.zpow_pos (by decide)
theorem p2_add (a b : Int) : p2 (a + b) = p2 a * p2 b := Rat.zpow_add (by decide) a b
theorem p2_nat (n : Nat) : p2 (n : Int) = ((2 ^ n : Nat) : Rat) := by
  unfold p2; rw [Rat.zpow_natCast]; simp
theorem p2_zero : p2 0 = 1 := rfl
theorem p2_one_le (n : Nat) : 1 ≤ p2 (n : Int) := by
  rw [p2_nat]
  have : 1 ≤ 2 ^ n := Nat.one_le_two_pow
  exact_mod_cast Rat.natCast_le_natCast.2 this
theorem mul_nonneg {a b : Rat} (h : 0 ≤ a) (g : 0 ≤ b) : 0 ≤ a * b := Rat.mul_nonneg h g
theorem p2_mono {a b : Int} (h : a ≤ b) : p2 a ≤ p2 b := by
  obtain ⟨n, rfl⟩ : ∃ n : Nat, b = a + n := ⟨(b - a).toNat, by omega⟩
  rw [p2_add]
  have h1 := p2_pos a
  have h2 := p2_one_le n
  have := Rat.mul_nonneg (Rat.le_of_lt h1) (show 0 ≤ p2 (n : Int) - 1 by grind)
  grind
theorem p2_lt {a b : Int} (h : a < b) : p2 a < p2 b := by
  have h1 := p2_mono (show a + 1 ≤ b by omega)
  rw [p2_add] at h1
  have h2 := p2_pos a
  have h3 : p2 1 = 2 := rfl
  rw [h3] at h1
  grind
theorem p2_le_iff {a b : Int} (h : p2 a ≤ p2 b) : a ≤ b := by
  by_cases h1 : a ≤ b
  · exact h1
  · have := p2_lt (show b < a by omega)
    grind

/-- The nearest whole number. -/
theorem cut_near (neg : Bool) (n drop : Nat) : 2 * (Toward.even.cut neg n drop * 2 ^ drop) ≤ 2 * n + 2 ^ drop ∧ 2 * n ≤ 2 * (Toward.even.cut neg n drop * 2 ^ drop) + 2 ^ drop := by
  unfold Toward.cut
  simp only [Nat.one_shiftLeft]
  by_cases hd : drop ≤ n.log2 + 2
  · rw [Nat.min_eq_left hd]
    have hg : 0 < 2 ^ drop := Nat.two_pow_pos _
    generalize 2 ^ drop = gap at *
    have h1 := Nat.div_add_mod n gap
    have h2 := Nat.mod_lt n hg
    generalize n / gap = low at *
    generalize n % gap = rest at *
    have e1 : (low + 0) * gap = gap * low := by rw [Nat.add_zero, Nat.mul_comm]
    have e2 : (low + 1) * gap = gap * low + gap := by rw [Nat.mul_comm, Nat.mul_succ]
    by_cases c1 : gap < 2 * rest
    · simp only [c1, decide_true, Bool.true_or, Bool.toNat_true, e2]
      omega
    · by_cases c2 : gap = 2 * rest
      · by_cases c3 : low % 2 = 1
        · have : (gap == 2 * rest && low % 2 == 1) = true := by simp [c2, c3]
          rw [this, Bool.or_true]
          simp only [Bool.toNat_true, e2]
          omega
        · have h3 : (gap == 2 * rest && low % 2 == 1) = false := by simp [c3]
          rw [h3]
          simp only [c1, decide_false, Bool.or_false, Bool.toNat_false, e1]
          omega
      · have h3 : (gap == 2 * rest && low % 2 == 1) = false := by simp [c2]
        rw [h3]
        simp only [c1, decide_false, Bool.or_false, Bool.toNat_false, e1]
        omega
  · rw [Nat.min_eq_right (by omega)]
    have hn : n < 2 ^ (n.log2 + 1) := Nat.lt_log2_self
    have e : 2 ^ (n.log2 + 2) = 2 * 2 ^ (n.log2 + 1) := by rw [Nat.pow_succ]; omega
    have hle : 2 ^ (n.log2 + 2) ≤ 2 ^ drop := Nat.pow_le_pow_right (by decide) (by omega)
    rw [Nat.div_eq_of_lt (by omega), Nat.mod_eq_of_lt (by omega)]
    have c1 : ¬ 2 ^ (n.log2 + 2) < 2 * n := by omega
    simp [c1]
    omega

def sgn (s : Bool) (v : Rat) : Rat := if s then -v else v

/-- The word stands for this fraction. -/
def IsVal (f : Format) (bits : Nat) (v : Rat) : Prop := ∃ s m e, f.read bits = .number s m e ∧ v = sgn s ((m : Rat) * p2 e)

theorem read_word (f : Format) (neg : Bool) (rung : Nat) (h : rung < f.infRung) (hi : f.infRung < f.signWeight) :
    f.read (f.word neg rung) = if rung < f.binade then .number neg rung f.leastPlace else .number neg (f.binade + rung % f.binade) (f.leastPlace + (rung / f.binade - 1 : Nat)) := by
  have hw : 0 < f.signWeight := by omega
  have h1 : f.word neg rung / f.signWeight % 2 = if neg then 1 else 0 := by
    unfold Format.word
    cases neg
    · simp [Nat.div_eq_of_lt (show rung < f.signWeight by omega)]
    · simp only [if_true]
      rw [Nat.add_div_left _ hw, Nat.div_eq_of_lt (by omega)]
  have h2 : f.word neg rung % f.signWeight = rung := by
    unfold Format.word
    cases neg
    · simp [Nat.mod_eq_of_lt (show rung < f.signWeight by omega)]
    · simp only [if_true]
      rw [Nat.add_mod_left, Nat.mod_eq_of_lt (by omega)]
  unfold Format.read
  simp only [h1, h2, h, if_true]
  cases neg <;> simp

theorem read_rung (f : Format) (neg : Bool) (q k : Nat) (hk : k ≤ 2 * f.binade) (hq : q = 0 ∨ f.binade ≤ k) (h : q * f.binade + k < f.infRung) :
    ∃ m e, f.read (f.word neg (q * f.binade + k)) = .number neg m e ∧ (m : Rat) * p2 e = (k : Rat) * p2 (f.leastPlace + q) := by
  rw [read_word f neg _ h f.infRung_lt]
  have hB : 0 < f.binade := Nat.two_pow_pos _
  generalize f.binade = B at *
  by_cases h0 : q * B + k < B
  · have hq0 : q = 0 := by
      rcases hq with h | h
      · exact h
      · omega
    subst hq0
    rw [if_pos h0]
    exact ⟨_, _, rfl, by simp⟩
  · rw [if_neg h0]
    refine ⟨_, _, rfl, ?_⟩
    by_cases hlt : k < B
    · have hq0 : q = 0 := by
        rcases hq with h | h
        · exact h
        · omega
      subst hq0
      omega
    · by_cases h2 : k < 2 * B
      · have e1 : (q * B + k) % B = k - B := by
          rw [show q * B + k = (k - B) + B * (q + 1) by rw [Nat.mul_add, Nat.mul_comm B q]; omega, Nat.add_mul_mod_self_left, Nat.mod_eq_of_lt (by omega)]
        have e2 : (q * B + k) / B = q + 1 := by
          rw [show q * B + k = (k - B) + B * (q + 1) by rw [Nat.mul_add, Nat.mul_comm B q]; omega, Nat.add_mul_div_left _ _ hB, Nat.div_eq_of_lt (by omega)]
          omega
        rw [e1, e2, show B + (k - B) = k by omega, show q + 1 - 1 = q by omega]
      · have hk2 : k = 2 * B := by omega
        subst hk2
        have e1 : (q * B + 2 * B) % B = 0 := by rw [← Nat.add_mul, Nat.mul_mod_left]
        have e2 : (q * B + 2 * B) / B = q + 2 := by rw [← Nat.add_mul, Nat.mul_div_left _ hB]
        rw [e1, e2, show q + 2 - 1 = q + 1 by omega, Nat.add_zero, show f.leastPlace + ((q + 1 : Nat) : Int) = (f.leastPlace + q) + 1 by omega, p2_add (f.leastPlace + q) 1]
        have h3 : p2 1 = 2 := rfl
        rw [h3, Rat.natCast_mul]
        have : ((2 : Nat) : Rat) = 2 := rfl
        rw [this]
        grind

/-- Enough room for numbers up to 2 ^ 60. -/
def Roomy (f : Format) : Prop := ((60 - f.fractionBits - f.leastPlace).toNat + 2) < 2 ^ f.exponentBits - 1
theorem single_roomy : Roomy single := by unfold Roomy; decide
theorem double_roomy : Roomy double := by unfold Roomy; decide

theorem nat_lt_p2 {a : Nat} {n : Nat} (h : a < 2 ^ n) : (a : Rat) < p2 (n : Int) := by
  rw [p2_nat]; exact Rat.natCast_lt_natCast.2 h
theorem nat_le_p2 {a : Nat} {n : Nat} (h : 2 ^ n ≤ a) : p2 (n : Int) ≤ (a : Rat) := by
  rw [p2_nat]; exact Rat.natCast_le_natCast.2 h

theorem half_cut (neg : Bool) (mag : Nat) (place last : Int) :
    2 * (Toward.even.cut neg (mag <<< (place - last).toNat) (last - place).toNat : Rat) ≤ 2 * ((mag : Rat) * p2 (place - last)) + 1 ∧ 2 * ((mag : Rat) * p2 (place - last)) ≤ 2 * (Toward.even.cut neg (mag <<< (place - last).toNat) (last - place).toNat : Rat) + 1 := by
  obtain ⟨h1, h2⟩ := cut_near neg (mag <<< (place - last).toNat) (last - place).toNat
  generalize Toward.even.cut neg (mag <<< (place - last).toNat) (last - place).toNat = k at *
  rw [Nat.shiftLeft_eq] at h1 h2
  have hD := p2_pos ((last - place).toNat : Int)
  have e : p2 ((place - last).toNat : Int) = p2 (place - last) * p2 ((last - place).toNat : Int) := by
    rw [← p2_add]; congr 1; omega
  have g1 := Rat.natCast_le_natCast.2 h1
  have g2 := Rat.natCast_le_natCast.2 h2
  have t2 : ((2 : Nat) : Rat) = 2 := rfl
  rw [Rat.natCast_add, Rat.natCast_mul, Rat.natCast_mul, Rat.natCast_mul, Rat.natCast_mul, ← p2_nat, ← p2_nat, e, t2] at g1
  rw [Rat.natCast_add, Rat.natCast_mul, Rat.natCast_mul, Rat.natCast_mul, Rat.natCast_mul, ← p2_nat, ← p2_nat, e, t2] at g2
  generalize p2 ((last - place).toNat : Int) = D at *
  generalize p2 (place - last) = y at *
  constructor
  · refine Rat.le_of_mul_le_mul_right (c := D) ?_ hD
    grind
  · refine Rat.le_of_mul_le_mul_right (c := D) ?_ hD
    grind

theorem nearest_val (f : Format) (hf : Roomy f) (neg : Bool) (mag : Nat) (place : Int) (h : (mag : Rat) * p2 place ≤ p2 60) :
    ∃ v, IsVal f (f.nearest neg mag place) (sgn neg v) ∧ 0 ≤ v ∧ v ≤ (mag : Rat) * p2 place + (mag : Rat) * p2 place * p2 (-(f.fractionBits : Int) - 1) + p2 (f.leastPlace - 1) ∧
      (mag : Rat) * p2 place ≤ v + (mag : Rat) * p2 place * p2 (-(f.fractionBits : Int) - 1) + p2 (f.leastPlace - 1) ∧
      (mag < 2 ^ (f.fractionBits + 1) → f.leastPlace ≤ place → v = (mag : Rat) * p2 place) := by
  have hB : 0 < f.binade := Nat.two_pow_pos _
  have hn := p2_pos (f.leastPlace - 1)
  unfold Format.nearest
  by_cases hm : mag = 0
  · subst hm
    rw [if_pos rfl]
    have h0 : 0 < f.infRung := by
      unfold Format.infRung Roomy at *
      exact Nat.mul_pos (by omega) hB
    refine ⟨0, ⟨neg, 0, f.leastPlace, ?_, ?_⟩, Rat.le_refl, ?_, ?_, fun _ _ => (Rat.zero_mul _).symm⟩
    · rw [read_word f neg 0 h0 f.infRung_lt, if_pos hB]
    · congr 1
      show (0 : Rat) = 0 * _
      rw [Rat.zero_mul]
    · show (0 : Rat) ≤ 0 * _ + 0 * _ * _ + _
      grind
    · show (0 : Rat) * _ ≤ 0 + 0 * _ * _ + _
      grind
  rw [if_neg hm]
  have l1 : 2 ^ mag.log2 ≤ mag := Nat.log2_self_le hm
  have l2 : mag < 2 ^ (mag.log2 + 1) := Nat.lt_log2_self
  have l3 : mag < 2 ^ (f.fractionBits + 1) → mag.log2 ≤ f.fractionBits := fun h => by
    have := (Nat.log2_lt hm).2 h
    omega
  have r1 := nat_le_p2 l1
  have r2 := nat_lt_p2 l2
  generalize hL : mag.log2 = L at *
  clear l1 l2 hL
  have hp := p2_pos place
  have x1 : p2 (place + L) ≤ (mag : Rat) * p2 place := by
    rw [p2_add, Rat.mul_comm]
    exact Rat.mul_le_mul_of_nonneg_right r1 (Rat.le_of_lt hp)
  have hE : place + L ≤ 60 := p2_le_iff (by grind)
  dsimp only
  obtain ⟨last, hlast⟩ : ∃ last, last = max (place + L - f.fractionBits) f.leastPlace := ⟨_, rfl⟩
  rw [← hlast]
  obtain ⟨k1, k2⟩ := half_cut neg mag place last
  generalize Toward.even.cut neg (mag <<< (place - last).toNat) (last - place).toNat = k at *
  obtain ⟨q, hq⟩ : ∃ q, q = (last - f.leastPlace).toNat := ⟨_, rfl⟩
  rw [← hq]
  have hql : last = f.leastPlace + q := by omega
  have hpl := p2_pos (place - last)
  have y2 : (mag : Rat) * p2 (place - last) < p2 (f.fractionBits + 1 : Nat) := by
    have a1 : (mag : Rat) * p2 (place - last) < p2 ((L + 1 : Nat) : Int) * p2 (place - last) := by
      have := Rat.mul_pos (show 0 < p2 ((L + 1 : Nat) : Int) - (mag : Rat) by grind) hpl
      grind
    have a2 : p2 ((L + 1 : Nat) : Int) * p2 (place - last) ≤ p2 (f.fractionBits + 1 : Nat) := by
      rw [← p2_add]
      exact p2_mono (by omega)
    grind
  have hk2B : k ≤ 2 * f.binade := by
    have a3 : p2 ((f.fractionBits + 1 : Nat) : Int) = ((2 * f.binade : Nat) : Rat) := by
      rw [p2_nat]; congr 1; unfold Format.binade; rw [Nat.pow_succ]; omega
    rw [a3] at y2
    have a4 : ((2 * k : Nat) : Rat) < ((2 * (2 * f.binade) + 1 : Nat) : Rat) := by
      rw [Rat.natCast_add, Rat.natCast_mul, Rat.natCast_mul]
      have t1 : ((1 : Nat) : Rat) = 1 := rfl
      have t2 : ((2 : Nat) : Rat) = 2 := rfl
      rw [t1, t2]
      grind
    have := Rat.natCast_lt_natCast.1 a4
    omega
  have hkB : q = 0 ∨ f.binade ≤ k := by
    by_cases hq0 : q = 0
    · exact .inl hq0
    · right
      have hl : last = place + L - f.fractionBits := by omega
      have a1 : p2 ((L : Nat) : Int) * p2 (place - last) ≤ (mag : Rat) * p2 (place - last) := Rat.mul_le_mul_of_nonneg_right r1 (Rat.le_of_lt hpl)
      rw [← p2_add, show (L : Int) + (place - last) = (f.fractionBits : Int) by omega, p2_nat] at a1
      have a4 : ((2 * f.binade : Nat) : Rat) ≤ ((2 * k + 1 : Nat) : Rat) := by
        rw [Rat.natCast_add, Rat.natCast_mul, Rat.natCast_mul]
        have t1 : ((1 : Nat) : Rat) = 1 := rfl
        have t2 : ((2 : Nat) : Rat) = 2 := rfl
        rw [t1, t2]
        change 2 * ((2 ^ f.fractionBits : Nat) : Rat) ≤ _
        grind
      have := Rat.natCast_le_natCast.1 a4
      omega
  have hrung : q * f.binade + k < f.infRung := by
    have a1 : q ≤ (60 - f.fractionBits - f.leastPlace).toNat := by omega
    unfold Roomy at hf
    unfold Format.infRung
    have a2 : (q + 2) * f.binade < (2 ^ f.exponentBits - 1) * f.binade := Nat.mul_lt_mul_of_pos_right (by omega) hB
    rw [Nat.add_mul] at a2
    omega
  rw [Nat.min_eq_left (by omega)]
  obtain ⟨m, e, hr, hv⟩ := read_rung f neg q k hk2B hkB hrung
  rw [← hql] at hv
  have hl0 := p2_pos last
  have hx : (mag : Rat) * p2 place = (mag : Rat) * p2 (place - last) * p2 last := by
    rw [Rat.mul_assoc, ← p2_add]; congr 2; omega
  have hhalf : p2 last ≤ 2 * ((mag : Rat) * p2 place * p2 (-(f.fractionBits : Int) - 1) + p2 (f.leastPlace - 1)) := by
    have e2 : ∀ i : Int, p2 i = 2 * p2 (i - 1) := fun i => by
      have h3 : p2 1 = 2 := rfl
      rw [← h3, ← p2_add]; congr 1; omega
    have hu := p2_pos (-(f.fractionBits : Int) - 1)
    have hxu := Rat.mul_nonneg (Rat.le_trans (Rat.le_of_lt (p2_pos _)) x1) (Rat.le_of_lt hu)
    by_cases hq0 : q = 0
    · rw [show last = f.leastPlace by omega, e2 f.leastPlace]
      grind
    · have a1 : p2 (place + L) * p2 (-(f.fractionBits : Int) - 1) ≤ (mag : Rat) * p2 place * p2 (-(f.fractionBits : Int) - 1) := Rat.mul_le_mul_of_nonneg_right x1 (Rat.le_of_lt hu)
      rw [← p2_add, show place + L + (-(f.fractionBits : Int) - 1) = last - 1 by omega] at a1
      rw [e2 last]
      grind
  refine ⟨(k : Rat) * p2 last, ⟨neg, m, e, hr, by rw [hv]⟩, Rat.mul_nonneg Rat.natCast_nonneg (Rat.le_of_lt hl0), ?_, ?_, fun g1 g2 => ?_⟩
  · have a1 := Rat.mul_le_mul_of_nonneg_right k1 (Rat.le_of_lt hl0)
    rw [hx] at hhalf ⊢
    grind
  · have a1 := Rat.mul_le_mul_of_nonneg_right k2 (Rat.le_of_lt hl0)
    rw [hx] at hhalf ⊢
    grind
  · have := l3 g1
    have hd : place - last = ((place - last).toNat : Int) := by omega
    rw [hx]
    rw [hd, p2_nat] at k1 k2 ⊢
    rw [← Rat.natCast_mul] at k1 k2 ⊢
    generalize mag * 2 ^ (place - last).toNat = n at *
    have t1 : ((1 : Nat) : Rat) = 1 := rfl
    have t2 : ((2 : Nat) : Rat) = 2 := rfl
    rw [← t1, ← t2, ← Rat.natCast_mul, ← Rat.natCast_mul, ← Rat.natCast_add] at k1 k2
    have k1 := Rat.natCast_le_natCast.1 k1
    have k2 := Rat.natCast_le_natCast.1 k2
    rw [show k = n by omega]
end Go.Proofs.Ytdknpamegphjlaa.Sd
