/- The operations on floats: bounds, over exact fractions. No program in sight. -/
import Derived.Laws.FloatArith
import Derived.Test.YtdknpamegphjlaaFlo
namespace Go.Proofs.Ytdknpamegphjlaa.Sd
open Ieee

def uu (f : Format) : Rat := p2 (-(f.fractionBits : Int) - 1)
def eta (f : Format) : Rat := p2 (f.leastPlace - 1)
/-- v is X, but for a part of M and a very little. -/
def Near (f : Format) (M X v : Rat) : Prop := v ≤ X + M * uu f + eta f ∧ X ≤ v + M * uu f + eta f

theorem uu_pos (f : Format) : 0 < uu f := p2_pos _
theorem eta_pos (f : Format) : 0 < eta f := p2_pos _

theorem sgn_neg (s : Bool) (v : Rat) : sgn (!s) v = - sgn s v := by cases s <;> simp [sgn]
theorem sgn_mul (s t : Bool) (a b : Rat) : sgn (s ^^ t) (a * b) = sgn s a * sgn t b := by
  cases s <;> cases t <;> simp [sgn] <;> grind

theorem write_val (f : Format) (hf : Roomy f) (s : Bool) (mag : Nat) (place : Int) (M : Rat) (h : (mag : Rat) * p2 place ≤ M) (hM : M ≤ p2 60) :
    ∃ v, IsVal f (f.nearest s mag place) v ∧ Near f M (sgn s ((mag : Rat) * p2 place)) v := by
  obtain ⟨v, h1, _, h2, h3, _⟩ := nearest_val f hf s mag place (Rat.le_trans h hM)
  have hu := uu_pos f
  have hm := Rat.mul_le_mul_of_nonneg_right h (Rat.le_of_lt hu)
  refine ⟨_, h1, ?_⟩
  unfold Near
  change v ≤ _ + _ * uu f + eta f at h2
  change _ ≤ v + _ * uu f + eta f at h3
  cases s
  · exact ⟨by simp only [sgn]; grind, by simp only [sgn]; grind⟩
  · exact ⟨by simp only [sgn]; grind, by simp only [sgn]; grind⟩

theorem sgn_abs {s : Bool} {x M : Rat} (h1 : sgn s x ≤ M) (h2 : - sgn s x ≤ M) : x ≤ M := by
  cases s <;> simp [sgn] at h1 h2 <;> grind

theorem mul_val {f : Format} (hf : Roomy f) {x y : Nat} {a b M : Rat} (hx : IsVal f x a) (hy : IsVal f y b) (h1 : a * b ≤ M) (h2 : -(a * b) ≤ M) (hM : M ≤ p2 60) :
    ∃ r v, f.mul x y = some r ∧ IsVal f r v ∧ Near f M (a * b) v := by
  obtain ⟨s, m, i, hrx, rfl⟩ := hx
  obtain ⟨t, n, j, hry, rfl⟩ := hy
  have e : sgn s ((m : Rat) * p2 i) * sgn t ((n : Rat) * p2 j) = sgn (s ^^ t) (((m * n : Nat) : Rat) * p2 (i + j)) := by
    rw [← sgn_mul]; congr 1; rw [Rat.natCast_mul, p2_add]; grind
  rw [e] at h1 h2 ⊢
  obtain ⟨v, h3, h4⟩ := write_val f hf (s ^^ t) (m * n) (i + j) M (sgn_abs h1 h2) hM
  refine ⟨_, v, ?_, h3, h4⟩
  unfold Format.mul
  rw [hrx, hry]
  rfl

theorem signed_val (s : Bool) (m : Nat) (i base : Int) (h : base ≤ i) : ((signed s m (i - base).toNat : Int) : Rat) * p2 base = sgn s ((m : Rat) * p2 i) := by
  have e : (((m <<< (i - base).toNat : Nat) : Int) : Rat) * p2 base = (m : Rat) * p2 i := by
    rw [Nat.shiftLeft_eq, Rat.intCast_natCast, Rat.natCast_mul, ← p2_nat, Rat.mul_assoc, ← p2_add]
    congr 2; omega
  unfold signed sgn
  cases s
  · simpa using e
  · simp only [if_true]
    rw [Rat.intCast_neg, Rat.neg_mul, e]

theorem natAbs_val (n : Int) (z : Bool) : sgn (if n = 0 then z else decide (n < 0)) ((n.natAbs : Nat) : Rat) = (n : Rat) := by
  by_cases h : n = 0
  · subst h
    simp [sgn]
  · rw [if_neg h]
    by_cases h2 : n < 0
    · simp only [h2, decide_true, sgn, if_true]
      rw [← Rat.intCast_natCast, ← Rat.intCast_neg]
      congr 1; omega
    · simp only [h2, decide_false, sgn]
      rw [← Rat.intCast_natCast]
      simp only [Bool.false_eq_true, if_false]
      congr 1; omega
theorem sgn_mul_right (s : Bool) (a b : Rat) : sgn s (a * b) = sgn s a * b := by cases s <;> simp [sgn] <;> grind

theorem sum_val {f : Format} (hf : Roomy f) {s t : Bool} {m n : Nat} {i j : Int} {M : Rat}
    (h1 : sgn s ((m : Rat) * p2 i) + sgn t ((n : Rat) * p2 j) ≤ M) (h2 : -(sgn s ((m : Rat) * p2 i) + sgn t ((n : Rat) * p2 j)) ≤ M) (hM : M ≤ p2 60) :
    ∃ r v, (((Datum.number s m i).sum (.number t n j)).map f.write) = some r ∧ IsVal f r v ∧ Near f M (sgn s ((m : Rat) * p2 i) + sgn t ((n : Rat) * p2 j)) v := by
  have e1 := signed_val s m i (min i j) (by omega)
  have e2 := signed_val t n j (min i j) (by omega)
  rw [← e1, ← e2, ← Rat.add_mul, ← Rat.intCast_add] at h1 h2 ⊢
  simp only [Datum.sum]
  generalize signed s m (i - min i j).toNat + signed t n (j - min i j).toNat = tot at *
  rw [← natAbs_val tot (s && t), ← sgn_mul_right] at h1 h2 ⊢
  obtain ⟨v, h3, h4⟩ := write_val f hf _ tot.natAbs (min i j) M (sgn_abs h1 h2) hM
  refine ⟨_, v, rfl, ?_, h4⟩
  have e3 : (if tot = 0 then s && t else decide (tot < 0)) = (if tot = 0 then (s && t) else decide (tot < 0)) := rfl
  exact h3

theorem add_val {f : Format} (hf : Roomy f) {x y : Nat} {a b M : Rat} (hx : IsVal f x a) (hy : IsVal f y b) (h1 : a + b ≤ M) (h2 : -(a + b) ≤ M) (hM : M ≤ p2 60) :
    ∃ r v, f.add x y = some r ∧ IsVal f r v ∧ Near f M (a + b) v := by
  obtain ⟨s, m, i, hrx, rfl⟩ := hx
  obtain ⟨t, n, j, hry, rfl⟩ := hy
  obtain ⟨r, v, h3, h4⟩ := sum_val hf h1 h2 hM
  refine ⟨r, v, ?_, h4⟩
  unfold Format.add
  rw [hrx, hry]
  exact h3

theorem sub_val {f : Format} (hf : Roomy f) {x y : Nat} {a b M : Rat} (hx : IsVal f x a) (hy : IsVal f y b) (h1 : a - b ≤ M) (h2 : -(a - b) ≤ M) (hM : M ≤ p2 60) :
    ∃ r v, f.sub x y = some r ∧ IsVal f r v ∧ Near f M (a - b) v := by
  obtain ⟨s, m, i, hrx, rfl⟩ := hx
  obtain ⟨t, n, j, hry, rfl⟩ := hy
  rw [Rat.sub_eq_add_neg, ← sgn_neg] at h1 h2 ⊢
  obtain ⟨r, v, h3, h4⟩ := sum_val hf h1 h2 hM
  refine ⟨r, v, ?_, h4⟩
  unfold Format.sub
  rw [hrx, hry]
  exact h3

theorem read_bounds {f : Format} {bits : Nat} {s : Bool} {m : Nat} {e : Int} (h : f.read bits = .number s m e) : m < 2 * f.binade ∧ f.leastPlace ≤ e := by
  have hB : 0 < f.binade := Nat.two_pow_pos _
  unfold Format.read at h
  dsimp only at h
  split at h
  · injection h with _ h1 h2
    omega
  · split at h
    · injection h with _ h1 h2
      have := Nat.mod_lt (bits % f.signWeight) hB
      omega
    · split at h <;> cases h

theorem exact_val (f : Format) (hf : Roomy f) (s : Bool) (m : Nat) (e : Int) (hm : m < 2 ^ (f.fractionBits + 1)) (he : f.leastPlace ≤ e) (hM : (m : Rat) * p2 e ≤ p2 60) : IsVal f (f.nearest s m e) (sgn s ((m : Rat) * p2 e)) := by
  obtain ⟨v, h1, _, _, _, h5⟩ := nearest_val f hf s m e hM
  rw [h5 hm he] at h1
  exact h1

theorem sticky (D n : Nat) (hn : 0 < n) : (2 * (D / n) + (D % n != 0).toNat) * n ≤ 2 * D + n ∧ 2 * D ≤ (2 * (D / n) + (D % n != 0).toNat) * n + n := by
  have h1 := Nat.div_add_mod D n
  have h2 := Nat.mod_lt D hn
  generalize D / n = q at *
  generalize D % n = r at *
  have e1 : 2 * q * n = 2 * (n * q) := by rw [Nat.mul_assoc, Nat.mul_comm q n]
  by_cases h : r = 0
  · subst h
    simp only [bne_self_eq_false, Bool.toNat_false, Nat.add_zero, e1]
    omega
  · have : (r != 0) = true := by simpa using h
    rw [this, Bool.toNat_true, Nat.add_mul, e1]
    omega

/-- The quotient, nearly. -/
def NearQ (f : Format) (M X v : Rat) : Prop := v ≤ X + M * (5 / 2 * uu f) + eta f ∧ X ≤ v + M * (5 / 2 * uu f) + eta f

theorem uu_le (f : Format) : uu f ≤ 1 / 2 := by
  have h1 : p2 (-1) * p2 1 = 1 := by rw [← p2_add]; rfl
  have h2 : p2 1 = 2 := rfl
  have h3 : uu f ≤ p2 (-1) := p2_mono (by omega)
  rw [h2] at h1
  grind

theorem div_pos {f : Format} (hf : Roomy f) {s t : Bool} {m n : Nat} {i j : Int} (hn : n ≠ 0) {M : Rat} (hM : (m : Rat) * p2 i ≤ M * ((n : Rat) * p2 j)) (h60 : 2 * M ≤ p2 60) :
    ∃ r v, ((Datum.number s m i).quotient (f.fractionBits + 2) (.number t n j)).map f.write = some r ∧ IsVal f r v ∧ NearQ f M (sgn (s ^^ t) ((m : Rat) * p2 i / ((n : Rat) * p2 j))) v := by
  simp only [Datum.quotient, if_neg hn]
  have hn0 : 0 < n := Nat.pos_of_ne_zero hn
  have hnr : (0 : Rat) < (n : Rat) := Rat.natCast_pos.2 hn0
  have hpj := p2_pos j
  have hu := uu_pos f
  have hule := uu_le f
  have he := eta_pos f
  have hden : 0 < (n : Rat) * p2 j := Rat.mul_pos hnr hpj
  obtain ⟨more, hmore⟩ : ∃ more, more = f.fractionBits + 2 + n.log2 - m.log2 := ⟨_, rfl⟩
  rw [← hmore]
  obtain ⟨D, hD⟩ : ∃ D, D = m <<< more := ⟨_, rfl⟩
  rw [← hD]
  obtain ⟨s1, s2⟩ := sticky D n hn0
  obtain ⟨Z, hZ⟩ : ∃ Z, Z = 2 * (D / n) + (D % n != 0).toNat := ⟨_, rfl⟩
  rw [← hZ] at s1 s2 ⊢
  obtain ⟨X, hX⟩ : ∃ X, X = (m : Rat) * p2 i / ((n : Rat) * p2 j) := ⟨_, rfl⟩
  rw [← hX]
  have hXm : X * ((n : Rat) * p2 j) = (m : Rat) * p2 i := by rw [hX]; exact Rat.div_mul_cancel (by grind)
  have hX0 : 0 ≤ X := by
    have h1 : 0 ≤ (m : Rat) * p2 i := Rat.mul_nonneg Rat.natCast_nonneg (Rat.le_of_lt (p2_pos i))
    refine Rat.le_of_mul_le_mul_right (c := (n : Rat) * p2 j) ?_ hden
    rw [hXm, Rat.zero_mul]; exact h1
  have hXM : X ≤ M := Rat.le_of_mul_le_mul_right (c := (n : Rat) * p2 j) (by rw [hXm]; exact hM) hden
  -- the place of the last digit
  obtain ⟨pl, hpl⟩ : ∃ pl : Int, pl = i - j - more - 1 := ⟨_, rfl⟩
  rw [← hpl]
  have hp := p2_pos pl
  have hDX : (D : Rat) * (2 * p2 pl) = X * (n : Rat) := by
    have h2 : (2 : Rat) = p2 1 := rfl
    refine Rat.le_antisymm ?_ ?_
    all_goals
      refine Rat.le_of_mul_le_mul_right (c := p2 j) ?_ hpj
      rw [Rat.mul_assoc X, hXm, hD, Nat.shiftLeft_eq, Rat.natCast_mul, ← p2_nat, h2, ← p2_add, Rat.mul_assoc, Rat.mul_assoc, ← p2_add, ← p2_add, show (more : Int) + (1 + pl + j) = i by omega]
      exact Rat.le_refl
  have t2 : ((2 : Nat) : Rat) = 2 := rfl
  have g1 := Rat.natCast_le_natCast.2 s1
  have g2 := Rat.natCast_le_natCast.2 s2
  rw [Rat.natCast_add, Rat.natCast_mul, Rat.natCast_mul, t2] at g1 g2
  have z1 : (Z : Rat) * p2 pl ≤ X + p2 pl := by
    refine Rat.le_of_mul_le_mul_right (c := (n : Rat)) ?_ hnr
    have := Rat.mul_le_mul_of_nonneg_right g1 (Rat.le_of_lt hp)
    grind
  have z2 : X ≤ (Z : Rat) * p2 pl + p2 pl := by
    refine Rat.le_of_mul_le_mul_right (c := (n : Rat)) ?_ hnr
    have := Rat.mul_le_mul_of_nonneg_right g2 (Rat.le_of_lt hp)
    grind
  have hsmall : (m = 0 → Z = 0) ∧ (m ≠ 0 → p2 pl ≤ X * uu f) := by
    constructor
    · intro h0
      have : D = 0 := by rw [hD, h0, Nat.zero_shiftLeft]
      rw [hZ, this]
      simp
    · intro h0
      have l1 : 2 ^ m.log2 ≤ m := Nat.log2_self_le h0
      have l2 : n < 2 ^ (n.log2 + 1) := Nat.lt_log2_self
      have r1 : p2 ((m.log2 + more : Nat) : Int) ≤ (D : Rat) := by
        refine nat_le_p2 ?_
        rw [hD, Nat.shiftLeft_eq, Nat.pow_add]
        exact Nat.mul_le_mul_right _ l1
      have r2 := nat_lt_p2 l2
      have r3 : p2 ((n.log2 + 1 : Nat) : Int) * p2 (f.fractionBits + 1 : Nat) ≤ p2 ((m.log2 + more : Nat) : Int) := by
        rw [← p2_add]; exact p2_mono (by omega)
      have r4 : (n : Rat) * p2 (f.fractionBits + 1 : Nat) ≤ (D : Rat) := by
        have := Rat.mul_le_mul_of_nonneg_right (Rat.le_of_lt r2) (Rat.le_of_lt (p2_pos (f.fractionBits + 1 : Nat)))
        grind
      have huu : p2 (f.fractionBits + 1 : Nat) * uu f = 1 := by
        unfold uu; rw [← p2_add, show ((f.fractionBits + 1 : Nat) : Int) + (-(f.fractionBits : Int) - 1) = 0 by omega]; rfl
      refine Rat.le_of_mul_le_mul_right (c := (n : Rat)) ?_ hnr
      have r5 := Rat.mul_le_mul_of_nonneg_right (Rat.mul_le_mul_of_nonneg_right r4 (Rat.le_of_lt hp)) (Rat.le_of_lt hu)
      have r6 : X * (n : Rat) * uu f = (D : Rat) * (2 * p2 pl) * uu f := by rw [hDX]
      have r7 : (n : Rat) * p2 (f.fractionBits + 1 : Nat) * p2 pl * uu f = (n : Rat) * p2 pl := by grind
      have r8 : 0 ≤ (D : Rat) * p2 pl * uu f := Rat.mul_nonneg (Rat.mul_nonneg Rat.natCast_nonneg (Rat.le_of_lt hp)) (Rat.le_of_lt hu)
      grind
  have hXu := Rat.mul_nonneg hX0 (Rat.le_of_lt hu)
  have hXMu := Rat.mul_le_mul_of_nonneg_right hXM (Rat.le_of_lt hu)
  have hM0 : 0 ≤ M := Rat.le_trans hX0 hXM
  have hclose : (Z : Rat) * p2 pl ≤ X + X * uu f ∧ X ≤ (Z : Rat) * p2 pl + X * uu f := by
    by_cases h0 : m = 0
    · have hZ0 := hsmall.1 h0
      have hx0 : X = 0 := by rw [hX, h0]; show (0 : Rat) * _ / _ = 0; rw [Rat.zero_mul, Rat.div_def, Rat.zero_mul]
      rw [hZ0, hx0]
      show (0 : Rat) * _ ≤ _ ∧ _ ≤ (0 : Rat) * _ + _
      constructor <;> grind
    · have := hsmall.2 h0
      constructor <;> grind
  have hMu : M * uu f ≤ M * (1 / 2) := Rat.mul_le_mul_of_nonneg_left hule hM0
  have hMuu : M * uu f * uu f ≤ M * (1 / 2) * uu f := Rat.mul_le_mul_of_nonneg_right hMu (Rat.le_of_lt hu)
  have hZM : (Z : Rat) * p2 pl ≤ M + M * uu f := by
    grind
  obtain ⟨v, h3, h4⟩ := write_val f hf (s ^^ t) Z pl (M + M * uu f) hZM (by grind)
  refine ⟨_, v, rfl, h3, ?_⟩
  unfold Near at h4
  unfold NearQ
  cases hst : s ^^ t
  · rw [hst] at h4
    simp only [sgn] at h4 ⊢
    constructor <;> grind
  · rw [hst] at h4
    simp only [sgn] at h4 ⊢
    constructor <;> grind

theorem sgn_div (s t : Bool) (a b : Rat) (_hb : b ≠ 0) : sgn s a / sgn t b = sgn (s ^^ t) (a / b) := by
  have h1 : -a / b = -(a / b) := by rw [Rat.div_def, Rat.div_def, Rat.neg_mul]
  have h2 : a / -b = -(a / b) := by grind
  have h3 : -a / -b = a / b := by grind
  cases s <;> cases t <;> simp [sgn, h1, h2, h3]

/-- A quotient from 0 to 1, over a number greater than 0. -/
theorem div_val {f : Format} (hf : Roomy f) {x y : Nat} {a b : Rat} (hx : IsVal f x a) (hy : IsVal f y b) (ha : 0 ≤ a) (hb : 0 < b) (hab : a ≤ b) :
    ∃ r v, f.div x y = some r ∧ IsVal f r v ∧ NearQ f 1 (a / b) v := by
  obtain ⟨s, m, i, hrx, rfl⟩ := hx
  obtain ⟨t, n, j, hry, rfl⟩ := hy
  have hpi := p2_pos i
  have hpj := p2_pos j
  have hma : 0 ≤ (m : Rat) * p2 i := Rat.mul_nonneg Rat.natCast_nonneg (Rat.le_of_lt hpi)
  have hnb : 0 ≤ (n : Rat) * p2 j := Rat.mul_nonneg Rat.natCast_nonneg (Rat.le_of_lt hpj)
  have hn : n ≠ 0 := by
    intro h
    subst h
    have : ((0 : Nat) : Rat) * p2 j = 0 := Rat.zero_mul _
    rw [this] at hb
    cases t <;> simp [sgn] at hb
  have hM : (m : Rat) * p2 i ≤ 1 * ((n : Rat) * p2 j) := by
    rw [Rat.one_mul]
    cases s <;> cases t <;> simp [sgn] at ha hb hab <;> grind
  obtain ⟨r, v, h1, h2, h3⟩ := div_pos (s := s) (t := t) hf hn hM (by rw [Rat.mul_one, show (60 : Int) = ((60 : Nat) : Int) from rfl, p2_nat]; exact Rat.natCast_le_natCast.2 (show 2 ≤ 2 ^ 60 by decide))
  refine ⟨r, v, ?_, h2, by rw [sgn_div _ _ _ _ (by have := Rat.mul_pos (Rat.natCast_pos.2 (Nat.pos_of_ne_zero hn)) hpj; grind)]; exact h3⟩
  unfold Format.div
  rw [hrx, hry]
  exact h1

/-- Whole numbers are floats. -/
theorem int_val (k : FloatKind) (n : Int) (hn : n.natAbs < 2 ^ 24) : IsVal k.format (k.nearest n) (n : Rat) := by
  have e : sgn (decide (n < 0)) (((n.natAbs : Nat) : Rat) * p2 0) = (n : Rat) := by
    rw [p2_zero, Rat.mul_one]
    have := natAbs_val n (decide (n < 0))
    by_cases h : n = 0
    · subst h; simp [sgn]
    · rwa [if_neg h] at this
  have hM : ((n.natAbs : Nat) : Rat) * p2 0 ≤ p2 60 := by
    rw [p2_zero, Rat.mul_one, show (60 : Int) = ((60 : Nat) : Int) from rfl, p2_nat]
    refine Rat.natCast_le_natCast.2 ?_
    have : 2 ^ 24 ≤ 2 ^ 60 := by decide
    omega
  unfold FloatKind.nearest FloatKind.encode Format.write
  dsimp only
  rw [← e]
  cases k
  · exact exact_val single single_roomy _ _ _ hn (by decide) hM
  · exact exact_val double double_roomy _ _ _ (by
      have : 2 ^ 24 ≤ 2 ^ (double.fractionBits + 1) := by decide
      omega) (by decide) hM

theorem conv_val {x : Nat} {a : Rat} (hx : IsVal single x a) (h1 : a ≤ p2 60) (h2 : -a ≤ p2 60) : ∃ r, floatToFloatBits .f32 x .f64 = some r ∧ IsVal double r a := by
  obtain ⟨s, m, e, hr, rfl⟩ := hx
  obtain ⟨hm, he⟩ := read_bounds hr
  have hm2 : m < 2 ^ (double.fractionBits + 1) := Nat.lt_of_lt_of_le hm (by decide)
  have he2 : double.leastPlace ≤ e := Int.le_trans (by decide) he
  have hv := exact_val double double_roomy s m e hm2 he2 (sgn_abs h1 h2)
  refine ⟨double.nearest s m e, ?_, hv⟩
  unfold floatToFloatBits FloatKind.decode
  rw [if_neg (by decide)]
  change (match single.read x with | .nan _ _ => none | .infinity s => some (FloatKind.encode .f64 (.infinity s)) | .number s m e => if (FloatKind.decode .f64 (FloatKind.encode .f64 (.number s m e))).isInfinity then none else some (FloatKind.encode .f64 (.number s m e))) = _
  rw [hr]
  obtain ⟨s', m', e', hr', _⟩ := hv
  have : FloatKind.decode .f64 (FloatKind.encode .f64 (.number s m e)) = .number s' m' e' := hr'
  simp only [this]
  rfl

theorem neg_val {k : FloatKind} {x : Nat} {a : Rat} (hx : IsVal k.format x a) : IsVal k.format (Op.negFloat k x) (-a) := by
  obtain ⟨s, m, e, hr, rfl⟩ := hx
  rw [← sgn_neg]
  refine ⟨!s, m, e, ?_, rfl⟩
  unfold Op.negFloat
  have h1 : (x ^^^ k.format.signWeight) % k.format.signWeight = x % k.format.signWeight := by
    unfold Format.signWeight
    rw [Nat.xor_mod_two_pow, Nat.mod_self, Nat.xor_zero]
  have h2 : (x ^^^ k.format.signWeight) / k.format.signWeight % 2 = 1 - x / k.format.signWeight % 2 := by
    unfold Format.signWeight
    rw [Nat.xor_div_two_pow, Nat.div_self (Nat.two_pow_pos _)]
    generalize x / 2 ^ (k.format.exponentBits + k.format.fractionBits) = q
    have := @Nat.xor_mod_two_pow q 1 1
    rw [Nat.pow_one] at this
    rw [this]
    rcases Nat.mod_two_eq_zero_or_one q with h | h <;> rw [h] <;> rfl
  change k.format.read (x ^^^ k.format.signWeight) = _
  unfold Format.read at hr ⊢
  dsimp only at hr ⊢
  rw [h1, h2]
  rcases Nat.mod_two_eq_zero_or_one (x / k.format.signWeight) with h | h
  · rw [h] at hr ⊢
    split at hr
    · rename_i h3; injection hr with a1 a2 a3; subst a1 a2 a3; simp [h3]
    · split at hr
      · rename_i h3 h4; injection hr with a1 a2 a3; subst a1 a2 a3; simp [h3, h4]
      · split at hr <;> cases hr
  · rw [h] at hr ⊢
    split at hr
    · rename_i h3; injection hr with a1 a2 a3; subst a1 a2 a3; simp [h3]
    · split at hr
      · rename_i h3 h4; injection hr with a1 a2 a3; subst a1 a2 a3; simp [h3, h4]
      · split at hr <;> cases hr

theorem order_val {f : Format} {x y : Nat} {a b : Rat} (hx : IsVal f x a) (hy : IsVal f y b) : (a < b → f.order x y = some .lt) ∧ (a = b → f.order x y = some .eq) ∧ (b < a → f.order x y = some .gt) := by
  obtain ⟨s, m, i, hrx, rfl⟩ := hx
  obtain ⟨t, n, j, hry, rfl⟩ := hy
  have e1 := signed_val s m i (min i j) (by omega)
  have e2 := signed_val t n j (min i j) (by omega)
  have hb := p2_pos (min i j)
  unfold Format.order
  rw [hrx, hry]
  simp only [Datum.order]
  rw [← e1, ← e2]
  generalize signed s m (i - min i j).toNat = X
  generalize signed t n (j - min i j).toNat = Y
  have key : ∀ X Y : Int, (X : Rat) * p2 (min i j) < (Y : Rat) * p2 (min i j) → X < Y := fun X Y h => by
    by_cases h1 : X < Y
    · exact h1
    · have h2 : (Y : Rat) ≤ (X : Rat) := Rat.intCast_le_intCast.2 (by omega)
      have := Rat.mul_le_mul_of_nonneg_right h2 (Rat.le_of_lt hb)
      grind
  refine ⟨fun h => ?_, fun h => ?_, fun h => ?_⟩
  · rw [show compare X Y = .lt from by simp [compare, compareOfLessAndEq, key _ _ h]]
  · have : X = Y := by
      have h3 : (X : Rat) = (Y : Rat) := by
        have h4 := Rat.le_of_mul_le_mul_right (show (X : Rat) * p2 (min i j) ≤ (Y : Rat) * p2 (min i j) by rw [h]; exact Rat.le_refl) hb
        have h5 := Rat.le_of_mul_le_mul_right (show (Y : Rat) * p2 (min i j) ≤ (X : Rat) * p2 (min i j) by rw [h]; exact Rat.le_refl) hb
        grind
      exact Rat.intCast_inj.1 h3
    subst this
    simp [compare, compareOfLessAndEq]
  · have := key _ _ h
    rw [show compare X Y = .gt from by simp [compare, compareOfLessAndEq, show ¬ X < Y by omega, show ¬ X = Y by omega]]
end Go.Proofs.Ytdknpamegphjlaa.Sd
