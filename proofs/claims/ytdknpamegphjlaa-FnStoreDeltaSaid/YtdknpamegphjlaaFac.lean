/- The exact numbers: an axis's factor, a region's part, an item's sum. No program in sight. -/
import Derived.Test.YtdknpamegphjlaaFlo3
import Derived.Test.YtdknpamegphjlaaSome
namespace Go.Proofs.Ytdknpamegphjlaa.Sd
open Go Ieee

def fac (x : Ax) (c : Int) : Rat :=
  if x.b = 0 ∨ c = x.b then 1 else if c ≤ x.a ∨ x.c ≤ c then 0 else if c < x.b then ((c - x.a : Int) : Rat) / ((x.b - x.a : Int) : Rat) else ((x.c - c : Int) : Rat) / ((x.c - x.b : Int) : Rat)

theorem ratio01 {m n : Int} (h0 : 0 ≤ m) (hmn : m ≤ n) (hn : 0 < n) : 0 ≤ (m : Rat) / (n : Rat) ∧ (m : Rat) / (n : Rat) ≤ 1 := by
  have h1 : (0 : Rat) < (n : Rat) := Rat.intCast_pos.2 hn
  have h2 : (0 : Rat) ≤ (m : Rat) := Rat.intCast_nonneg.2 h0
  have h3 : (m : Rat) ≤ (n : Rat) := Rat.intCast_le_intCast.2 hmn
  have h4 : (m : Rat) / (n : Rat) * (n : Rat) = (m : Rat) := Rat.div_mul_cancel (Rat.ne_of_gt h1)
  constructor
  · refine Rat.not_lt.1 fun h => ?_
    have := Rat.mul_pos (show 0 < -((m : Rat) / (n : Rat)) by grind) h1
    grind
  · refine Rat.not_lt.1 fun h => ?_
    have := Rat.mul_pos (show 0 < (m : Rat) / (n : Rat) - 1 by grind) h1
    grind

theorem fac_in (x : Ax) (c : Int) : 0 ≤ fac x c ∧ fac x c ≤ 1 := by
  unfold fac
  split
  · exact ⟨by decide, by decide⟩
  · split
    · exact ⟨by decide, by decide⟩
    · split
      · exact ratio01 (by omega) (by omega) (by omega)
      · exact ratio01 (by omega) (by omega) (by omega)

/-- A float that tells the factor. -/
def FacIs (f : Format) (x : Ax) (c : Int) (r : Nat) : Prop := ∃ v, IsVal f r v ∧ Close (3 * uu f) (fac x c) v

theorem close_self {e X : Rat} (h : 0 ≤ e) : Close e X X := ⟨by grind, by grind⟩
theorem u3_nonneg (f : Format) : 0 ≤ 3 * uu f := by have := uu_pos f; grind

theorem quo_fac {k : FloatKind} (hk : Fine' k.format) {m n : Int} (h0 : 0 ≤ m) (hmn : m ≤ n) (hn : 0 < n) (hn2 : n ≤ 100000) :
    ∃ r v, k.format.div (k.nearest m) (k.nearest n) = some r ∧ IsVal k.format r v ∧ Close (3 * uu k.format) ((m : Rat) / (n : Rat)) v := by
  have h1 := int_val k m (by omega)
  have h2 := int_val k n (by omega)
  exact quot_close hk h1 h2 (Rat.intCast_nonneg.2 h0) (Rat.intCast_pos.2 hn) (Rat.intCast_le_intCast.2 hmn)

def part (r : List Ax) (cs : List Int) : Nat → Rat
  | 0 => 1
  | j + 1 => part r cs j * fac (r.getD j ⟨0, 0, 0⟩) (cs.getD j 0)
theorem part_in (r : List Ax) (cs : List Int) : ∀ j, 0 ≤ part r cs j ∧ part r cs j ≤ 1
  | 0 => ⟨by simp only [part]; decide, by simp only [part]; decide⟩
  | j + 1 => by
    have h := part_in r cs j
    have h2 := fac_in (r.getD j ⟨0, 0, 0⟩) (cs.getD j 0)
    exact mul01 h.1 h.2 h2.1 h2.2
/-- A float that tells the part of j axes. -/
def PartIs (f : Format) (r : List Ax) (cs : List Int) (j : Nat) (b : Nat) : Prop := ∃ v, IsVal f b v ∧ Close (5 * (j : Rat) * uu f) (part r cs j) v

def tot (all : List (List Ax)) (cs regs row : List Int) (ax : Nat) : Nat → Rat
  | 0 => 0
  | i + 1 => tot all cs regs row ax i + ((row.getD i 0 : Int) : Rat) * part (all.getD (regs.getD i 0).toNat []) cs ax
def mag (row : List Int) : Nat → Rat
  | 0 => 0
  | i + 1 => mag row i + (((row.getD i 0).natAbs : Nat) : Rat)
theorem mag_nonneg (row : List Int) : ∀ i, 0 ≤ mag row i
  | 0 => by simp only [mag]; decide
  | i + 1 => Rat.add_nonneg (mag_nonneg row i) (Rat.natCast_nonneg)
theorem abs_cast (n : Int) : (n : Rat) ≤ ((n.natAbs : Nat) : Rat) ∧ -(n : Rat) ≤ ((n.natAbs : Nat) : Rat) := by
  have h1 : (n : Int) ≤ ((n.natAbs : Nat) : Int) := by omega
  have h2 : -(n : Int) ≤ ((n.natAbs : Nat) : Int) := by omega
  have h3 := Rat.intCast_le_intCast.2 h1
  have h4 := Rat.intCast_le_intCast.2 h2
  rw [Rat.intCast_natCast] at h3 h4
  rw [Rat.intCast_neg] at h4
  exact ⟨h3, h4⟩
theorem item_abs (n : Int) {p : Rat} (h0 : 0 ≤ p) (h1 : p ≤ 1) : (n : Rat) * p ≤ ((n.natAbs : Nat) : Rat) ∧ -((n : Rat) * p) ≤ ((n.natAbs : Nat) : Rat) := by
  obtain ⟨a1, a2⟩ := abs_cast n
  have h := prod_bound (a := (n : Rat)) (b := p) (c := ((n.natAbs : Nat) : Rat)) (d := 1) (by grind) a1 (by grind) h1 (Rat.natCast_nonneg) (by decide)
  constructor <;> grind
theorem tot_abs (all : List (List Ax)) (cs regs row : List Int) (ax : Nat) : ∀ i, tot all cs regs row ax i ≤ mag row i ∧ -(tot all cs regs row ax i) ≤ mag row i
  | 0 => ⟨by simp only [tot, mag]; decide, by simp only [tot, mag]; decide⟩
  | i + 1 => by
    obtain ⟨a1, a2⟩ := tot_abs all cs regs row ax i
    have hp := part_in (all.getD (regs.getD i 0).toNat []) cs ax
    obtain ⟨b1, b2⟩ := item_abs (row.getD i 0) hp.1 hp.2
    simp only [tot, mag]
    constructor <;> grind
/-- A float that tells the sum of i items. -/
def TotIs (f : Format) (all : List (List Ax)) (cs regs row : List Int) (ax i : Nat) (b : Nat) : Prop :=
  ∃ v, IsVal f b v ∧ Close ((17 + 2 * (i : Rat)) * uu f * mag row i + 3 * (i : Rat) * eta f) (tot all cs regs row ax i) v

theorem one_single : IsVal single 1065353216 1 := by
  have h := int_val .f32 1 (by decide)
  exact h
theorem one_double : IsVal double 4607182418800017408 1 := by
  have h := int_val .f64 1 (by decide)
  exact h
theorem zero_single : IsVal single 0 0 := by
  have h := int_val .f32 0 (by decide)
  exact h
theorem zero_double : IsVal double 0 0 := by
  have h := int_val .f64 0 (by decide)
  exact h
end Go.Proofs.Ytdknpamegphjlaa.Sd
