/- A step of an item's sum. No program in sight. -/
import Derived.Test.YtdknpamegphjlaaEval2
namespace Go.Proofs.Ytdknpamegphjlaa.Sd
open Go Ieee

theorem close_mono {e e' X v : Rat} (h : Close e X v) (he : e ≤ e') : Close e' X v := ⟨by have := h.1; grind, by have := h.2; grind⟩
theorem scale_close2 {f : Format} (hf : Fine' f) {x y : Nat} {X v P a : Rat} (hx : IsVal f x X) (hy : IsVal f y v) (ha1 : X ≤ a) (ha2 : -X ≤ a) (ha : a ≤ 32768) (hP0 : 0 ≤ P) (hP1 : P ≤ 1) (h : Close (15 * uu f) P v) :
    ∃ r t, f.mul y x = some r ∧ IsVal f r t ∧ Close (17 * uu f * a + eta f) (X * P) t := by
  have hu := uu_pos f
  have hu1 := hf.u
  have ha0 : 0 ≤ a := by grind
  obtain ⟨a1, a2⟩ := h
  obtain ⟨c1, c2⟩ := prod_bound (a := X) (b := v) (c := a) (d := 5 / 4) (by grind) (by grind) (by grind) (by grind) ha0 (by grind)
  obtain ⟨r, t, e1, e2, e3, e4⟩ := mul_val hf.roomy hy hx (M := a * (5 / 4)) (by rw [Rat.mul_comm]; exact c1) (by rw [Rat.mul_comm]; exact c2) (by have := big60; grind)
  obtain ⟨d1, d2⟩ := prod_bound (a := X) (b := v - P) (c := a) (d := 15 * uu f) (by grind) (by grind) (by grind) (by grind) ha0 (by grind)
  have hau := Rat.mul_nonneg ha0 (Rat.le_of_lt hu)
  exact ⟨r, t, e1, e2, by grind, by grind⟩

theorem mag_le (row : List Int) (h : ∀ x ∈ row, -32768 ≤ x ∧ x ≤ 32767) : ∀ i : Nat, mag row i ≤ 32768 * (i : Rat)
  | 0 => by simp only [mag]; exact (show (0 : Rat) ≤ 32768 * 0 by grind)
  | i + 1 => by
    have ih := mag_le row h i
    have hx : (row.getD i 0).natAbs ≤ 32768 := by
      rw [List.getD_eq_getElem?_getD]
      cases e : row[i]? with
      | none => simp
      | some x =>
        have := h x (List.mem_of_getElem? e)
        simp only [Option.getD_some]
        omega
    have h2 := Rat.natCast_le_natCast.2 hx
    have h3 : ((32768 : Nat) : Rat) = 32768 := rfl
    rw [h3] at h2
    simp only [mag]
    rw [Rat.natCast_add]
    have h4 : ((1 : Nat) : Rat) = 1 := rfl
    rw [h4]
    grind

theorem tot_start (f : Format) (all : List (List Ax)) (cs regs row : List Int) (ax : Nat) {b : Nat} (h : IsVal f b 0) : TotIs f all cs regs row ax 0 b := ⟨0, h, by
  simp only [tot, mag]
  exact close_self (by simp; grind)⟩

theorem tot_step {k : FloatKind} (hk : Fine' k.format) {all : List (List Ax)} {cs regs row : List Int} {ax i s p : Nat} {r : List Ax} {ri x : Int} (hi : i < 5) (hax : ax ≤ 3) (hreg : regs[i]? = some ri) (hr : all[ri.toNat]? = some r) (hx : row[i]? = some x) (hrow : ∀ x ∈ row, -32768 ≤ x ∧ x ≤ 32767) (hs : TotIs k.format all cs regs row ax i s) (hp : PartIs k.format r cs ax p) :
    (∃ z y, k.format.mul (k.nearest x) p = some z ∧ k.format.add s z = some y ∧ TotIs k.format all cs regs row ax (i + 1) y) ∧ (∃ z y, k.format.mul p (k.nearest x) = some z ∧ k.format.add s z = some y ∧ TotIs k.format all cs regs row ax (i + 1) y) := by
  obtain ⟨v, h1, h2⟩ := hs
  obtain ⟨t, q1, q2⟩ := hp
  have hxb := hrow x (List.mem_of_getElem? hx)
  have hu := uu_pos k.format
  have hpin := part_in r cs ax
  have hv := int_val k x (by omega)
  have hax2 : (ax : Rat) ≤ 3 := Rat.natCast_le_natCast.2 (show ax ≤ 3 by omega)
  have hau : (ax : Rat) * uu k.format ≤ 3 * uu k.format := Rat.mul_le_mul_of_nonneg_right hax2 (Rat.le_of_lt hu)
  have q3 : Close (15 * uu k.format) (part r cs ax) t := close_mono q2 (by grind)
  obtain ⟨a1, a2⟩ := abs_cast x
  have a3 : ((x.natAbs : Nat) : Rat) ≤ 32768 := Rat.natCast_le_natCast.2 (show x.natAbs ≤ 32768 by omega)
  have hm := mag_le row hrow i
  have hi5 : (i : Rat) ≤ 5 := Rat.natCast_le_natCast.2 (show i ≤ 5 by omega)
  have hi0 : (0 : Rat) ≤ (i : Rat) := Rat.natCast_nonneg
  have hT := tot_abs all cs regs row ax i
  have hY := item_abs x hpin.1 hpin.2
  have key : ∀ z y, IsVal k.format z y → Close (17 * uu k.format * ((x.natAbs : Nat) : Rat) + eta k.format) ((x : Rat) * part r cs ax) y → ∃ u, k.format.add s z = some u ∧ TotIs k.format all cs regs row ax (i + 1) u := fun z y g1 g2 => by
    obtain ⟨u, b, e1, e2, e3⟩ := sum_close hk h1 g1 hi0 hi5 (mag_nonneg row i) (by grind) (Rat.natCast_nonneg) a3 hT.1 hT.2 hY.1 hY.2 h2 g2
    refine ⟨u, e1, b, e2, ?_⟩
    have c1 : ((i + 1 : Nat) : Rat) = (i : Rat) + 1 := by rw [Rat.natCast_add]; rfl
    simp only [tot, mag]
    have d1 : row.getD i 0 = x := by rw [List.getD_eq_getElem?_getD, hx]; rfl
    have d2 : all.getD (regs.getD i 0).toNat [] = r := by rw [List.getD_eq_getElem?_getD, List.getD_eq_getElem?_getD, hreg, Option.getD_some, hr]; rfl
    rw [c1, d1, d2]
    exact e3
  constructor
  · obtain ⟨z, y, e1, e2, e3⟩ := scale_close hk hv q1 a1 a2 a3 hpin.1 hpin.2 q3
    obtain ⟨u, e4, e5⟩ := key z y e2 e3
    exact ⟨z, u, e1, e4, e5⟩
  · obtain ⟨z, y, e1, e2, e3⟩ := scale_close2 hk hv q1 a1 a2 a3 hpin.1 hpin.2 q3
    obtain ⟨u, e4, e5⟩ := key z y e2 e3
    exact ⟨z, u, e1, e4, e5⟩
end Go.Proofs.Ytdknpamegphjlaa.Sd
