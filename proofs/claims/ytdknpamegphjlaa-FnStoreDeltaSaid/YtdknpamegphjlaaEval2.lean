/- A region's part, walked. -/
import Derived.Test.YtdknpamegphjlaaEval1
namespace Go.Proofs.Ytdknpamegphjlaa.Sd
open Go Go.RowKit Ieee

/-- Coordinates of 16 bits. -/
def C16 (K : Nat) (cs : List Int) (w : World) : Prop := ∀ j x, cs[j]? = some x → w.cell? ⟨K, j, none⟩ = some (.int .i16 x)
def Partd (r : List Ax) (cs : List Int) (ax : Nat) (w : World) (e : Ending) (w' : World) : Prop := (∃ b, e = .returned (.float .f32 b) ∧ PartIs single r cs ax b) ∧ Below w.heap.size w w'

theorem part_start (f : Format) (r : List Ax) (cs : List Int) {b : Nat} (h : IsVal f b 1) : PartIs f r cs 0 b := ⟨1, h, by
  simp only [part]
  exact close_self (by have := uu_pos f; simp)⟩
theorem part_step {k : FloatKind} (hk : Fine' k.format) {r : List Ax} {cs : List Int} {j b q : Nat} {x : Ax} {c : Int} (hj : j < 3) (hx : r[j]? = some x) (hc : cs[j]? = some c) (h : PartIs k.format r cs j b) (hq : FacIs k.format x c q) :
    ∃ z, k.format.mul b q = some z ∧ PartIs k.format r cs (j + 1) z := by
  obtain ⟨v, h1, h2⟩ := h
  obtain ⟨t, q1, q2⟩ := hq
  have hp := part_in r cs j
  have hf := fac_in x c
  have hj2 : (j : Rat) ≤ 3 := by
    have h := Rat.natCast_le_natCast.2 (show j ≤ 3 by omega)
    exact h
  have hj0 : (0 : Rat) ≤ (j : Rat) := Rat.natCast_nonneg
  obtain ⟨z, y, e1, e2, e3⟩ := prod_close hk h1 q1 (k := 5 * (j : Rat)) (by grind) (by grind) hp.1 hp.2 hf.1 hf.2 h2 q2
  refine ⟨z, e1, y, e2, ?_⟩
  have e4 : 5 * (((j + 1 : Nat)) : Rat) = 5 * (j : Rat) + 5 := by rw [Rat.natCast_add]; grind
  simp only [part]
  rw [e4, List.getD_eq_getElem?_getD, hx, List.getD_eq_getElem?_getD, hc]
  exact e3

set_option maxRecDepth 1000000 in
set_option maxHeartbeats 4000000 in
theorem eval2_any (G K ax cap : Nat) (r : List Ax) (cs : List Int) (w : World) (hax : 0 < ax ∧ ax ≤ 3) (hr : r.length = ax) (hcs : cs.length = ax) (hcap : ax ≤ cap ∧ cap ≤ 9223372036854775807) (hok : ∀ x ∈ r, Ax.Ok x) (hcb : ∀ c ∈ cs, -16384 ≤ c ∧ c ≤ 16384) (hG : Ax16 G r w) (hK : C16 K cs w) :
    Calls Try.prog 23 #[.agg #[.slice (some ⟨G, 0, none⟩) ax ax], .slice (some ⟨K, 0, none⟩) ax cap] w (Partd r cs ax w) := by
  have HG := Lib.hid hG
  have HK := Lib.hid hK
  have HR := Lib.hid hr
  have HCS := Lib.hid hcs
  have HOK := Lib.hid hok
  have HCB := Lib.hid hcb
  have hst : (w.alloc (.cells #[.slice (some ⟨G, 0, none⟩) ax ax] 90)).heap[w.heap.size]? = some (.cells #[.slice (some ⟨G, 0, none⟩) ax ax] 90 (0, 0)) := heap_alloc_new w _
  have hb0 : Below w.heap.size w (w.alloc (.cells #[.slice (some ⟨G, 0, none⟩) ax ax] 90)) := (Below.refl _ _).alloc (Nat.le_refl _) _
  have HST := Lib.hid (And.intro hst hb0)
  have HP0 := Lib.hid (part_start single r cs one_single)
  clear hG hK hr hcs hok hcb hst hb0
  go_enter Try.func23, Try.ntmps23
  go_wp2_with fail
  go_loopg [5, 11] (ax) (fun gk vv iv W => ∃ (i b : Nat), gk = ax - i ∧ i ≤ ax ∧ iv = .int .i64 i ∧ vv = .float .f32 b ∧ PartIs single r cs i b ∧ W.heap[w.heap.size]? = some (.cells #[.slice (some ⟨G, 0, none⟩) ax ax] 90 (0, 0)) ∧ Below w.heap.size w W)
  case atStart => exact ⟨0, _, rfl, Nat.zero_le _, rfl, rfl, HP0.out, HST.out.1, HST.out.2⟩
  case round =>
    obtain ⟨i, b, hgk, hin, rfl, rfl, hp, hbx, hbel⟩ := hrel
    have HKM := Lib.hid hgk
    have HP := Lib.hid hp
    have HBX := Lib.hid hbx
    have HB := Lib.hid hbel
    by_cases hlt : i < ax
    · obtain ⟨x, hx⟩ : ∃ x, r[i]? = some x := ⟨_, List.getElem?_eq_getElem (by have := HR.out; omega)⟩
      obtain ⟨c, hc⟩ : ∃ c, cs[i]? = some c := ⟨_, List.getElem?_eq_getElem (by have := HCS.out; omega)⟩
      have k0 := below_cell hbel (HK.out i c hc)
      have k1 : wr.cell? ⟨w.heap.size, 0, none⟩ = some (.slice (some ⟨G, 0, none⟩) ax ax) := by rw [cell_in hbx]; rfl
      have g0 := below_cell hbel (HG.out i x 0 hx (by omega))
      have g1 := below_cell hbel (HG.out i x 1 hx (by omega))
      have g2 := below_cell hbel (HG.out i x 2 hx (by omega))
      simp only [axVal, Nat.add_zero] at g0 g1 g2
      have hC := Lib.hid (eval1_any x c wr (HOK.out x (List.mem_of_getElem? hx)) (HCB.out c (List.mem_of_getElem? hc)))
      have HX := Lib.hid hx
      have HC := Lib.hid hc
      have ki : (i : Int) < ax := by omega
      clear hgk hp hbx hbel hx hc
      go_wp2_with fail
      refine hC.out.mono ?_
      rintro e w1 ⟨⟨q, rfl, hq⟩, hb1⟩
      obtain ⟨z, hz, hpz⟩ := part_step (k := .f32) single_fine (by omega) HX.out HC.out HP.out hq
      have hop : ∀ t W, (binOp .mul t (.float .f32 b) (.float .f32 q)).run Try.prog W = .ok (.float .f32 z) W := fun t W => run_float_arith W .mul t .f32 _ _ z hz
      have hbx1 := (hb1.block _ (Array.getElem?_eq_some_iff.1 HBX.out).1).trans HBX.out
      have HN := Lib.hid (And.intro hpz (And.intro hbx1 (HB.out.trans (hb1.mono HB.out.size))))
      clear hq hb1 hz hpz hbx1 hC
      go_wp2_with fail
      go_roundg (ax - (i + 1))
      case measure => have := HKM.out; omega
      case rel => exact ⟨i + 1, z, rfl, by omega, by go_num, rfl, HN.out.1, HN.out.2.1, HN.out.2.2⟩
    · have hi : i = ax := by omega
      subst hi
      have ki : ¬ (i : Int) < i := by omega
      clear hgk hp hbx hbel
      go_wp2_with fail
      all_goals
        go_ret
        exact ⟨⟨_, rfl, HP.out⟩, HB.out⟩
end Go.Proofs.Ytdknpamegphjlaa.Sd
