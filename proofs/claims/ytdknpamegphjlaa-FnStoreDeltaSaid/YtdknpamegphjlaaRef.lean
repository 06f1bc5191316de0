/- DeltaRef, walked. -/
import Derived.Test.YtdknpamegphjlaaImpl
namespace Go.Proofs.Ytdknpamegphjlaa.Sd
open Go Go.RowKit Ieee

def Refd (all : List (List Ax)) (cs regs row : List Int) (ax : Nat) (w : World) (e : Ending) (w' : World) : Prop := (∃ b, e = .returned (.float .f64 b) ∧ TotIs double all cs regs row ax regs.length b) ∧ Below w.heap.size w w'

theorem part_one {f : Format} {r : List Ax} {cs : List Int} {j b : Nat} {x : Ax} {c : Int} (hx : r[j]? = some x) (hc : cs[j]? = some c) (h : PartIs f r cs j b) (h1 : fac x c = 1) : PartIs f r cs (j + 1) b := by
  obtain ⟨v, e1, e2⟩ := h
  have hu := uu_pos f
  have e4 : 5 * (((j + 1 : Nat)) : Rat) = 5 * (j : Rat) + 5 := by rw [Rat.natCast_add]; grind
  refine ⟨v, e1, ?_⟩
  simp only [part]
  rw [e4, List.getD_eq_getElem?_getD, hx, List.getD_eq_getElem?_getD, hc]
  show Close _ (part r cs j * fac x c) v
  rw [h1, Rat.mul_one]
  exact close_mono e2 (by grind)
theorem part_zero {f : Format} {r : List Ax} {cs : List Int} {j b : Nat} {x : Ax} {c : Int} (hx : r[j]? = some x) (hc : cs[j]? = some c) (h1 : fac x c = 0) (hb : IsVal f b 0) : PartIs f r cs (j + 1) b := by
  have hu := uu_pos f
  refine ⟨0, hb, ?_⟩
  simp only [part]
  rw [List.getD_eq_getElem?_getD, hx, List.getD_eq_getElem?_getD, hc]
  show Close _ (part r cs j * fac x c) 0
  rw [h1, Rat.mul_zero]
  exact close_self (Rat.mul_nonneg (Rat.mul_nonneg (by grind) Rat.natCast_nonneg) (Rat.le_of_lt hu))

set_option maxRecDepth 1000000 in
set_option maxHeartbeats 8000000 in
theorem ref_any (X ax xcap m b : Nat) (va rv iv : Value) (all : List (List Ax)) (l : List Dl) (cs : List Int) (d : Dl) (row : List Int) (w : World) (hf : Fine all l cs ax m) (hva : RegsR None' w va all) (hrv : IntsR None' w rv d.regs) (hiv : GridR None' w iv d.items) (hX : ∀ j x, cs[j]? = some x → w.cell? ⟨X, j, none⟩ = some (.int .i64 x)) (hdl : d ∈ l) (hrow : d.items[b]? = some row) :
    Calls Try.prog 10 #[va, .agg #[rv, iv], .int .i64 b, .slice (some ⟨X, 0, none⟩) ax xcap] w (Refd all cs d.regs row ax w) := by
  obtain ⟨d1, d2, d3, d4⟩ := hf.lists.2.2 d hdl
  obtain ⟨r1, r2⟩ := d4 row (List.mem_of_getElem? hrow)
  obtain ⟨n, hn⟩ : ∃ n, n = d.regs.length := ⟨_, rfl⟩
  obtain ⟨nb, hnb⟩ : ∃ nb, nb = d.items.length := ⟨_, rfl⟩
  have hb : b < nb := by have := (List.getElem?_eq_some_iff.1 hrow).1; omega
  -- the regions
  obtain ⟨vs, hvl, hvr, hvx⟩ := hva
  obtain ⟨na, hna⟩ : ∃ na, na = all.length := ⟨_, rfl⟩
  obtain ⟨VA, vcap, rfl, V, rfl, q7⟩ : ∃ A cap, va = .slice A na cap ∧ ∃ g, A = some ⟨g, 0, none⟩ ∧ ∀ j x, vs[j]? = some x → w.cell? ⟨g, j, none⟩ = some x := by
    obtain ⟨A, cp, h1, h2, h3, h4, h5⟩ := hvr
    obtain ⟨g, g1, g2, g3, g4⟩ := h5 hf.regs.1
    exact ⟨A, cp, by rw [hna]; exact h1, g, g1, g4⟩
  -- the regions' indexes
  obtain ⟨RA, rcap, rfl, q8⟩ : ∃ A cap, rv = .slice A n cap ∧ (0 < n → ∃ g, A = some ⟨g, 0, none⟩ ∧ ∀ (j : Nat) (x : Int), d.regs[j]? = some x → w.cell? ⟨g, j, none⟩ = some (.int .i64 x)) := by
    obtain ⟨A, cp, h1, h2, h3, h4, h5⟩ := hrv
    refine ⟨A, cp, by rw [hn]; exact h1, fun h => ?_⟩
    obtain ⟨g, g1, g2, g3, g4⟩ := h5 (by omega)
    exact ⟨g, g1, fun j x hj => g4 j _ (by simp [hj])⟩
  -- the items
  obtain ⟨us, hul, hur, hux⟩ := hiv
  obtain ⟨IA, icap, rfl, G, rfl, q9⟩ : ∃ A cap, iv = .slice A nb cap ∧ ∃ g, A = some ⟨g, 0, none⟩ ∧ ∀ j x, us[j]? = some x → w.cell? ⟨g, j, none⟩ = some x := by
    obtain ⟨A, cp, h1, h2, h3, h4, h5⟩ := hur
    obtain ⟨g, g1, g2, g3, g4⟩ := h5 (by omega)
    exact ⟨A, cp, by rw [hnb]; exact h1, g, g1, g4⟩
  obtain ⟨u, hu⟩ : ∃ u, us[b]? = some u := ⟨_, List.getElem?_eq_getElem (by omega)⟩
  have kG := q9 b u hu
  obtain ⟨TA, tcap, rfl, q10⟩ : ∃ A cap, u = .slice A n cap ∧ (0 < n → ∃ g, A = some ⟨g, 0, none⟩ ∧ ∀ (j : Nat) (x : Int), row[j]? = some x → w.cell? ⟨g, j, none⟩ = some (.int .i64 x)) := by
    obtain ⟨A, cp, h1, h2, h3, h4, h5⟩ := hux b u row hu hrow
    refine ⟨A, cp, by rw [hn, ← r1]; exact h1, fun h => ?_⟩
    obtain ⟨g, g1, g2, g3, g4⟩ := h5 (by omega)
    exact ⟨g, g1, fun j x hj => g4 j _ (by simp [hj])⟩
  have HF := Lib.hid hf
  have HX := Lib.hid hX
  have HV := Lib.hid (And.intro hvl (And.intro q7 hvx))
  have HRA := Lib.hid q8
  have HTA := Lib.hid q10
  have HG := Lib.hid kG
  have HREG := Lib.hid d2
  have HROW := Lib.hid r2
  have HN := Lib.hid (And.intro hn (And.intro hna r1))
  have HTS := Lib.hid (tot_start double all cs d.regs row ax zero_double)
  have HPS := Lib.hid (fun r => part_start double r cs one_double)
  have kbl : (b : Int) < nb := by omega
  have n5 : n ≤ 5 := by omega
  have ax3 := hf.axl
  obtain ⟨B, hB⟩ : ∃ B : World, B = w.alloc (.cells #[.slice RA n rcap, .slice (some ⟨G, 0, none⟩) nb icap] 37) := ⟨_, rfl⟩
  have HB0 := Lib.hid hB
  clear hf hX hvl hvr hvx q7 q8 q9 q10 hrv hul hur hux hu hn hna hnb r1 r2 d1 d2 d3 d4 hdl hrow kG hB
  go_enter Try.func10, Try.ntmps10
  go_wp2_with fail
  go_loopg [9, 22] (n) (fun gk sv kv W => ∃ (i s : Nat), gk = n - i ∧ i ≤ n ∧ kv = .int .i64 i ∧ sv = .float .f64 s ∧ TotIs double all cs d.regs row ax i s ∧ W.heap[w.heap.size]? = some (.cells #[.slice RA n rcap, .slice (some ⟨G, 0, none⟩) nb icap] 37 (0, 0)) ∧ Below w.heap.size w W)
  case atStart => exact ⟨0, _, rfl, Nat.zero_le _, rfl, rfl, HTS.out, heap_alloc_new w _, (Below.refl _ _).alloc (Nat.le_refl _) _⟩
  case round =>
    obtain ⟨i, s, hgk, hin, rfl, rfl, hp, hbx, hbel⟩ := hrel
    obtain ⟨wo, rfl⟩ : ∃ wo : World, wo = wr := ⟨_, rfl⟩
    have HKM := Lib.hid hgk
    have HP := Lib.hid hp
    have HBX := Lib.hid hbx
    have HB := Lib.hid hbel
    by_cases hlt : i < n
    · obtain ⟨RG, rfl, hRG⟩ := HRA.out (by omega)
      obtain ⟨TG, rfl, hTG⟩ := HTA.out (by omega)
      obtain ⟨ri, hri⟩ : ∃ x, d.regs[i]? = some x := ⟨_, List.getElem?_eq_getElem (by have := HN.out.1; omega)⟩
      obtain ⟨x, hx⟩ : ∃ c, row[i]? = some c := ⟨_, List.getElem?_eq_getElem (by have := HN.out.1; have := HN.out.2.2; omega)⟩
      have hrb := HREG.out ri (List.mem_of_getElem? hri)
      obtain ⟨rn, rfl⟩ : ∃ rn : Nat, ri = (rn : Int) := ⟨ri.toNat, by omega⟩
      have hrn : rn < na := by have := HN.out.2.1; omega
      obtain ⟨r, hr⟩ : ∃ r, all[rn]? = some r := ⟨_, List.getElem?_eq_getElem (by have := HN.out.2.1; omega)⟩
      obtain ⟨u2, hu2⟩ : ∃ u, vs[rn]? = some u := ⟨_, List.getElem?_eq_getElem (by have := HV.out.1; have := HN.out.2.1; omega)⟩
      obtain ⟨hrl, hrok⟩ := HF.out.regs.2.2 r (List.mem_of_getElem? hr)
      obtain ⟨YA, ycap, rfl, Y, rfl, hY⟩ : ∃ A cap, u2 = .slice A ax cap ∧ ∃ g, A = some ⟨g, 0, none⟩ ∧ ∀ j x, (axCells r)[j]? = some x → w.cell? ⟨g, j, none⟩ = some x := by
        obtain ⟨A, cp, h1, h2, h3, h4, h5⟩ := HV.out.2.2 rn u2 r hu2 hr
        obtain ⟨g, g1, g2, g3, g4⟩ := h5 (by omega)
        exact ⟨A, cp, by rw [← hrl]; exact h1, g, g1, g4⟩
      have kV := below_cell hbel (HV.out.2.1 rn _ hu2)
      have kR := below_cell hbel (hRG i _ hri)
      have HT := Lib.hid (hTG i x hx)
      have HY := Lib.hid hY
      have HX2 := Lib.hid (And.intro hri (And.intro hr hx))
      have HOK := Lib.hid (And.intro hrl hrok)
      have k0 : wo.cell? ⟨w.heap.size, 0, none⟩ = some (.slice (some ⟨RG, 0, none⟩) n rcap) := by rw [cell_in hbx]; rfl
      have ki : (i : Int) < n := by omega
      have krn : (rn : Int) < na := by omega
      have i5 : i < 5 := by omega
      clear hgk hp hbx hbel hri hx hrb hr hu2 hrl hrok hRG hTG hY
      go_wp2_with fail
      go_loopg [12, 32] (ax) (fun gk pv kv W => ∃ (j p : Nat), gk = ax - j ∧ j ≤ ax ∧ kv = .int .i64 j ∧ pv = .float .f64 p ∧ PartIs double r cs j p ∧ W.heap[w.heap.size]? = some (.cells #[.slice (some ⟨RG, 0, none⟩) n rcap, .slice (some ⟨G, 0, none⟩) nb icap] 37 (0, 0)) ∧ Below w.heap.size w W)
      case atStart => exact ⟨0, _, rfl, Nat.zero_le _, rfl, rfl, HPS.out r, HBX.out, HB.out⟩
      case round =>
        obtain ⟨j, p, hgk, hjn, rfl, rfl, hpp, hbx, hbel⟩ := hrel
        have HKM2 := Lib.hid hgk
        have HPP := Lib.hid hpp
        by_cases hlt2 : j < ax
        · obtain ⟨⟨ya, yb, yc⟩, hy⟩ : ∃ x, r[j]? = some x := ⟨_, List.getElem?_eq_getElem (by have := HOK.out.1; omega)⟩
          obtain ⟨c, hc⟩ : ∃ c, cs[j]? = some c := ⟨_, List.getElem?_eq_getElem (by have := HF.out.coord.1; omega)⟩
          obtain ⟨o1, o2, o3, o4, o5⟩ := HOK.out.2 _ (List.mem_of_getElem? hy)
          dsimp only at o1 o2 o3 o4 o5
          have oc := HF.out.coord.2 c (List.mem_of_getElem? hc)
          obtain ⟨z0, z1, z2⟩ := axCells_get r j _ hy
          have y0 := below_cell hbel (HY.out _ _ z0)
          have y1 := below_cell hbel (HY.out _ _ z1)
          have y2 := below_cell hbel (HY.out _ _ z2)
          have kx := below_cell hbel (HX.out j c hc)
          have kXl : X < wr.heap.size := World.block_lt_of_cell? wr _ kx
          dsimp only at y0 y1 y2
          have HL := Lib.hid (And.intro hbx hbel)
          have HXX := Lib.hid (And.intro hy hc)
          have kj : (j : Int) < ax := by omega
          clear hgk hpp hbx hbel hy hc z0 z1 z2
          have HNEXT : Hid (∀ k : Nat, ((wr.alloc (.cells #[.int .i64 ya, .int .i64 yb, .int .i64 yc] 48)).drewN k).heap[w.heap.size]? = some (.cells #[.slice (some ⟨RG, 0, none⟩) n rcap, .slice (some ⟨G, 0, none⟩) nb icap] 37 (0, 0)) ∧ Below w.heap.size w ((wr.alloc (.cells #[.int .i64 ya, .int .i64 yb, .int .i64 yc] 48)).drewN k)) := Lib.hid fun k => by
            have h1 : Below wr.heap.size wr ((wr.alloc (.cells #[.int .i64 ya, .int .i64 yb, .int .i64 yc] 48)).drewN k) := below_drewN ((Below.refl _ _).alloc (Nat.le_refl _) _) k
            exact ⟨(h1.block _ (Array.getElem?_eq_some_iff.1 HL.out.1).1).trans HL.out.1, HL.out.2.trans (h1.mono HL.out.2.size)⟩
          go_wp2_with fail
          go_quiet (fail)
          have F1 : Hid (fac ⟨ya, yb, yc⟩ c = 1 → PartIs double r cs (j + 1) p) := Lib.hid fun h => part_one HXX.out.1 HXX.out.2 HPP.out h
          have F0 : Hid (fac ⟨ya, yb, yc⟩ c = 0 → PartIs double r cs (j + 1) 0) := Lib.hid fun h => part_zero HXX.out.1 HXX.out.2 h zero_double
          clear y0 y1 y2 kx kXl
          by_cases c1 : yb = 0
          · have HF2 := Lib.hid (F1.out (by unfold fac; simp [c1]))
            have k1 : (yb == 0) = true := by rw [beq_iff_eq]; exact c1
            clear F1 F0 c1 o1 o2 o3 o4 o5 oc
            go_wp2_with fail
            go_roundg (ax - (j + 1))
            case measure => have := HKM2.out; omega
            case rel => exact ⟨j + 1, p, rfl, by omega, by go_num, rfl, HF2.out, (HNEXT.out _).1, (HNEXT.out _).2⟩
          have k1 : (yb == 0) = false := by rw [beq_eq_false_iff_ne]; exact c1
          by_cases c2 : c = yb
          · have HF2 := Lib.hid (F1.out (by unfold fac; simp [c2]))
            have k2 : (c == yb) = true := by rw [beq_iff_eq]; exact c2
            clear F1 F0 c1 c2 o1 o2 o3 o4 o5 oc
            go_wp2_with fail
            go_roundg (ax - (j + 1))
            case measure => have := HKM2.out; omega
            case rel => exact ⟨j + 1, p, rfl, by omega, by go_num, rfl, HF2.out, (HNEXT.out _).1, (HNEXT.out _).2⟩
          have k2 : (c == yb) = false := by rw [beq_eq_false_iff_ne]; exact c2
          by_cases c4 : c ≤ ya
          · have HF2 := Lib.hid (F0.out (by unfold fac; rw [if_neg (by dsimp only; omega), if_pos (by dsimp only; omega)]))
            have k4 : decide (c ≤ ya) = true := decide_eq_true c4
            clear F1 F0 c1 c2 c4 o1 o2 o3 o4 o5 oc
            go_wp2_with fail
            go_roundg (ax - (j + 1))
            case measure => have := HKM2.out; omega
            case rel => exact ⟨j + 1, 0, rfl, by omega, by go_num, rfl, HF2.out, (HNEXT.out _).1, (HNEXT.out _).2⟩
          have k4 : decide (c ≤ ya) = false := decide_eq_false c4
          by_cases c5 : yc ≤ c
          · have HF2 := Lib.hid (F0.out (by unfold fac; rw [if_neg (by dsimp only; omega), if_pos (by dsimp only; omega)]))
            have k5 : decide (yc ≤ c) = true := decide_eq_true c5
            clear F1 F0 c1 c2 c4 c5 o1 o2 o3 o4 o5 oc
            go_wp2_with fail
            go_roundg (ax - (j + 1))
            case measure => have := HKM2.out; omega
            case rel => exact ⟨j + 1, 0, rfl, by omega, by go_num, rfl, HF2.out, (HNEXT.out _).1, (HNEXT.out _).2⟩
          have k5 : decide (yc ≤ c) = false := decide_eq_false c5
          by_cases c6 : c < yb
          · obtain ⟨q, v, q1, q2, q3⟩ := quo_fac (k := .f64) double_fine (m := c - ya) (n := yb - ya) (by omega) (by omega) (by omega) (by omega)
            obtain ⟨z, hz, hpz⟩ := part_step (k := .f64) double_fine (by omega) HXX.out.1 HXX.out.2 HPP.out ⟨v, q2, by unfold fac; rw [if_neg (by dsimp only; omega), if_neg (by dsimp only; omega), if_pos (by dsimp only; omega)]; exact q3⟩
            have HF2 := Lib.hid hpz
            have k6 : decide (c < yb) = true := decide_eq_true c6
            have w1 : IntKind.i64.wrap (c - ya) = c - ya := IntWalk.i64_in _ (by omega)
            have w2 : IntKind.i64.wrap (yb - ya) = yb - ya := IntWalk.i64_in _ (by omega)
            have hop : ∀ t W, (binOp .quo t (.float .f64 (floatOfInt .f64 (c - ya))) (.float .f64 (floatOfInt .f64 (yb - ya)))).run Try.prog W = .ok (.float .f64 q) W := fun t W => run_float_arith W .quo t .f64 _ _ q q1
            have hop2 : ∀ t W, (binOp .mul t (.float .f64 p) (.float .f64 q)).run Try.prog W = .ok (.float .f64 z) W := fun t W => run_float_arith W .mul t .f64 _ _ z hz
            clear F1 F0 c1 c2 c4 c5 c6 o1 o2 o3 o4 o5 oc q1 q2 q3 hz hpz
            go_wp2_with fail
            go_roundg (ax - (j + 1))
            case measure => have := HKM2.out; omega
            case rel => exact ⟨j + 1, z, rfl, by omega, by go_num, rfl, HF2.out, (HNEXT.out _).1, (HNEXT.out _).2⟩
          · obtain ⟨q, v, q1, q2, q3⟩ := quo_fac (k := .f64) double_fine (m := yc - c) (n := yc - yb) (by omega) (by omega) (by omega) (by omega)
            obtain ⟨z, hz, hpz⟩ := part_step (k := .f64) double_fine (by omega) HXX.out.1 HXX.out.2 HPP.out ⟨v, q2, by unfold fac; rw [if_neg (by dsimp only; omega), if_neg (by dsimp only; omega), if_neg (by dsimp only; omega)]; exact q3⟩
            have HF2 := Lib.hid hpz
            have k6 : decide (c < yb) = false := decide_eq_false c6
            have w1 : IntKind.i64.wrap (yc - c) = yc - c := IntWalk.i64_in _ (by omega)
            have w2 : IntKind.i64.wrap (yc - yb) = yc - yb := IntWalk.i64_in _ (by omega)
            have hop : ∀ t W, (binOp .quo t (.float .f64 (floatOfInt .f64 (yc - c))) (.float .f64 (floatOfInt .f64 (yc - yb)))).run Try.prog W = .ok (.float .f64 q) W := fun t W => run_float_arith W .quo t .f64 _ _ q q1
            have hop2 : ∀ t W, (binOp .mul t (.float .f64 p) (.float .f64 q)).run Try.prog W = .ok (.float .f64 z) W := fun t W => run_float_arith W .mul t .f64 _ _ z hz
            clear F1 F0 c1 c2 c4 c5 c6 o1 o2 o3 o4 o5 oc q1 q2 q3 hz hpz
            go_wp2_with fail
            go_roundg (ax - (j + 1))
            case measure => have := HKM2.out; omega
            case rel => exact ⟨j + 1, z, rfl, by omega, by go_num, rfl, HF2.out, (HNEXT.out _).1, (HNEXT.out _).2⟩
        · have hj : j = ax := by omega
          subst hj
          have kj : ¬ (j : Int) < j := by omega
          have k1 : wr.cell? ⟨w.heap.size, 1, none⟩ = some (.slice (some ⟨G, 0, none⟩) nb icap) := by rw [cell_in hbx]; rfl
          have kG := below_cell hbel HG.out
          have kT := below_cell hbel HT.out
          obtain ⟨_, z, y, hz, hy, hty⟩ := tot_step (k := .f64) double_fine i5 ax3.2 HX2.out.1 HX2.out.2.1 HX2.out.2.2 HROW.out HP.out hpp
          have hop1 : ∀ t W, (binOp .mul t (.float .f64 p) (.float .f64 (floatOfInt .f64 x))).run Try.prog W = .ok (.float .f64 z) W := fun t W => run_float_arith W .mul t .f64 _ _ z hz
          have hop2 : ∀ t W, (binOp .add t (.float .f64 s) (.float .f64 z)).run Try.prog W = .ok (.float .f64 y) W := fun t W => run_float_arith W .add t .f64 _ _ y hy
          have HN2 := Lib.hid (And.intro hty (And.intro hbx hbel))
          clear hgk hpp hbx hbel hz hy hty
          go_wp2_with fail
          go_roundg (n - (i + 1))
          case measure => have := HKM.out; omega
          case rel => exact ⟨i + 1, y, rfl, by omega, by go_num, rfl, HN2.out.1, HN2.out.2.1, HN2.out.2.2⟩
    · have hi : i = n := by omega
      subst hi
      have ki : ¬ (i : Int) < i := by omega
      clear hgk hp hbx hbel
      go_wp2_with fail
      all_goals
        go_ret
        exact ⟨⟨_, rfl, by rw [← HN.out.1]; exact HP.out⟩, HB.out⟩
end Go.Proofs.Ytdknpamegphjlaa.Sd
