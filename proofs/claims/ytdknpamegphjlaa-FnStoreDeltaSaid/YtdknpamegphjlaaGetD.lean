/- GetDelta, walked. -/
import Derived.Test.YtdknpamegphjlaaTot
namespace Go.Proofs.Ytdknpamegphjlaa.Sd
open Go Go.RowKit Ieee

def Totd (all : List (List Ax)) (cs regs row : List Int) (ax : Nat) (w : World) (e : Ending) (w' : World) : Prop := (∃ b, e = .returned (.float .f32 b) ∧ TotIs single all cs regs row ax regs.length b) ∧ Below w.heap.size w w'

theorem info85z : (Try.prog.info? 85).map (fun i => (i.zero, i.size, i.bytes)) = some (some (.agg #[.int .u16 0, .int .u16 0, .int .u16 0, .slice none 0 0, .slice none 0 0]), 5, 56) := info85

set_option maxRecDepth 1000000 in
set_option maxHeartbeats 8000000 in
theorem getd_any (K ax cap m a b : Nat) (vv dv : Value) (all : List (List Ax)) (l : List Dl) (cs : List Int) (d : Dl) (row : List Int) (w : World) (hf : Fine all l cs ax m) (hvv : Rows' Ax16R None' w vv all) (hdv : IvdsR None' w dv l) (hcap : ax ≤ cap ∧ cap ≤ 9223372036854775807) (hK : C16 K cs w) (hd : l[a]? = some d) (hrow : d.items[b]? = some row) (hab : a < 65536 ∧ b < 65536) :
    Calls Try.prog 16 #[.agg #[.int .u16 1, .int .u16 (ax : Nat), vv, dv], .agg #[.int .u16 (a : Nat), .int .u16 (b : Nat)], .slice (some ⟨K, 0, none⟩) ax cap] w (Totd all cs d.regs row ax w) := by
  obtain ⟨I, rfl, hI1, _, hI⟩ := hdv
  obtain ⟨wd, rg, dl, i0, i1, i2, i3, i4, hrg, hdl⟩ := hI a d hd
  obtain ⟨d1, d2, d3, d4⟩ := hf.lists.2.2 d (List.mem_of_getElem? hd)
  obtain ⟨vs, hvl, hvr, hvx⟩ := hdl
  obtain ⟨nb, hnb⟩ : ∃ nb, nb = d.items.length := ⟨_, rfl⟩
  have hb : b < nb := by have := (List.getElem?_eq_some_iff.1 hrow).1; omega
  obtain ⟨DA, dcap, rfl, q1, q2, q3⟩ : ∃ A cap, dl = .slice A nb cap ∧ nb ≤ cap ∧ cap ≤ 9223372036854775807 ∧ ∃ g, A = some ⟨g, 0, none⟩ ∧ ∀ j x, vs[j]? = some x → w.cell? ⟨g, j, none⟩ = some x := by
    obtain ⟨A, cp, h1, h2, h3, h4, h5⟩ := hvr
    obtain ⟨g, g1, g2, g3, g4⟩ := h5 (by omega)
    exact ⟨A, cp, by rw [hnb]; exact h1, by omega, h3, g, g1, g4⟩
  obtain ⟨D, rfl, q4⟩ := q3
  obtain ⟨u, hu⟩ : ∃ u, vs[b]? = some u := ⟨_, List.getElem?_eq_getElem (by omega)⟩
  obtain ⟨R, rfl, hR1, _, hR⟩ := hvx b u row hu hrow
  obtain ⟨G, rfl, hG1, _, hG⟩ := hrg
  obtain ⟨r1, r2⟩ := d4 row (List.mem_of_getElem? hrow)
  obtain ⟨n, hn⟩ : ∃ n, n = d.regs.length := ⟨_, rfl⟩
  have kD := q4 b _ hu
  rw [r1, ← hn] at kD
  rw [← hn] at i3 i2
  have kDl : D < w.heap.size := World.block_lt_of_cell? w _ kD
  have kD1 : D < w.heap.size + 1 := by omega
  have kD2 : D < w.heap.size + 1 + 1 := by omega
  have kD3 : ¬ D = w.heap.size + 1 + 1 := by omega
  have hal : a < l.length := (List.getElem?_eq_some_iff.1 hd).1
  obtain ⟨nl, hnl⟩ : ∃ nl, nl = l.length := ⟨_, rfl⟩
  obtain ⟨vs2, ha1, ha2, ha3⟩ := hvv
  obtain ⟨na, hna⟩ : ∃ na, na = all.length := ⟨_, rfl⟩
  obtain ⟨VA, vcap, rfl, q5, q6, V, rfl, q7⟩ : ∃ A cap, vv = .slice A na cap ∧ na ≤ cap ∧ cap ≤ 9223372036854775807 ∧ ∃ g, A = some ⟨g, 0, none⟩ ∧ ∀ j x, vs2[j]? = some x → w.cell? ⟨g, j, none⟩ = some x := by
    obtain ⟨A, cp, h1, h2, h3, h4, h5⟩ := ha2
    obtain ⟨g, g1, g2, g3, g4⟩ := h5 hf.regs.1
    exact ⟨A, cp, by rw [hna]; exact h1, by omega, h3, g, g1, g4⟩
  have HF := Lib.hid hf
  have HK := Lib.hid hK
  have HR := Lib.hid (And.intro hR hR1)
  have HG := Lib.hid (And.intro hG hG1)
  have HV := Lib.hid (And.intro ha1 (And.intro q7 ha3))
  have HREG := Lib.hid d2
  have HROW := Lib.hid r2
  have HN := Lib.hid (And.intro hn (And.intro hna r1))
  have HTS := Lib.hid (tot_start single all cs d.regs row ax zero_single)
  have kal : (a : Int) < nl := by omega
  have kal2 : ¬ (nl : Int) ≤ a := by omega
  have kbl : (b : Int) < nb := by omega
  have kbl2 : ¬ (nb : Int) ≤ b := by omega
  have n5 : n ≤ 5 := by omega
  have ka : IntKind.i64.wrap (a : Int) = a := IntWalk.i64_in _ (by omega)
  have kb : IntKind.i64.wrap (b : Int) = b := IntWalk.i64_in _ (by omega)
  have hb0 : Below w.heap.size w (((w.alloc (.cells #[.int .u16 1, .int .u16 (ax : Nat), .slice (some ⟨V, 0, none⟩) na vcap, .slice (some ⟨I, 0, none⟩) nl nl] 59)).alloc (.cells #[.int .u16 (a : Nat), .int .u16 (b : Nat)] 69))) := ((Below.refl _ _).alloc (Nat.le_refl _) _).alloc (by simp) _
  rw [← hnl]
  clear hf hvl hvr hvx hrow hd hK hI q4 hu hR hG r1 r2 hn d1 d2 d3 d4 ha1 ha2 ha3 q7 hnl hna hnb hal hR1 hG1
  go_enter Try.func16, Try.ntmps16
  go_wp2_with fail
  go_loopg [9, 43] (n) (fun gk sv iv W => ∃ (i s : Nat), gk = n - i ∧ i ≤ n ∧ iv = .int .i64 i ∧ sv = .float .f32 s ∧ TotIs single all cs d.regs row ax i s ∧ W.heap[w.heap.size]? = some (.cells #[.int .u16 1, .int .u16 (ax : Nat), .slice (some ⟨V, 0, none⟩) na vcap, .slice (some ⟨I, 0, none⟩) nl nl] 59 (0, 0)) ∧ Below w.heap.size w W)
  case atStart =>
    refine ⟨0, _, rfl, Nat.zero_le _, rfl, rfl, HTS.out, ?_, hb0.trans ((Below.refl _ _).alloc (by simp; omega) _)⟩
    exact (((Below.refl _ _).alloc (Nat.le_refl _) _).block _ (by simp; omega)).trans (heap_alloc2_old w _ _)
  case round =>
    obtain ⟨i, s, hgk, hin, rfl, rfl, hp, hbx, hbel⟩ := hrel
    have HKM := Lib.hid hgk
    have HP := Lib.hid hp
    have HBX := Lib.hid hbx
    have HB := Lib.hid hbel
    by_cases hlt : i < n
    · obtain ⟨ri, hri⟩ : ∃ x, d.regs[i]? = some x := ⟨_, List.getElem?_eq_getElem (by have := HN.out.1; omega)⟩
      obtain ⟨x, hx⟩ : ∃ c, row[i]? = some c := ⟨_, List.getElem?_eq_getElem (by have := HN.out.1; have := HN.out.2.2; omega)⟩
      have hrb := HREG.out ri (List.mem_of_getElem? hri)
      obtain ⟨rn, rfl⟩ : ∃ rn : Nat, ri = (rn : Int) := ⟨ri.toNat, by omega⟩
      have hrn : rn < na := by have := HN.out.2.1; omega
      obtain ⟨r, hr⟩ : ∃ r, all[rn]? = some r := ⟨_, List.getElem?_eq_getElem (by have := HN.out.2.1; omega)⟩
      obtain ⟨u2, hu2⟩ : ∃ u, vs2[rn]? = some u := ⟨_, List.getElem?_eq_getElem (by have := HV.out.1; have := HN.out.2.1; omega)⟩
      obtain ⟨G2, rfl, hG2l, _, hG2⟩ := HV.out.2.2 rn u2 r hu2 hr
      obtain ⟨hrl, hrok⟩ := HF.out.regs.2.2 r (List.mem_of_getElem? hr)
      have kV := below_cell hbel (HV.out.2.1 rn _ hu2)
      rw [hrl] at kV
      have kG := below_cell hbel (HG.out.1 i _ hri)
      have kR := below_cell hbel (HR.out.1 i x hx)
      have k1 : wr.cell? ⟨w.heap.size, 2, none⟩ = some (.slice (some ⟨V, 0, none⟩) na vcap) := by rw [cell_in hbx]; rfl
      obtain ⟨WA, hWA⟩ : ∃ WA, WA = wr.alloc (.cells #[.slice (some ⟨G2, 0, none⟩) ax ax] 90) := ⟨_, rfl⟩
      have hbA : Below wr.heap.size wr WA := by rw [hWA]; exact (Below.refl _ _).alloc (Nat.le_refl _) _
      have hbA0 : Below w.heap.size w WA := HB.out.trans (hbA.mono HB.out.size)
      have hC := Lib.hid (eval2_any G2 K ax cap r cs WA HF.out.axl hrl HF.out.coord.1 hcap hrok HF.out.coord.2 (fun j t q hj hq => below_cell hbA0 (hG2 j t q hj hq)) (fun j t hj => below_cell hbA0 (HK.out j t hj)))
      rw [hWA] at hC
      have HX := Lib.hid (And.intro hri (And.intro hr hx))
      have HBA := Lib.hid (And.intro hbA (And.intro hbA0 hWA))
      have ki : (i : Int) < n := by omega
      have krn : (rn : Int) < na := by omega
      have i5 : i < 5 := by omega
      clear hgk hp hbx hbel hri hx hrb hr hu2 hG2 hrl hrok hbA hbA0 hWA
      go_wp2_with fail
      refine hC.out.mono ?_
      rintro e w1 ⟨⟨q, rfl, hq⟩, hb1⟩
      obtain ⟨⟨z, y, hz, hy, hty⟩, _⟩ := tot_step (k := .f32) single_fine i5 HF.out.axl.2 HX.out.1 HX.out.2.1 HX.out.2.2 HROW.out HP.out hq
      have hop1 : ∀ t W, (binOp .mul t (.float .f32 (floatOfInt .f32 x)) (.float .f32 q)).run Try.prog W = .ok (.float .f32 z) W := fun t W => run_float_arith W .mul t .f32 _ _ z hz
      have hop2 : ∀ t W, (binOp .add t (.float .f32 s) (.float .f32 z)).run Try.prog W = .ok (.float .f32 y) W := fun t W => run_float_arith W .add t .f32 _ _ y hy
      have hb2 : Below wr.heap.size wr w1 := HBA.out.1.trans (by rw [HBA.out.2.2]; exact hb1.mono (by simp))
      have kR1 := below_cell hb2 kR
      have hbx1 := (hb2.block _ (Array.getElem?_eq_some_iff.1 HBX.out).1).trans HBX.out
      have HN2 := Lib.hid (And.intro hty (And.intro hbx1 (HB.out.trans (hb2.mono HB.out.size))))
      clear hq hb1 hz hy hty hbx1 hC hb2
      go_wp2_with fail
      go_roundg (n - (i + 1))
      case measure => have := HKM.out; omega
      case rel => exact ⟨i + 1, y, rfl, by omega, by go_num, rfl, HN2.out.1, HN2.out.2.1, HN2.out.2.2⟩
    · have hi : i = n := by omega
      subst hi
      have ki : ¬ (i : Int) < i := by omega
      clear hgk hp hbx hbel
      go_wp2_with fail
      all_goals
        go_ret
        exact ⟨⟨_, rfl, by rw [← HN.out.1]; exact HP.out⟩, HB.out⟩
end Go.Proofs.Ytdknpamegphjlaa.Sd
