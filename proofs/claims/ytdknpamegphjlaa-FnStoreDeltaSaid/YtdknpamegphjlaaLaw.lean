/- The law, walked. -/
import Derived.Test.YtdknpamegphjlaaLast
import Derived.Test.YtdknpamegphjlaaSome3
namespace Go.Proofs.Ytdknpamegphjlaa.Sd
open Go Go.RowKit Ieee

def Lawful (w : World) (e : Ending) (w' : World) : Prop := e = .returned (.bool true) ∧ Below w.heap.size w w'

/-- A slice of numbers, its cells. -/
theorem ints_cells {w : World} {v : Value} {l : List Int} (h : IntsR None' w v l) : ∃ A cap, v = .slice A l.length cap ∧ (0 < l.length → ∃ g, A = some ⟨g, 0, none⟩ ∧ g < w.heap.size ∧ ∀ (j : Nat) (x : Int), l[j]? = some x → w.cell? ⟨g, j, none⟩ = some (.int .i64 x)) := by
  obtain ⟨A, cp, h1, h2, h3, h4, h5⟩ := h
  refine ⟨A, cp, h1, fun h => ?_⟩
  obtain ⟨g, g1, g2, g3, g4⟩ := h5 h
  exact ⟨g, g1, g2, fun j x hj => g4 j _ (by simp [hj])⟩
theorem rows_cells {α : Type} {R : (Nat → Prop) → World → Value → α → Prop} {w : World} {v : Value} {xs : List α} (h : Rows' R None' w v xs) : ∃ A cap, v = .slice A xs.length cap ∧ (0 < xs.length → ∃ g, A = some ⟨g, 0, none⟩ ∧ g < w.heap.size ∧ ∀ (j : Nat) (x : α), xs[j]? = some x → ∃ u, w.cell? ⟨g, j, none⟩ = some u ∧ R None' w u x) := by
  obtain ⟨vs, hl, ⟨A, cp, h1, h2, h3, h4, h5⟩, hx⟩ := h
  refine ⟨A, cp, h1, fun h => ?_⟩
  obtain ⟨g, g1, g2, g3, g4⟩ := h5 h
  refine ⟨g, g1, g2, fun j x hj => ?_⟩
  have hjl := (List.getElem?_eq_some_iff.1 hj).1
  obtain ⟨u, hu⟩ : ∃ u, vs[j]? = some u := ⟨_, List.getElem?_eq_getElem (by omega)⟩
  exact ⟨u, g4 j u hu, hx j u x hu hj⟩

theorem dls_cells {w : World} {v : Value} {l : List Dl} (h : DlsR None' w v l) (hl : 0 < l.length) : ∃ g cap, v = .slice (some ⟨g, 0, none⟩) l.length cap ∧ g < w.heap.size ∧ ∀ (i : Nat) (x : Dl), l[i]? = some x → ∃ r t, w.cell? ⟨g, i * 2, none⟩ = some r ∧ w.cell? ⟨g, i * 2 + 1, none⟩ = some t ∧ IntsR None' w r x.regs ∧ GridR None' w t x.items := by
  obtain ⟨cs, ⟨A, cp, h1, h2, h3, h4, h5⟩, hx⟩ := h
  obtain ⟨g, rfl, g2, g3, g4⟩ := h5 hl
  refine ⟨g, cp, h1, g2, fun i x hi => ?_⟩
  obtain ⟨r, t, a, b, c, d⟩ := hx i x hi
  exact ⟨r, t, g4 _ _ a, g4 _ _ b, c, d⟩

set_option maxRecDepth 1000000 in
set_option maxHeartbeats 16000000 in
theorem law_any (n0 n1 n2 n3 n4 c0 c1 c2 c3 c4 a b : Nat) (A0 A1 A2 A3 A4 : Option Addr) (w : World) (h0 : n0 ≤ 9223372036854775807) (h1 : n1 ≤ 9223372036854775807) (h2 : n2 ≤ 9223372036854775807) (h3 : n3 ≤ 9223372036854775807) (h4 : n4 ≤ 9223372036854775807)
    (i0 : InAll In3 w A0 n0) (i1 : InAll InU8 w A1 n1) (i2 : InAll InI16 w A2 n2) (i3 : InI16 w A3 n3) (i4 : InU8 w A4 n4) (hc3 : n3 ≤ c3) (hc3b : c3 ≤ 9223372036854775807) (ha : a < 256) (hb : b < 256) :
    Calls Try.prog 3 #[.slice A0 n0 c0, .slice A1 n1 c1, .slice A2 n2 c2, .int .u8 a, .int .u8 b, .slice A3 n3 c3, .slice A4 n4 c4] w (Lawful w) := by
  have F4 := Lib.hid (fits4_any n0 A0 c0 w h0 i0)
  have F5 := Lib.hid (fits5_any n1 A1 c1 w h1 i1)
  have F6 := Lib.hid (fits6_any n2 A2 c2 w h2 i2)
  have FS := Lib.hid (some_any n0 n1 n2 n3 c0 c1 c2 c3 A0 A1 A2 A3 w h0 h1 h2 h3 i0 i1 i2 i3 hc3 hc3b)
  have I4 := Lib.hid i4
  clear i0 i1 i2 i3 i4 hc3 hc3b h0 h1 h2
  go_enter Try.func3, Try.ntmps3
  go_wp2_with fail
  refine F4.out.mono ?_
  rintro e wx ⟨⟨q4, rfl⟩, hw⟩
  subst hw
  clear F4
  cases q4
  · go_wp2_with fail
    go_ret
    exact ⟨rfl, Below.refl _ _⟩
  go_wp2_with fail
  refine F5.out.mono ?_
  rintro e wx ⟨⟨q5, rfl⟩, hw⟩
  subst hw
  clear F5
  cases q5
  · go_wp2_with fail
    go_ret
    exact ⟨rfl, Below.refl _ _⟩
  go_wp2_with fail
  refine F6.out.mono ?_
  rintro e wx ⟨⟨q6, rfl⟩, hw⟩
  subst hw
  clear F6
  cases q6
  · go_wp2_with fail
    go_ret
    exact ⟨rfl, Below.refl _ _⟩
  by_cases l3 : 2147483647 < n3
  · have k3 : decide ((2147483647 : Int) < n3) = true := decide_eq_true (by omega)
    clear l3
    go_wp2_with fail
    go_ret
    exact ⟨rfl, Below.refl _ _⟩
  have k3 : decide ((2147483647 : Int) < n3) = false := decide_eq_false (by omega)
  by_cases l4 : 2147483647 < n4
  · have k4 : decide ((2147483647 : Int) < n4) = true := decide_eq_true (by omega)
    clear l3 l4
    go_wp2_with fail
    go_ret
    exact ⟨rfl, Below.refl _ _⟩
  have k4 : decide ((2147483647 : Int) < n4) = false := decide_eq_false (by omega)
  go_wp2_with fail
  refine FS.out.mono ?_
  rintro e w1 ⟨all, l, at_, va, vl, vt, rfl, hva, hvl, hvt, hfine, hb1⟩
  have I4' : Hid (InU8 w1 A4 n4) := Lib.hid (old_u8 I4.out hb1)
  have HB1 := Lib.hid hb1
  obtain ⟨VA, vcap, rfl, _⟩ := rows_cells hva
  rcases hfine with rfl | ⟨ax, m, hf⟩
  · clear hva hvl hvt hb1
    go_wp2_with fail
    go_ret
    exact ⟨rfl, HB1.out⟩
  have hnl0 := hf.lists.1
  have hl4 := hf.lists.2.1
  have hax := hf.axl
  have hm5 := hf.num
  obtain ⟨L, lcap, rfl, hLl, hL⟩ := dls_cells hvl hnl0
  obtain ⟨XA, xcap, rfl, hX⟩ := ints_cells hvt
  obtain ⟨X, rfl, hXl, hXc⟩ := hX (by rw [hf.coord.1]; exact hax.1)
  obtain ⟨nl, hnl⟩ : ∃ nl, nl = l.length := ⟨_, rfl⟩
  obtain ⟨na, hna⟩ : ∃ na, na = all.length := ⟨_, rfl⟩
  obtain ⟨ai, hai⟩ : ∃ ai, ai = a % nl := ⟨_, rfl⟩
  obtain ⟨bi, hbi⟩ : ∃ bi, bi = b % m := ⟨_, rfl⟩
  have hail : ai < nl := by rw [hai]; exact Nat.mod_lt _ (by omega)
  have hbil : bi < m := by rw [hbi]; exact Nat.mod_lt _ hm5.1
  obtain ⟨d0, hd0⟩ : ∃ d, l[0]? = some d := ⟨_, List.getElem?_eq_getElem hnl0⟩
  obtain ⟨d, hd⟩ : ∃ d, l[ai]? = some d := ⟨_, List.getElem?_eq_getElem (by omega)⟩
  have hd0m := (hf.lists.2.2 d0 (List.mem_of_getElem? hd0)).2.2.1
  obtain ⟨e1, e2, e3, e4⟩ := hf.lists.2.2 d (List.mem_of_getElem? hd)
  obtain ⟨row, hrow⟩ : ∃ r, d.items[bi]? = some r := ⟨_, List.getElem?_eq_getElem (by omega)⟩
  obtain ⟨f1, f2⟩ := e4 row (List.mem_of_getElem? hrow)
  obtain ⟨_, dv0, _, k1, _, hg0⟩ := hL 0 d0 hd0
  obtain ⟨GA0, gcap0, rfl, _⟩ := rows_cells hg0
  obtain ⟨rv, dv, k2, k5, hrv, hdv⟩ := hL ai d hd
  obtain ⟨GA, gcap, rfl, hG⟩ := rows_cells hdv
  obtain ⟨G, rfl, hGl, hGc⟩ := hG (by omega)
  obtain ⟨rw_, k6, hrw⟩ := hGc bi row hrow
  obtain ⟨TA, tcap, rfl, hT⟩ := ints_cells hrw
  obtain ⟨RA, rcap, rfl, _⟩ := ints_cells hrv
  obtain ⟨n, hn⟩ : ∃ n, n = row.length := ⟨_, rfl⟩
  have hn5 : n ≤ 5 := by omega
  have ka : IntKind.i64.wrap (a : Int) = a := IntWalk.i64_in _ (by omega)
  have kb : IntKind.i64.wrap (b : Int) = b := IntWalk.i64_in _ (by omega)
  have kma : (a : Int).tmod nl = ai := by rw [Int.tmod_eq_emod_of_nonneg (by omega)]; omega
  have kmb : (b : Int).tmod m = bi := by rw [Int.tmod_eq_emod_of_nonneg (by omega)]; omega
  have kai : IntKind.i64.wrap (ai : Int) = ai := IntWalk.i64_in _ (by omega)
  have kbi : IntKind.i64.wrap (bi : Int) = bi := IntWalk.i64_in _ (by omega)
  have kn0 : ((nl : Int) == 0) = false := by rw [beq_eq_false_iff_ne]; omega
  have km0 : ((m : Int) == 0) = false := by rw [beq_eq_false_iff_ne]; omega
  have kn1 : ((nl : Int) == -1) = false := by rw [beq_eq_false_iff_ne]; omega
  have km1 : ((m : Int) == -1) = false := by rw [beq_eq_false_iff_ne]; omega
  have kna : ((na : Int) == 0) = false := by rw [beq_eq_false_iff_ne]; have := hf.regs.1; omega
  have knl : (0 : Int) < nl := by omega
  have kail : (ai : Int) < nl := by omega
  have kbil : (bi : Int) < m := by omega
  have HB9 := Lib.hid (fun k : Nat => bytes_any ax m _ _ all l at_ A4 n4 c4 (w1.drewN k) hf (good_regs.kept hva (kept_of_below (below_drewN (Below.refl _ _) k)) (fun _ _ h => h.elim)) (good_dls.kept hvl (kept_of_below (below_drewN (Below.refl _ _) k)) (fun _ _ h => h.elim)) (by omega) (old_u8 I4'.out (below_drewN (Below.refl _ _) k)))
  have HVA := Lib.hid hva
  have HRV := Lib.hid hrv
  have HDV := Lib.hid hdv
  have HXC := Lib.hid (And.intro hXl hXc)
  have HD := Lib.hid (And.intro hd hrow)
  have HN0 : Hid (∃ r', r' = row ∧ n = r'.length ∧ r'.length = d.regs.length ∧ ∀ x ∈ r', -32768 ≤ x ∧ x ≤ 32767) := Lib.hid ⟨row, rfl, hn, f1, f2⟩
  have HT := Lib.hid hT
  have HG := Lib.hid (And.intro k6 hGl)
  have HL := Lib.hid (And.intro k2 (And.intro k5 hLl))
  have HF := Lib.hid hf
  rw [hd0m] at k1
  rw [e3, ← hn] at *
  rw [← hnl, ← hna, hf.coord.1] at *
  clear hva hvl hvt hb1 hL hXc hg0 hrv hdv hGc hrw hT hG hai hbi hn hnl hna hd0 hd hd0m e1 e2 e3 e4 hrow f1 f2 hl4 hm5 hf k2 k5 k6
  have HN : Hid (n = row.length ∧ row.length = d.regs.length ∧ ∀ x ∈ row, -32768 ≤ x ∧ x ≤ 32767) := by
    obtain ⟨r', rfl, x1, x2, x3⟩ := HN0.out
    exact Lib.hid ⟨x1, x2, x3⟩
  clear HN0
  go_wp2_with fail
  go_quiet (fail)
  obtain ⟨W1, hW1⟩ : ∃ W, W = w1.drewN nq := ⟨_, rfl⟩
  have hbW1 : Below w1.heap.size w1 W1 := by rw [hW1]; exact below_drewN (Below.refl _ _) nq
  have HB10 := Lib.hid (HB9.out nq)
  rw [← hW1] at HB10 ⊢
  have HBW1 := Lib.hid hbW1
  clear HB9 hW1 hbW1 k1
  go_wp2_with fail
  refine HB10.out.mono ?_
  rintro e w2 ⟨ps, g, cp, bs, hbs, hpl, hps, rfl, hown, hb2⟩
  obtain ⟨N, hN⟩ : ∃ N, N = bs.length := ⟨_, rfl⟩
  have hb12 : Below w1.heap.size w1 w2 := HBW1.out.trans (hb2.mono HBW1.out.size)
  have hr := own_reads hown
  have hcap : N ≤ cp ∧ cp ≤ 9223372036854775807 := by
    obtain ⟨_, h1⟩ := hown
    have h2 : 0 < bs.length := by
      rw [hbs]; unfold storeBytes
      rw [List.length_append, List.length_append, headBytes_len]
      omega
    rcases h1 with ⟨e, _⟩ | ⟨g', cap', cur, e, _, _, h1, h2, _⟩
    · simp at e
    · injection e with _ _ e3
      subst e3
      unfold maxLen at h2
      omega
  rw [hbs] at hr
  have hI := Lib.hid (impl_any g N cp X ax xcap m ai bi all l at_ ps d row w2 HF.out hpl hps (by rw [← hbs]; exact hN.symm) hcap.1 hcap.2 (hown.lt g rfl).2 hr (fun j x hj => below_cell hb12 (HXC.out.2 j x hj)) HD.out.1 HD.out.2)
  have HB12 := Lib.hid hb12
  rw [← hN]
  clear HB10 hbs hpl hps hown hb2 hN hb12 hr hcap
  go_wp2_with fail
  refine hI.out.mono ?_
  rintro e w3 ⟨⟨b32, rfl, ht32⟩, hb3⟩
  have hb13 : Below w1.heap.size w1 w3 := HB12.out.trans (hb3.mono HB12.out.size)
  have HR := Lib.hid (ref_any X ax xcap m bi _ _ _ all l at_ d row w3 HF.out (good_regs.kept HVA.out (kept_of_below hb13) (fun _ _ h => h.elim)) (good_ints.kept HRV.out (kept_of_below hb13) (fun _ _ h => h.elim)) (good_grid.kept HDV.out (kept_of_below hb13) (fun _ _ h => h.elim)) (fun j x hj => below_cell hb13 (HXC.out.2 j x hj)) (List.mem_of_getElem? HD.out.1) HD.out.2)
  have HT32 := Lib.hid ht32
  have HB13 := Lib.hid hb13
  have k2 := below_cell hb13 HL.out.1
  have k5 := below_cell hb13 HL.out.2.1
  clear hI ht32 hb3 hb13
  go_wp2_with fail
  refine HR.out.mono ?_
  rintro e w4 ⟨⟨b64, rfl, ht64⟩, hb4⟩
  have hb14 : Below w1.heap.size w1 w4 := HB13.out.trans (hb4.mono HB13.out.size)
  have HT64 := Lib.hid ht64
  have HB14 := Lib.hid hb14
  have k5' := below_cell hb14 HL.out.2.1
  have k6' := below_cell hb14 HG.out.1
  have HS0 := Lib.hid (sl_start row)
  clear HR ht64 hb4 hb14 k2 k5
  go_wp2_with fail
  go_loopg [23, 103] (n) (fun gk sv iv W => ∃ (i s : Nat), gk = n - i ∧ i ≤ n ∧ iv = .int .i64 i ∧ sv = .float .f64 s ∧ SlIs row i s ∧ W = w4)
  case atStart => exact ⟨0, _, rfl, Nat.zero_le _, rfl, rfl, HS0.out, rfl⟩
  case round =>
    obtain ⟨i, s, hgk, hin, rfl, rfl, hsl, rfl⟩ := hrel
    have HKM := Lib.hid hgk
    have HSL := Lib.hid hsl
    by_cases hlt : i < n
    · obtain ⟨TG, rfl, _, hTc⟩ := HT.out (by omega)
      obtain ⟨x, hx⟩ : ∃ c, row[i]? = some c := ⟨_, List.getElem?_eq_getElem (by have := HN.out.1; omega)⟩
      have kx := below_cell HB14.out (hTc i x hx)
      have hxb := HN.out.2.2 x (List.mem_of_getElem? hx)
      obtain ⟨z, y, hz, hy, hsy⟩ := sl_step (by omega) hx HN.out.2.2 hsl
      obtain ⟨xa, hxa⟩ : ∃ xa, xa = x.natAbs := ⟨_, rfl⟩
      rw [← hxa] at hz
      have hmax : (if x < -x then -x else x) = (xa : Int) := by split <;> omega
      have hneg : IntKind.i64.wrap (-x) = -x := IntWalk.i64_in _ (by omega)
      have hop1 : ∀ t W, (binOp .mul t (.float .f64 (floatOfInt .f64 xa)) (.float .f64 4521832792735477133)).run Try.prog W = .ok (.float .f64 z) W := fun t W => run_float_arith W .mul t .f64 _ _ z hz
      have hop2 : ∀ t W, (binOp .add t (.float .f64 s) (.float .f64 z)).run Try.prog W = .ok (.float .f64 y) W := fun t W => run_float_arith W .add t .f64 _ _ y hy
      have HSY := Lib.hid hsy
      have ki : (i : Int) < n := by omega
      clear hgk hsl hTc hx hxb hz hy hsy hxa
      go_wp2_with fail
      go_roundg (n - (i + 1))
      case measure => have := HKM.out; omega
      case rel => exact ⟨i + 1, y, rfl, by omega, by go_num, rfl, HSY.out, rfl⟩
    · have hi : i = n := by omega
      subst hi
      have h32 := HT32.out
      have h64 := HT64.out
      rw [← HN.out.2.1, ← HN.out.1] at h32 h64
      obtain ⟨c, dl, hc, hd, dv, sv, hdv, hsv, s1, s2⟩ := end_val hn5 HN.out.2.2 h32 h64 hsl
      obtain ⟨r, hmx, hle⟩ := max_val (P := Try.prog) hdv (neg_val (k := .f64) hdv) hsv s1 s2
      have hcv : ∀ W, (convert 38 42 (.float .f32 b32)).run Try.prog W = .ok (.float .f64 c) W := fun W => run_convert_float_float W 38 42 .f32 .f64 b32 c (by rw [Try.underlying38]; rfl) Try.underlying42 hc
      have hop : ∀ t W, (binOp .sub t (.float .f64 c) (.float .f64 b64)).run Try.prog W = .ok (.float .f64 dl) W := fun t W => run_float_arith W .sub t .f64 _ _ dl hd
      have hng : ∀ W, (Op.unary .neg (.float .f64 dl)).run Try.prog W = .ok (.float .f64 (Op.negFloat .f64 dl)) W := fun W => by simp [Op.unary]
      have ki : ¬ (i : Int) < i := by omega
      clear hgk hsl h32 h64 hc hd hdv hsv s1 s2
      go_wp2_with fail
      all_goals
        go_ret
        exact ⟨rfl, HB1.out.trans (HB14.out.mono HB1.out.size)⟩
end Go.Proofs.Ytdknpamegphjlaa.Sd
