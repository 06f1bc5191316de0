/- The store parsed, walked. -/
import Derived.Test.YtdknpamegphjlaaIvs
namespace Go.Proofs.Ytdknpamegphjlaa.Sd
open Go Go.RowKit

set_option maxRecDepth 1000000 in
set_option maxHeartbeats 8000000 in
theorem ivs_any (g N cap ax m : Nat) (all : List (List Ax)) (l : List Dl) (at_ : List Int) (ps : List (Dl × Nat)) (w : World) (hf : Fine all l at_ ax m) (hpl : ps.length = l.length) (hps : PsOk l ps) (hN : (storeBytes ax all ps).length = N) (hcap : N ≤ cap) (hcm : cap ≤ 9223372036854775807) (hg : g < w.heap.size) (hr : Reads w g 0 (storeBytes ax all ps)) :
    Calls Try.prog 14 #[.slice (some ⟨g, 0, none⟩) N cap] w (IvsP ax all l w) := by
  obtain ⟨nl, hnl⟩ : ∃ nl, nl = l.length := ⟨_, rfl⟩
  have hpln : ps.length = nl := by omega
  have hnl4 : 0 < nl ∧ nl ≤ 4 := by rw [hnl]; exact ⟨hf.lists.1, hf.lists.2.1⟩
  obtain ⟨sa, hsa⟩ : ∃ sa, sa = storeAt ax all nl := ⟨_, rfl⟩
  have hbs : storeBytes ax all ps = headBytes nl sa ps ++ regBytes ax all ++ datas ps := by
    unfold storeBytes
    rw [hpln, hsa]
  have hhl : (headBytes nl sa ps).length = 8 + 4 * nl := by rw [headBytes_len, hpln]
  rw [hbs] at hN hr
  have hrh : Reads w g 0 (headBytes nl sa ps) := hr.left.left
  have hrr : Reads w g (8 + 4 * nl) (regBytes ax all) := by
    have h := hr.left.right
    rwa [hhl, Nat.zero_add] at h
  have hrd : Reads w g sa (datas ps) := by
    have h := hr.right
    rw [List.length_append, hhl, Nat.zero_add] at h
    rw [hsa]
    unfold storeAt
    exact h
  have hregl : (regBytes ax all).length = 4 + 6 * ax * all.length := by
    unfold regBytes
    rw [shorts_len, List.length_append, regNums_len _ ax (fun r' h' => (hf.regs.2.2 r' h').1)]
    have : 6 * ax * all.length = 2 * (all.length * (3 * ax)) := by
      rw [Nat.mul_comm all.length, ← Nat.mul_assoc, ← Nat.mul_assoc]
    simp
    omega
  have hNl : N = 8 + 4 * nl + (regBytes ax all).length + (datas ps).length := by
    rw [← hN, List.length_append, List.length_append, hhl]
  have hsaN : sa = 8 + 4 * nl + (regBytes ax all).length := by rw [hsa]; rfl
  unfold headBytes at hrh
  obtain ⟨vs, hvs⟩ : ∃ vs, vs = [1, (8 + 4 * (nl : Int)) / 65536, 8 + 4 * (nl : Int), (nl : Int)] ++ longs (offs sa ps) := ⟨_, rfl⟩
  rw [← hvs] at hrh
  have HRH := Lib.hid hrh
  have HRR := Lib.hid hrr
  have HRD := Lib.hid hrd
  have HVS := Lib.hid hvs
  have HF := Lib.hid hf
  have HNL := Lib.hid hnl
  have HPL := Lib.hid hpln
  have HPS := Lib.hid hps
  have HREGL := Lib.hid hregl
  have HNN := Lib.hid (And.intro hNl hsaN)
  have hN8 : 8 + 4 * nl + 4 ≤ N := by omega
  have hl2 : decide ((N : Int) < 8) = false := decide_eq_false (by omega)
  have h7 : (7 : Int) < N := by omega
  have c7 : w.cell? ⟨g, 7, none⟩ = some (.int .u8 (((nl : Int) % 256).toNat : Nat)) := by
    have h := (hrh.two (j := 3) (x := (nl : Int)) (by rw [hvs]; rfl)).2
    simpa using h
  obtain ⟨q, hq⟩ : ∃ q, q = 8 + 4 * nl := ⟨_, rfl⟩
  obtain ⟨n4, hn4⟩ : ∃ n4, n4 = 4 * nl := ⟨_, rfl⟩
  have hq8 : 8 < q := by omega
  have hqN : q ≤ N := by omega
  have hq100 : q ≤ 24 := by omega
  have kq0 : decide ((N : Int) < q) = false := decide_eq_false (by omega)
  have kq0' : decide (N < q) = false := decide_eq_false (by omega)
  have kq1 : ((q : Int) == 0) = false := by rw [beq_eq_false_iff_ne]; omega
  have kq2 : ((q : Int) != 0) = true := by rw [bne_iff_ne]; omega
  have kqw : IntKind.i64.wrap (q : Int) = q := IntWalk.i64_in _ (by omega)
  have kn4 : 4 * (nl : Int) = n4 := by omega
  have kn4' : (nl : Int) * 4 = n4 := by omega
  have kn4w : IntKind.i64.wrap (n4 : Int) = n4 := IntWalk.i64_in _ (by omega)
  have kq8 : 8 + (n4 : Int) = q := by omega
  have knw : IntKind.i64.wrap (nl : Int) = nl := IntWalk.i64_in _ (by omega)
  have HQ := Lib.hid (And.intro hq hn4)
  have HS := Lib.hid (Item.start 59 z4 w)
  have q0 : (0 : Int) ≤ N := by omega
  have q2 : (2 : Int) ≤ N := by omega
  have q6 : (6 : Int) ≤ N := by omega
  have zc2 : ¬ cap = 2 := by omega
  have zc6 : ¬ cap = 6 := by omega
  clear hf hpl hps hN hr hnl hpln hsa hbs hhl hrh hrr hrd hregl hNl hsaN hvs hq hn4
  go_enter Try.func14, Try.ntmps14
  go_upto_region 7 with fail
  go_cut [] (fun W => Item 59 z4 w W ([.int .u16 1, .int .u16 0, .slice none 0 0, .slice none 0 0]))
  case first =>
    obtain ⟨W0, hW0⟩ : ∃ W0, W0 = (w.alloc (.cells z4.toArray 59)).alloc (.cells z4.toArray 59) := ⟨_, rfl⟩
    have HS1 := HS
    rw [← hW0] at HS1
    obtain ⟨u0, uf, us⟩ := HS1.out.cell (i := 0) (v := .int .u16 0) rfl
    have k := HRH.out.two (j := 0) (x := (1 : Int)) (by rw [HVS.out]; rfl)
    have k0 : W0.cell? ⟨g, 0, none⟩ = some (.int .u8 ((0 : Nat) : Nat)) := below_cell HS1.out.below (by have h := k.1; simpa using h)
    have k1 : W0.cell? ⟨g, 0 + 1, none⟩ = some (.int .u8 ((1 : Nat) : Nat)) := below_cell HS1.out.below (by have h := k.2; simpa using h)
    have hC := Lib.hid (half_any g 0 N cap 0 1 W0.drew (by omega) (by omega) (by omega) k0 k1)
    change Code.wp _ _ _ _ ((w.alloc (.cells z4.toArray 59)).alloc (.cells z4.toArray 59))
    rw [← hW0]
    clear c7 hW0 k k0 k1
    go_region_with (go_at_call 19; refine hC.out.mono ?_; rintro e w1 ⟨rfl, hb1⟩; have z0 := (hb1.cell (p := ⟨w.heap.size + 1, 0, none⟩) us).trans u0; have z1 := (hb1.frozen (p := ⟨w.heap.size + 1, 0, none⟩) us).trans uf)
    all_goals
      go_wp2_with fail
      go_meet
    all_goals exact (HS1.out.later ((Below.refl _ _).drew.trans hb1)).set 0 _
  case rest =>
  have HI1 := Lib.hid hcut
  obtain ⟨W1, rfl⟩ : ∃ W : World, W = wc := ⟨_, rfl⟩
  clear hcut
  go_upto_region 8 with fail
  go_cut [8] (fun qv W => qv = .int .i64 q ∧ Item 59 z4 w W ([.int .u16 1, .int .u16 0, .slice none 0 0, .slice none 0 0]))
  case first =>
    obtain ⟨ba, bb, bc, bd, ha, hb, hc, hd, hv, k0, k1, k2, k3⟩ := HRH.out.word (j := 1) (o := q) (by omega) (by rw [HVS.out, show (8 : Int) + 4 * (nl : Int) = (q : Int) by omega]; rfl) (by rw [HVS.out, show (8 : Int) + 4 * (nl : Int) = (q : Int) by omega]; rfl)
    have e0 := below_cell HI1.out.below k0
    have e1 := below_cell HI1.out.below k1
    have e2 := below_cell HI1.out.below k2
    have e3 := below_cell HI1.out.below k3
    have hC := Lib.hid (word_any g 2 (N - 2) (cap - 2) ba bb bc bd W1.drew (by omega) ha hb hc hd (by simpa using e0) (by simpa using e1) (by simpa using e2) (by simpa using e3))
    rw [hv] at hC
    clear c7 k0 k1 k2 k3 e0 e1 e2 e3 hv
    go_region_with (go_at_call 20; refine hC.out.mono ?_; rintro e w1 ⟨rfl, hb1⟩)
    all_goals
      go_wp2_with fail
      go_meet
    all_goals exact ⟨by simp, HI1.out.later ((Below.refl _ _).drew.trans hb1)⟩
  case rest =>
  obtain ⟨rfl, hi2⟩ := hcut
  have HI2 := Lib.hid hi2
  obtain ⟨W2, rfl⟩ : ∃ W : World, W = wc := ⟨_, rfl⟩
  clear hi2
  go_upto_region 9 with fail
  go_cut [9] (fun nv W => nv = .int .i64 nl ∧ Item 59 z4 w W ([.int .u16 1, .int .u16 0, .slice none 0 0, .slice none 0 0]))
  case first =>
    have k := HRH.out.two (j := 3) (x := (nl : Int)) (by rw [HVS.out]; rfl)
    have k0 := below_cell HI2.out.below k.1
    have k1 := below_cell HI2.out.below k.2
    have hC := Lib.hid (half_any g 6 (N - 6) (cap - 6) ((nl : Int) / 256 % 256).toNat ((nl : Int) % 256).toNat W2.drew (by omega) (by omega) (by omega) k0 k1)
    rw [half_val nl (by omega)] at hC
    clear c7 k k0 k1
    go_region_with (go_at_call 19; refine hC.out.mono ?_; rintro e w1 ⟨rfl, hb1⟩)
    all_goals
      go_wp2_with fail
      go_meet
    all_goals exact ⟨by simp, HI2.out.later ((Below.refl _ _).drew.trans hb1)⟩
  case rest =>
  obtain ⟨rfl, hi3⟩ := hcut
  have HI3 := Lib.hid hi3
  obtain ⟨W3, rfl⟩ : ∃ W : World, W = wc := ⟨_, rfl⟩
  clear hi3 c7
  go_upto_region 16 with fail
  have hregs := Lib.hid (regs_any g q (N - q) (cap - q) ax all.length all W3 rfl (by have := HREGL.out; have := HNN.out; have := HQ.out; omega) HF.out.axl.1 HF.out.axl.2 HF.out.regs.1 HF.out.regs.2.1 (by omega) (by omega) (by have := HI3.out.below.size; omega) HF.out.regs.2.2 (by
    have h := HRR.out
    rw [← HQ.out.1] at h
    exact h.below (show Below w.heap.size w W3 from HI3.out.below)))
  unfold RegsP at hregs
  have kqs : (q : Int) ≤ N := by omega
  have kqc : ¬ cap = q := by omega
  go_cut [11] (fun ev W => ev = .nilIface ∧ ∃ (VA : Option Addr) (vn vcap : Nat), Item 59 z4 w W ([.int .u16 1, .int .u16 (ax : Nat), .slice VA vn vcap, .slice none 0 0]) ∧ Rows' Ax16R (fun q => q < w.heap.size + 2) W (.slice VA vn vcap) all)
  case first =>
    go_wp2_with fail
    refine hregs.out.mono ?_
    rintro e w4 ⟨vv, qq, rfl, hrows, hb4⟩
    obtain ⟨VA, vcap, rfl, _, _⟩ : ∃ A cap, vv = .slice A all.length cap ∧ all.length ≤ cap ∧ cap ≤ 9223372036854775807 := by
      obtain ⟨_, _, h2, _⟩ := hrows
      exact h2.len
    have hi4 := HI3.out.later hb4
    have hs3 := HI3.out.size
    obtain ⟨u1, f1, _⟩ := hi4.cell (i := 1) (v := .int .u16 0) rfl
    obtain ⟨u2, f2, _⟩ := hi4.cell (i := 2) (v := .slice none 0 0) rfl
    have hi5 := (hi4.set 1 (.int .u16 (ax : Nat))).set 2 (.slice VA all.length vcap)
    have hr5 : Rows' Ax16R (fun q => q < w.heap.size + 2) ((w4.setCell ⟨w.heap.size + 1, 1, none⟩ (.int .u16 (ax : Nat))).setCell ⟨w.heap.size + 1, 2, none⟩ (.slice VA all.length vcap)) (.slice VA all.length vcap) all := by
      have h1 := good_ax16.rows.sub hrows (S1 := fun q => q < w.heap.size + 2) (fun q _ h => by omega)
      exact good_ax16.rows.kept (good_ax16.rows.kept h1 (kept_set _ _ _ _) (fun q _ e => by omega)) (kept_set _ _ _ _) (fun q _ e => by omega)
    have HN := Lib.hid (And.intro hi5 hr5)
    clear hrows hb4 hi4 hi5 hr5
    go_wp2_with fail
    go_meet
    case rel => exact ⟨rfl, VA, all.length, vcap, HN.out.1, HN.out.2⟩
  case rest =>
  obtain ⟨rfl, VA, vn, vcap, hi5, hr5⟩ := hcut
  have HI5 := Lib.hid hi5
  have HR5 := Lib.hid hr5
  obtain ⟨W5, rfl⟩ : ∃ W : World, W = wc := ⟨_, rfl⟩
  have hs5 := hi5.size
  obtain ⟨u3, f3, us3⟩ := hi5.cell (i := 3) (v := .slice none 0 0) rfl
  have hmk : ∀ u : World, (Instr.makeSlice 57 (.int .i64 nl) (.int .i64 nl)).run Try.prog u = .ok (.slice (some ⟨u.heap.size, 0, none⟩) nl nl) (u.alloc (.cells (madeCells #[.int .u16 0, .int .u16 0, .int .u16 0, .slice none 0 0, .slice none 0 0] (nl * 5)) 85)) := fun u => by
    obtain ⟨i0, hi, hz0, hz1, hz2⟩ := info_parts info85
    have := run_make u (P := Try.prog) 57 85 i0 _ Try.underlying57 hi hz0 .i64 .i64 nl nl (by omega) (Int.le_refl _) (by rw [hz2]; omega) (by omega)
    simpa [hz1, Value.cells] using this
  clear hi5 hr5 hregs
  go_upto_region 23 with fail
  go_cut [77, 78, 79, 80] (fun _ _ nv iv W => nv = .int .i64 nl ∧ iv = .int .i64 0 ∧ ∃ I : Nat, w.heap.size + 2 ≤ I ∧ Item 59 z4 w W ([.int .u16 1, .int .u16 (ax : Nat), .slice VA vn vcap, .slice (some ⟨I, 0, none⟩) nl nl]) ∧ Rows' Ax16R (fun q => q < w.heap.size + 2 ∨ I ≤ q) W (.slice VA vn vcap) all ∧ IRows I nl 0 l W)
  case first =>
    have hb5 : Below (W5.setCell ⟨w.heap.size + 1, 3, none⟩ (.slice (some ⟨W5.heap.size, 0, none⟩) nl nl)).heap.size (W5.setCell ⟨w.heap.size + 1, 3, none⟩ (.slice (some ⟨W5.heap.size, 0, none⟩) nl nl)) ((W5.setCell ⟨w.heap.size + 1, 3, none⟩ (.slice (some ⟨W5.heap.size, 0, none⟩) nl nl)).alloc (.cells (madeCells #[.int .u16 0, .int .u16 0, .int .u16 0, .slice none 0 0, .slice none 0 0] (nl * 5)) 85)) := (Below.refl _ _).alloc (Nat.le_refl _) _
    have hi6 := (HI5.out.set 3 (.slice (some ⟨W5.heap.size, 0, none⟩) nl nl)).later hb5
    have hr6 : Rows' Ax16R (fun q => q < w.heap.size + 2 ∨ W5.heap.size ≤ q) ((W5.setCell ⟨w.heap.size + 1, 3, none⟩ (.slice (some ⟨W5.heap.size, 0, none⟩) nl nl)).alloc (.cells (madeCells #[.int .u16 0, .int .u16 0, .int .u16 0, .slice none 0 0, .slice none 0 0] (nl * 5)) 85)) (.slice VA vn vcap) all := by
      have h1 := good_ax16.rows.sub HR5.out (S1 := fun q => q < w.heap.size + 2 ∨ W5.heap.size ≤ q) (fun q hq h => by omega)
      exact good_ax16.rows.kept (good_ax16.rows.kept h1 (kept_set _ _ _ _) (fun q _ e => by omega)) (kept_of_below hb5) (fun _ _ h => h.elim)
    have hi7 : IRows W5.heap.size nl 0 l ((W5.setCell ⟨w.heap.size + 1, 3, none⟩ (.slice (some ⟨W5.heap.size, 0, none⟩) nl nl)).alloc (.cells (madeCells #[.int .u16 0, .int .u16 0, .int .u16 0, .slice none 0 0, .slice none 0 0] (nl * 5)) 85)) := by
      refine ⟨(madeCells #[.int .u16 0, .int .u16 0, .int .u16 0, .slice none 0 0, .slice none 0 0] (nl * 5)).toList, ?_, by simpa using size_madeCells _ _, fun k d hk => absurd hk (by omega)⟩
      have := heap_alloc_new (W5.setCell ⟨w.heap.size + 1, 3, none⟩ (.slice (some ⟨W5.heap.size, 0, none⟩) nl nl)) (.cells (madeCells #[.int .u16 0, .int .u16 0, .int .u16 0, .slice none 0 0, .slice none 0 0] (nl * 5)) 85)
      rw [World.size_setCell] at this
      simpa using this
    have HRR6 := Lib.hid (And.intro hi6 (And.intro hr6 hi7))
    clear hi6 hr6 hi7 hb5
    go_wp2_with fail
    go_meet
    case rel => exact ⟨rfl, rfl, W5.heap.size, hs5, HRR6.out.1, HRR6.out.2.1, HRR6.out.2.2⟩
  case rest =>
  obtain ⟨rfl, rfl, I, hI, hi8, hr8, hir8⟩ := hcut
  have HI8 := Lib.hid hi8
  have HR8 := Lib.hid hr8
  have HIR8 := Lib.hid hir8
  obtain ⟨W8, rfl⟩ : ∃ W : World, W = wc := ⟨_, rfl⟩
  have hIg : I ≠ g := by omega
  clear hi8 hr8 hir8 u3 f3 us3 hmk hl2 hs5
  go_wp2_with fail
  go_loopg [80] (nl) (fun gk iv W => ∃ i : Nat, gk = nl - i ∧ i ≤ nl ∧ iv = .int .i64 i ∧ Item 59 z4 w W ([.int .u16 1, .int .u16 (ax : Nat), .slice VA vn vcap, .slice (some ⟨I, 0, none⟩) nl nl]) ∧ Rows' Ax16R (fun q => q < w.heap.size + 2 ∨ I ≤ q) W (.slice VA vn vcap) all ∧ IRows I nl i l W)
  case atStart => exact ⟨0, rfl, Nat.zero_le _, rfl, HI8.out, HR8.out, HIR8.out⟩
  case round =>
    obtain ⟨i, hgk, hin, rfl, hi, hrows, hir⟩ := hrel
    obtain ⟨wo, rfl⟩ : ∃ wo : World, wo = wr := ⟨_, rfl⟩
    have HK := Lib.hid hgk
    have HI := Lib.hid hi
    have HROWS := Lib.hid hrows
    have HIR := Lib.hid hir
    by_cases hlt : i < nl
    · obtain ⟨p, hp⟩ : ∃ p, ps[i]? = some p := ⟨_, List.getElem?_eq_getElem (by have := HPL.out; omega)⟩
      obtain ⟨hd, hfit⟩ := HPS.out i p hp
      obtain ⟨d1, d2, d3, d4⟩ := HF.out.lists.2.2 p.1 (List.mem_of_getElem? hd)
      obtain ⟨o, ho⟩ : ∃ o, o = sa + (datas (ps.take i)).length := ⟨_, rfl⟩
      have hsplit := datas_split ps hp
      have hlens : (datas ps).length = (datas (ps.take i)).length + ((dataBytes p).length + (datas (ps.drop (i + 1))).length) := by
        rw [hsplit, List.length_append, List.length_append]
      obtain ⟨db6, _⟩ := dataBytes_len p m d3 HF.out.num.2 d1 (fun row h => (d4 row h).1)
      obtain ⟨n1, n2⟩ := HNN.out
      have hoN : o + (dataBytes p).length ≤ N := by omega
      have hdl : (datas ps).length ≤ 1000 := by
        have h1 := flat_le dataBytes 66 ps (fun p' hp' => by
          obtain ⟨i', hi'⟩ := List.getElem?_of_mem hp'
          obtain ⟨e1, e2, e3, e4⟩ := HF.out.lists.2.2 p'.1 (List.mem_of_getElem? (HPS.out i' p' hi').1)
          exact (dataBytes_len p' m e3 HF.out.num.2 e1 (fun row h => (e4 row h).1)).2)
        have h2 := HPL.out
        unfold datas
        omega
      have hregb : (regBytes ax all).length ≤ 1000 := by
        rw [HREGL.out]
        have h1 : 6 * ax * all.length ≤ 18 * 6 := Nat.mul_le_mul (by have := HF.out.axl; omega) HF.out.regs.2.1
        omega
      have ho1 : o < 10000 := by omega
      have ho0 : 0 < o := by omega
      have hoo := offs_at ps sa i (by have := HPL.out; omega)
      rw [← ho] at hoo
      obtain ⟨l1, l2⟩ := longs_at _ _ _ hoo
      obtain ⟨p4, hp4⟩ : ∃ p4, p4 = 4 * i := ⟨_, rfl⟩
      obtain ⟨p8, hp8⟩ : ∃ p8, p8 = 8 + p4 := ⟨_, rfl⟩
      have hv1 : vs[4 + 2 * i]? = some ((o : Int) / 65536) := by
        rw [HVS.out, List.getElem?_append_right (by simp)]
        simpa using l1
      have hv2 : vs[4 + 2 * i + 1]? = some (o : Int) := by
        rw [HVS.out, List.getElem?_append_right (by simp; omega)]
        have : 4 + 2 * i + 1 - 4 = 2 * i + 1 := by omega
        simpa [this] using l2
      obtain ⟨ba, bb, bc, bd, ha, hb, hc, hd4, hv, k0, k1, k2, k3⟩ := HRH.out.word (j := 4 + 2 * i) (o := o) (by omega) hv1 hv2
      rw [show 0 + 2 * (4 + 2 * i) = p8 by omega] at k0 k1 k2 k3
      have hC := Lib.hid (word_any g p8 (N - p8) (cap - p8) ba bb bc bd wo.drew (by have := HQ.out; omega) ha hb hc hd4 (below_cell hi.below.drew k0) (below_cell hi.below.drew k1) (below_cell hi.below.drew k2) (below_cell hi.below.drew k3))
      rw [hv] at hC
      have hrdp : Reads w g o (dataBytes p) := by
        have h := HRD.out
        rw [hsplit] at h
        have h2 := h.right.left
        rw [← ho] at h2
        exact h2
      have HO := Lib.hid (And.intro hd (And.intro hfit (And.intro d1 (And.intro d2 (And.intro d3 (And.intro d4 (And.intro hoN (And.intro db6 hrdp))))))))
      have kp4 : 4 * (i : Int) = p4 := by omega
      have kp4' : (i : Int) * 4 = p4 := by omega
      have kp4w : IntKind.i64.wrap (p4 : Int) = p4 := IntWalk.i64_in _ (by omega)
      have kp8 : 8 + (p4 : Int) = p8 := by omega
      have kp8w : IntKind.i64.wrap (p8 : Int) = p8 := IntWalk.i64_in _ (by omega)
      have kpN : (p8 : Int) ≤ N := by have := HQ.out; omega
      have kpN' : p8 ≤ N := by omega
      have kpc : ¬ cap = p8 := by have := HQ.out; omega
      have kow : IntKind.i64.wrap (o : Int) = o := IntWalk.i64_in _ (by omega)
      have ki : (i : Int) < nl := by omega
      obtain ⟨m3, _, us⟩ := hi.cell (i := 3) (v := .slice (some ⟨I, 0, none⟩) nl nl) rfl
      clear hgk hi hrows hir hp hd hfit d1 d2 d3 d4 ho hsplit hlens n1 n2 hdl hregb hoo l1 l2 hp4 hp8 hv1 hv2 hv k0 k1 k2 k3 hrdp
      go_upto_region 26 with fail
      go_cut [14] (fun ov W => ov = .int .i64 o ∧ Below wo.heap.size wo W)
      case first =>
        go_region_with (go_at_call 20; refine hC.out.mono ?_; rintro e w1 ⟨rfl, hb1⟩)
        all_goals
          go_wp2_with fail
          go_meet
        all_goals exact ⟨by simp, (Below.refl _ wo).drew.trans hb1⟩
      case rest =>
        obtain ⟨rfl, hbo⟩ := hcut
        obtain ⟨wp, rfl⟩ : ∃ wp : World, wp = wc := ⟨_, rfl⟩
        obtain ⟨hd, hfit, d1, d2, d3, d4, hoN, db6, hrdp⟩ := HO.out
        have hi2 := HI.out.later hbo
        have hir2 := HIR.out.later hbo
        have hrows2 := good_ax16.rows.kept HROWS.out (kept_of_below hbo) (fun _ _ h => h.elim)
        have hwp : Below w.heap.size w wp := hi2.below
        have hC2 := Lib.hid (ivd_any g o (N - o) (cap - o) m p.1.regs.length p.2 p.1 wp.drew d3 rfl HF.out.num.2 HF.out.num.1 d1 (fun k hk => by have h1 := d2 k hk; have h2 := HF.out.regs.2.1; omega) d4 hfit (show (dataBytes p).length ≤ N - o by omega) (by omega) (by omega) (by show g < wp.heap.size; have := hwp.size; omega) (hrdp.below (show Below w.heap.size w wp.drew from hwp.drew)))
        have hC3 : Calls Try.prog 22 #[.slice (some ⟨g, o, none⟩) (N - o) (cap - o)] wp.drew fun e w' => ∃ (wd G : Nat) (DA : Option Addr) (dcap : Nat) (z : Int), e = .returned (.tuple #[.agg #[.int .u16 (m : Nat), .int .u16 (wd : Nat), .int .u16 (p.1.regs.length : Nat), .slice (some ⟨G, 0, none⟩) p.1.regs.length p.1.regs.length, .slice DA m dcap], .int .i64 z, .nilIface]) ∧ IvdR (fun q => q < wp.heap.size) w' (.slice (some ⟨G, 0, none⟩) p.1.regs.length p.1.regs.length) (.slice DA m dcap) p.1 ∧ Below wp.heap.size wp w' := by
          refine hC2.out.mono ?_
          rintro e w' ⟨wd, rg, dl, z, rfl, hivd, hb⟩
          obtain ⟨G, rfl, _⟩ := hivd.1
          obtain ⟨DA, dcap, hdl, _, _⟩ : ∃ A cap, dl = .slice A p.1.items.length cap ∧ p.1.items.length ≤ cap ∧ cap ≤ 9223372036854775807 := by
            obtain ⟨_, _, h2, _⟩ := hivd.2
            exact h2.len
          subst hdl
          rw [d3] at hivd ⊢
          exact ⟨wd, G, DA, dcap, z, rfl, hivd, (Below.refl _ wp).drew.trans hb⟩
        have HC3 := Lib.hid hC3
        obtain ⟨y3, _, us2⟩ := hi2.cell (i := 3) (v := .slice (some ⟨I, 0, none⟩) nl nl) rfl
        have hIs : I < wp.heap.size := by obtain ⟨cur, h1, _⟩ := hir2.row; exact (Array.getElem?_eq_some_iff.1 h1).1
        obtain ⟨⟨x0, c0⟩, f0⟩ := hir2.cell (k := i * 5) (by omega)
        obtain ⟨⟨x1, c1⟩, f1⟩ := hir2.cell (k := i * 5 + 1) (by omega)
        obtain ⟨⟨x2, c2⟩, f2⟩ := hir2.cell (k := i * 5 + 2) (by omega)
        obtain ⟨⟨x3, c3⟩, f3⟩ := hir2.cell (k := i * 5 + 3) (by omega)
        obtain ⟨⟨x4, c4⟩, f4⟩ := hir2.cell (k := i * 5 + 4) (by omega)
        have HST := Lib.hid (And.intro hi2 (And.intro hir2 hrows2))
        have HD := Lib.hid (And.intro hd d3)
        have koN : (o : Int) ≤ N := by omega
        have koN' : o ≤ N := by omega
        have koc : ¬ cap = o := by omega
        have ko1 : ((o : Int) == 0) = false := by rw [beq_eq_false_iff_ne]; omega
        have ko2 : decide (N < o) = false := decide_eq_false (by omega)
        clear hbo hi2 hir2 hrows2 hwp hd hfit d1 d2 d3 d4 hoN db6 hrdp hC2 hC3 m3 us
        go_upto_region 32 with fail
        go_cut [16] (fun ev W => ev = .nilIface ∧ Item 59 z4 w W ([.int .u16 1, .int .u16 (ax : Nat), .slice VA vn vcap, .slice (some ⟨I, 0, none⟩) nl nl]) ∧ Rows' Ax16R (fun q => q < w.heap.size + 2 ∨ I ≤ q) W (.slice VA vn vcap) all ∧ IRows I nl (i + 1) l W)
        case first =>
          go_region_with (go_at_call 22; (refine HC3.out.mono ?_); rintro e w1 ⟨wd, G, DA, dcap, z, rfl, hivd, hb1⟩; have y4 := below_cell hb1 y3; have g0 := below_cell hb1 c0; have g1 := below_cell hb1 c1; have g2 := below_cell hb1 c2; have g3 := below_cell hb1 c3; have g4 := below_cell hb1 c4; have h0 := (hb1.frozen (p := ⟨I, i * 5, none⟩) hIs).trans f0; have h1 := (hb1.frozen (p := ⟨I, i * 5 + 1, none⟩) hIs).trans f1; have h2 := (hb1.frozen (p := ⟨I, i * 5 + 2, none⟩) hIs).trans f2; have h3 := (hb1.frozen (p := ⟨I, i * 5 + 3, none⟩) hIs).trans f3; have h4 := (hb1.frozen (p := ⟨I, i * 5 + 4, none⟩) hIs).trans f4)
          all_goals
            obtain ⟨t1, t2, t3⟩ := HST.out
            have v1 := (t2.later hb1).next (wd := wd) HD.out.1 hlt (ivd_sub hivd (fun q _ h => by omega))
            rw [HD.out.2] at v1
            have ks : Kept (fun q => q = I) w1 (((((w1.setCell ⟨I, i * 5, none⟩ (.int .u16 (m : Nat))).setCell ⟨I, i * 5 + 1, none⟩ (.int .u16 (wd : Nat))).setCell ⟨I, i * 5 + 2, none⟩ (.int .u16 (p.1.regs.length : Nat))).setCell ⟨I, i * 5 + 3, none⟩ (.slice (some ⟨G, 0, none⟩) p.1.regs.length p.1.regs.length)).setCell ⟨I, i * 5 + 4, none⟩ (.slice DA m dcap)) :=
              ((((kept_set w1 I _ _).trans (kept_set _ I _ _) (fun _ _ h => h)).trans (kept_set _ I _ _) (fun _ _ h => h)).trans (kept_set _ I _ _) (fun _ _ h => h)).trans (kept_set _ I _ _) (fun _ _ h => h)
            have v2 := item_kept (t1.later hb1) ks (fun q h => by omega)
            have v3 := good_ax16.rows.kept (good_ax16.rows.kept t3 (kept_of_below hb1) (fun _ _ h => h.elim)) ks (fun q _ h => Or.inr (by omega))
            have HV := Lib.hid (And.intro v1 (And.intro v2 v3))
            clear v1 v2 v3 ks t1 t2 t3 hivd hb1 y4 g0 g1 g2 g3 g4 h0 h1 h2 h3 h4
            go_wp2_with fail
            go_meet
            case rel => exact ⟨rfl, HV.out.2.1, HV.out.2.2, HV.out.1⟩
        case rest =>
          obtain ⟨rfl, hi9, hr9, hir9⟩ := hcut
          have HN := Lib.hid (And.intro hi9 (And.intro hr9 hir9))
          obtain ⟨wq, rfl⟩ : ∃ wq : World, wq = wc := ⟨_, rfl⟩
          clear hi9 hr9 hir9 y3 c0 c1 c2 c3 c4 f0 f1 f2 f3 f4
          go_wp2_with fail
          go_roundg (nl - (i + 1))
          case measure => have := HK.out; omega
          case rel => exact ⟨i + 1, rfl, by omega, by go_num, HN.out.1, HN.out.2.1, HN.out.2.2⟩
    · have hin2 : i = nl := by omega
      rw [hin2] at hir
      have e0 := (hi.cell (i := 0) (v := .int .u16 1) rfl).1
      have e1 := (hi.cell (i := 1) (v := .int .u16 (ax : Nat)) rfl).1
      have e2 := (hi.cell (i := 2) (v := .slice VA vn vcap) rfl).1
      have e3 := (hi.cell (i := 3) (v := .slice (some ⟨I, 0, none⟩) nl nl) rfl).1
      have r0 : wo.cell? ⟨w.heap.size, 0, none⟩ = some (.int .u16 0) := by rw [cell_in hi.row0]; rfl
      have r1 : wo.cell? ⟨w.heap.size, 1, none⟩ = some (.int .u16 0) := by rw [cell_in hi.row0]; rfl
      have r2 : wo.cell? ⟨w.heap.size, 2, none⟩ = some (.slice none 0 0) := by rw [cell_in hi.row0]; rfl
      have r3 : wo.cell? ⟨w.heap.size, 3, none⟩ = some (.slice none 0 0) := by rw [cell_in hi.row0]; rfl
      have t0 : wo.frozen? ⟨w.heap.size, 0, none⟩ = false := frozen_in hi.row0
      have t1 : wo.frozen? ⟨w.heap.size, 1, none⟩ = false := frozen_in hi.row0
      have t2 : wo.frozen? ⟨w.heap.size, 2, none⟩ = false := frozen_in hi.row0
      have t3 : wo.frozen? ⟨w.heap.size, 3, none⟩ = false := frozen_in hi.row0
      have hRES : ∀ (a b c e : Value) (z : Int), IvsP ax all l w (.returned (.tuple #[.agg #[.int .u16 1, .int .u16 (ax : Nat), .slice VA vn vcap, .slice (some ⟨I, 0, none⟩) nl nl], .int .i64 z, .nilIface])) ((((wo.setCell ⟨w.heap.size, 0, none⟩ a).setCell ⟨w.heap.size, 1, none⟩ b).setCell ⟨w.heap.size, 2, none⟩ c).setCell ⟨w.heap.size, 3, none⟩ e) := by
        intro a b c e z
        have ks : Kept (fun q => q = w.heap.size) wo ((((wo.setCell ⟨w.heap.size, 0, none⟩ a).setCell ⟨w.heap.size, 1, none⟩ b).setCell ⟨w.heap.size, 2, none⟩ c).setCell ⟨w.heap.size, 3, none⟩ e) :=
          (((kept_set wo w.heap.size _ _).trans (kept_set _ w.heap.size _ _) (fun _ _ h => h)).trans (kept_set _ w.heap.size _ _) (fun _ _ h => h)).trans (kept_set _ w.heap.size _ _) (fun _ _ h => h)
        obtain ⟨cur, h1, h2, h3⟩ := hir.row
        have hIlt : I < wo.heap.size := (Array.getElem?_eq_some_iff.1 h1).1
        have h1' := (ks.block I hIlt (by omega)).trans h1
        refine ⟨_, _, z, rfl, good_ax16.rows.sub (good_ax16.rows.kept hrows ks (fun q _ h => Or.inl (by omega))) (fun _ _ h => h.elim), ⟨I, by rw [HNL.out], Nat.lt_of_lt_of_le hIlt ks.size, fun h => h, fun k d hd => ?_⟩, ks.below hi.below (by have := hi.size; omega) (fun q hq h => by omega)⟩
        obtain ⟨wd, rg, dl, a1, a2, a3, a4, a5, a6⟩ := h3 k d (by have := (List.getElem?_eq_some_iff.1 hd).1; have := HNL.out; omega) hd
        refine ⟨wd, rg, dl, ?_, ?_, ?_, ?_, ?_, ivd_sub (ivd_kept a6 ks (fun q _ h => by omega)) (fun _ _ h => h.elim)⟩
        all_goals
          rw [cell_in h1']
          simp only [List.getElem?_toArray]
          assumption
      have HRES := Lib.hid hRES
      have hrow : ∀ a b c e, ((((wo.setCell ⟨w.heap.size, 0, none⟩ a).setCell ⟨w.heap.size, 1, none⟩ b).setCell ⟨w.heap.size, 2, none⟩ c).setCell ⟨w.heap.size, 3, none⟩ e).heap[w.heap.size]? = some (.cells #[a, b, c, e] 59 (0, 0)) := fun a b c e => by
        have h1 := set_row (j := 0) (x := a) hi.row0
        have h2 := set_row (j := 1) (x := b) h1
        have h3 := set_row (j := 2) (x := c) h2
        have h4 := set_row (j := 3) (x := e) h3
        simpa [z4] using h4
      have HROW := Lib.hid hrow
      clear hgk hi hrows hir hRES hrow hin2
      go_wp2
      (try simp only [Exit.inBlock, Exit.then])
      refine bodyPost_ret (results_3 rfl _ _ _ ⟨w.heap.size, 0, none⟩ _ rfl (run_loadVar_row _ _ _ 59 _ _ _ (HROW.out _ _ _ _) Try.underlying59 rfl (by kernel_rfl))) rfl ?_
      exact HRES.out _ _ _ _ _
end Go.Proofs.Ytdknpamegphjlaa.Sd
