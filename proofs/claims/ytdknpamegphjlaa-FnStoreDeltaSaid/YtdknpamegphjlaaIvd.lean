/- A list parsed, walked. -/
import Derived.Test.YtdknpamegphjlaaDelt
namespace Go.Proofs.Ytdknpamegphjlaa.Sd
open Go Go.RowKit

def U16R (S : Nat → Prop) (w : World) (v : Value) (l : List Int) : Prop := ∃ G, v = .slice (some ⟨G, 0, none⟩) l.length l.length ∧ G < w.heap.size ∧ ¬ S G ∧ ∀ j x, l[j]? = some x → w.cell? ⟨G, j, none⟩ = some (.int .u16 x)
theorem good_u16 : Good U16R where
  kept := fun ⟨G, h1, h2, h3, h4⟩ k hs => ⟨G, h1, Nat.lt_of_lt_of_le h2 k.size, h3, fun j x hx => (World.cell?_of_block (k.block G h2 (fun h => h3 (hs G h2 h)))).trans (h4 j x hx)⟩
  sub := fun ⟨G, h1, h2, h3, h4⟩ hs => ⟨G, h1, h2, fun h => h3 (hs G h2 h), h4⟩
/-- A block of numbers of 16 bits without sign, of which the first j stand. -/
structure BlkU (V n j : Nat) (l : List Int) (W : World) : Prop where
  row : ∃ cur : List Value, W.heap[V]? = some (.cells cur.toArray 53 (0, 0)) ∧ cur.length = n ∧ (∀ u ∈ cur, ∃ x, u = .int .u16 x) ∧ ∀ (k : Nat) (x : Int), k < j → l[k]? = some x → cur[k]? = some (.int .u16 x)
theorem BlkU.cell {V n j k : Nat} {l : List Int} {W : World} (h : BlkU V n j l W) (hk : k < n) : (∃ x, W.cell? ⟨V, k, none⟩ = some (.int .u16 x)) ∧ W.frozen? ⟨V, k, none⟩ = false := by
  obtain ⟨cur, h1, h2, h3, h4⟩ := h.row
  refine ⟨?_, frozen_in h1⟩
  obtain ⟨x, hx⟩ := h3 (cur[k]'(by omega)) (List.getElem_mem _)
  exact ⟨x, by rw [cell_in h1]; simp only [List.getElem?_toArray]; rw [List.getElem?_eq_getElem (by omega), hx]⟩
theorem BlkU.kept {S : Nat → Prop} {V n j : Nat} {l : List Int} {W W' : World} (h : BlkU V n j l W) (k : Kept S W W') (hS : ¬ S V) : BlkU V n j l W' := by
  obtain ⟨cur, h1, h2, h3, h4⟩ := h.row
  exact ⟨cur, (k.block V (Array.getElem?_eq_some_iff.1 h1).1 hS).trans h1, h2, h3, h4⟩
theorem BlkU.set {V n j : Nat} {l : List Int} {W : World} {x : Int} (h : BlkU V n j l W) (hx : l[j]? = some x) (hj : j < n) : BlkU V n (j + 1) l (W.setCell ⟨V, j, none⟩ (.int .u16 x)) := by
  obtain ⟨cur, h1, h2, h3, h4⟩ := h.row
  refine ⟨cur.set j (.int .u16 x), ?_, by simpa using h2, fun u hu => ?_, fun k y hk hy => ?_⟩
  · rw [set_row h1]; simp
  · rcases List.mem_or_eq_of_mem_set hu with h | h
    · exact h3 u h
    · exact ⟨x, h⟩
  · by_cases e : k = j
    · subst e
      rw [hx] at hy
      rw [List.getElem?_set_self (by omega), Option.some.inj hy]
    · rw [List.getElem?_set_ne (by omega)]
      exact h4 k y (by omega) hy

/-- A list as parsed. -/
def IvdR (S : Nat → Prop) (w : World) (rg dl : Value) (d : Dl) : Prop := U16R S w rg d.regs ∧ Rows' I16R S w dl d.items

def IvdP (d : Dl) (w : World) (e : Ending) (w' : World) : Prop :=
  ∃ (wd : Nat) (rg dl : Value) (q : Int), e = .returned (.tuple #[.agg #[.int .u16 (d.items.length : Nat), .int .u16 (wd : Nat), .int .u16 (d.regs.length : Nat), rg, dl], .int .i64 q, .nilIface]) ∧ IvdR (fun q => q < w.heap.size) w' rg dl d ∧ Below w.heap.size w w'

theorem rws_rows {D m : Nat} {items : List (List Int)} {W : World} {S : Nat → Prop} (h : Rws D m m items W) (hm : items.length = m) (hmc : m ≤ 5) (hS : ∀ q, S q → q < D) : Rows' I16R S W (.slice (some ⟨D, 0, none⟩) m m) items := by
  obtain ⟨cur, h1, h2, h3, h4⟩ := h.row
  refine ⟨cur, by omega, ?_, fun i u x hu hx => good_i16.sub (h4 i u x (by have := (List.getElem?_eq_some_iff.1 hx).1; omega) hu hx) (fun q _ hq => Nat.le_of_lt (hS q hq))⟩
  rw [hm]
  refine ⟨_, m, rfl, Nat.le_refl _, by omega, fun h0 => List.eq_nil_of_length_eq_zero (by omega), fun _ => ⟨D, rfl, (Array.getElem?_eq_some_iff.1 h1).1, fun h => by have := hS D h; omega, fun j x hx => ?_⟩⟩
  rw [cell_in h1]
  simpa using hx

theorem info53 : (Try.prog.info? 53).map (fun i => (i.zero, i.size, i.bytes)) = some (some (.int .u16 0), 1, 2) := by kernel_rfl

def none5 : List Value := [.int .u16 0, .int .u16 0, .int .u16 0, .slice none 0 0, .slice none 0 0]

set_option maxRecDepth 1000000 in
set_option maxHeartbeats 4000000 in
theorem ivd_any (g off N cap m rn wd : Nat) (d : Dl) (w : World) (hm : d.items.length = m) (hrn : d.regs.length = rn) (hm5 : m ≤ 5) (hm0 : 0 < m) (hrn5 : rn ≤ 5) (hregs : ∀ k ∈ d.regs, 0 ≤ k ∧ k < 6) (hrow : ∀ r ∈ d.items, r.length = rn ∧ ∀ x ∈ r, -32768 ≤ x ∧ x ≤ 32767) (hfit : Fits d wd)
    (hN : (dataBytes (d, wd)).length ≤ N) (hcap : N ≤ cap) (hcm : cap ≤ 9223372036854775807) (hg : g < w.heap.size) (hr : Reads w g off (dataBytes (d, wd))) :
    Calls Try.prog 22 #[.slice (some ⟨g, off, none⟩) N cap] w (IvdP d w) := by
  have HM := Lib.hid hm
  have HRN := Lib.hid hrn
  have HREGS := Lib.hid hregs
  have HROW := Lib.hid hrow
  have HFIT := Lib.hid hfit
  have hwd : wd ≤ rn := by have := hfit.1; omega
  obtain ⟨rl, hrl⟩ : ∃ rl, rl = wd + rn := ⟨_, rfl⟩
  have hlen : (dataBytes (d, wd)).length = 6 + 2 * rn + m * rl := by
    unfold dataBytes
    rw [List.length_append, dataHead_len, hrn]
    have h1 : ∀ (l : List (List Int)), (∀ r ∈ l, r.length = rn) → (l.flatMap (rowBytes wd)).length = l.length * rl := fun l => by
      induction l with
      | nil => intro _; simp
      | cons r l ih =>
        intro h
        rw [List.flatMap_cons, List.length_append, ih (fun y hy => h y (by simp [hy])), rowBytes_len2 wd r (by rw [h r (by simp)]; exact hwd), h r (by simp), List.length_cons, Nat.succ_mul]
        omega
    rw [h1 _ (fun r h => (hrow r h).1), hm]
  rw [hlen] at hN
  unfold dataBytes at hr
  have hr1 : Reads w g off (shorts ([(m : Int), (wd : Int), (rn : Int)] ++ d.regs)) := by
    have h := hr.left
    unfold dataHead at h
    rw [hm, hrn] at h
    exact h
  have hr2 : Reads w g (off + (6 + 2 * rn)) (d.items.flatMap (rowBytes wd)) := by
    have h := hr.right
    rw [dataHead_len, hrn] at h
    exact h
  have HR1 := Lib.hid hr1
  have HR2 := Lib.hid hr2
  have HRL := Lib.hid hrl
  have HN := Lib.hid hN
  have hN6 : 6 + 2 * rn ≤ N := by omega
  obtain ⟨r2, hr2'⟩ : ∃ r2, r2 = 2 * rn := ⟨_, rfl⟩
  obtain ⟨r8, hr8⟩ : ∃ r8, r8 = 6 + r2 := ⟨_, rfl⟩
  have kr2 : 2 * (rn : Int) = r2 := by omega
  have kr2' : (rn : Int) * 2 = r2 := by omega
  have kr2w : IntKind.i64.wrap (r2 : Int) = r2 := IntWalk.i64_in _ (by omega)
  have kr8 : 6 + (r2 : Int) = r8 := by omega
  have kr8w : IntKind.i64.wrap (r8 : Int) = r8 := IntWalk.i64_in _ (by omega)
  have krn : IntKind.i64.wrap (rn : Int) = rn := IntWalk.i64_in _ (by omega)
  have HR8 := Lib.hid (And.intro hr2' hr8)
  have hl1 : decide (N < r8) = false := decide_eq_false (by omega)
  have hl2 : decide ((N : Int) < 6) = false := decide_eq_false (by omega)
  have h5 : (5 : Int) < N := by omega
  have c5 : w.cell? ⟨g, off + 5, none⟩ = some (.int .u8 (((rn : Int) % 256).toNat : Nat)) := (hr1.two (j := 2) rfl).2
  have HS := Lib.hid (Item.start 85 none5 w)
  have q0 : (0 : Int) ≤ N := by omega
  have q2 : (2 : Int) ≤ N := by omega
  have q4 : (4 : Int) ≤ N := by omega
  have z2 : ¬ cap = 2 := by omega
  have z4 : ¬ cap = 4 := by omega
  clear hm hrn hregs hrow hfit hlen hr hr1 hr2 hrl hN hr2' hr8
  go_enter Try.func22, Try.ntmps22
  go_upto_region 7 with fail
  go_cut [] (fun W => Item 85 none5 w W ([.int .u16 (m : Nat), .int .u16 0, .int .u16 0, .slice none 0 0, .slice none 0 0]))
  case first =>
    obtain ⟨W0, hW0⟩ : ∃ W0, W0 = (w.alloc (.cells none5.toArray 85)).alloc (.cells none5.toArray 85) := ⟨_, rfl⟩
    have HS1 := HS
    rw [← hW0] at HS1
    obtain ⟨u0, uf, us⟩ := HS1.out.cell (i := 0) (v := .int .u16 0) rfl
    have k := HR1.out.two (j := 0) (x := (m : Int)) rfl
    have k0 : W0.cell? ⟨g, off, none⟩ = some (.int .u8 (((m : Int) / 256 % 256).toNat : Nat)) := by rw [← k.1]; exact HS1.out.below.cell hg
    have k1 : W0.cell? ⟨g, off + 1, none⟩ = some (.int .u8 (((m : Int) % 256).toNat : Nat)) := by rw [← k.2]; exact HS1.out.below.cell hg
    have hC := Lib.hid (half_any g off N cap _ _ W0.drew (by omega) (by omega) (by omega) k0 k1)
    rw [half_val m (by omega)] at hC
    change Code.wp _ _ _ _ ((w.alloc (.cells none5.toArray 85)).alloc (.cells none5.toArray 85))
    rw [← hW0]
    clear c5 hW0 k k0 k1
    go_region_with (go_at_call 19; refine hC.out.mono ?_; rintro e w1 ⟨rfl, hb1⟩; have z0 := (hb1.cell (p := ⟨w.heap.size + 1, 0, none⟩) us).trans u0; have z1 := (hb1.frozen (p := ⟨w.heap.size + 1, 0, none⟩) us).trans uf)
    all_goals
      go_wp2_with fail
      go_meet
    all_goals exact (HS1.out.later ((Below.refl _ _).drew.trans hb1)).set 0 _
  case rest =>
  have HI1 := Lib.hid hcut
  obtain ⟨W1, rfl⟩ : ∃ W : World, W = wc := ⟨_, rfl⟩
  clear hcut
  go_upto_region 8 with fail
  go_cut [] (fun W => Item 85 none5 w W ([.int .u16 (m : Nat), .int .u16 (wd : Nat), .int .u16 0, .slice none 0 0, .slice none 0 0]))
  case first =>
    obtain ⟨u0, uf, us⟩ := HI1.out.cell (i := 1) (v := .int .u16 0) rfl
    have k := HR1.out.two (j := 1) (x := (wd : Int)) rfl
    have k0 : W1.cell? ⟨g, off + 2, none⟩ = some (.int .u8 (((wd : Int) / 256 % 256).toNat : Nat)) := by rw [← k.1]; exact HI1.out.below.cell hg
    have k1 : W1.cell? ⟨g, off + 2 + 1, none⟩ = some (.int .u8 (((wd : Int) % 256).toNat : Nat)) := by rw [← k.2]; exact HI1.out.below.cell hg
    have hC := Lib.hid (half_any g (off + 2) (N - 2) (cap - 2) _ _ W1.drew (by omega) (by omega) (by omega) k0 k1)
    rw [half_val wd (by omega)] at hC
    clear c5 k k0 k1
    go_region_with (go_at_call 19; refine hC.out.mono ?_; rintro e w1 ⟨rfl, hb1⟩; have z0 := (hb1.cell (p := ⟨w.heap.size + 1, 1, none⟩) us).trans u0; have z1 := (hb1.frozen (p := ⟨w.heap.size + 1, 1, none⟩) us).trans uf)
    all_goals
      go_wp2_with fail
      go_meet
    all_goals exact (HI1.out.later ((Below.refl _ _).drew.trans hb1)).set 1 _
  case rest =>
  have HI2 := Lib.hid hcut
  obtain ⟨W2, rfl⟩ : ∃ W : World, W = wc := ⟨_, rfl⟩
  clear hcut
  go_upto_region 9 with fail
  go_cut [] (fun W => Item 85 none5 w W ([.int .u16 (m : Nat), .int .u16 (wd : Nat), .int .u16 (rn : Nat), .slice none 0 0, .slice none 0 0]))
  case first =>
    obtain ⟨u0, uf, us⟩ := HI2.out.cell (i := 2) (v := .int .u16 0) rfl
    have k := HR1.out.two (j := 2) (x := (rn : Int)) rfl
    have k0 : W2.cell? ⟨g, off + 4, none⟩ = some (.int .u8 (((rn : Int) / 256 % 256).toNat : Nat)) := by rw [← k.1]; exact HI2.out.below.cell hg
    have k1 : W2.cell? ⟨g, off + 4 + 1, none⟩ = some (.int .u8 (((rn : Int) % 256).toNat : Nat)) := by rw [← k.2]; exact HI2.out.below.cell hg
    have hC := Lib.hid (half_any g (off + 4) (N - 4) (cap - 4) _ _ W2.drew (by omega) (by omega) (by omega) k0 k1)
    rw [half_val rn (by omega)] at hC
    clear c5 k k0 k1
    go_region_with (go_at_call 19; refine hC.out.mono ?_; rintro e w1 ⟨rfl, hb1⟩; have z0 := (hb1.cell (p := ⟨w.heap.size + 1, 2, none⟩) us).trans u0; have z1 := (hb1.frozen (p := ⟨w.heap.size + 1, 2, none⟩) us).trans uf)
    all_goals
      go_wp2_with fail
      go_meet
    all_goals exact (HI2.out.later ((Below.refl _ _).drew.trans hb1)).set 2 _
  case rest =>
  have HI3 := Lib.hid hcut
  obtain ⟨W3, rfl⟩ : ∃ W : World, W = wc := ⟨_, rfl⟩
  clear hcut c5
  obtain ⟨m2, _, _⟩ := HI3.out.cell (i := 2) (v := .int .u16 (rn : Nat)) rfl
  obtain ⟨m3, mf, us⟩ := HI3.out.cell (i := 3) (v := .slice none 0 0) rfl
  have hmk : ∀ u : World, (Instr.makeSlice 83 (.int .i64 rn) (.int .i64 rn)).run Try.prog u = .ok (.slice (some ⟨u.heap.size, 0, none⟩) rn rn) (u.alloc (.cells (madeCells #[.int .u16 0] rn) 53)) := fun u => by
    obtain ⟨i0, hi, hz0, hz1, hz2⟩ := info_parts info53
    have := run_make u (P := Try.prog) 83 53 i0 _ Try.underlying83 hi hz0 .i64 .i64 rn rn (by omega) (Int.le_refl _) (by rw [hz2]; omega) (by omega)
    simpa [hz1, Value.cells] using this
  go_upto_region 16 with fail
  go_cut [53, 54, 55, 56] (fun _ _ nv iv W => nv = .int .i64 rn ∧ iv = .int .i64 0 ∧ ∃ G : Nat, w.heap.size + 2 ≤ G ∧ Item 85 none5 w W ([.int .u16 (m : Nat), .int .u16 (wd : Nat), .int .u16 (rn : Nat), .slice (some ⟨G, 0, none⟩) rn rn, .slice none 0 0]) ∧ BlkU G rn 0 d.regs W)
  case first =>
    have hR := (HI3.out.set 3 (.slice (some ⟨W3.heap.size, 0, none⟩) rn rn)).later ((Below.refl _ _).alloc (Nat.le_refl _) (.cells (madeCells #[.int .u16 0] rn) 53))
    have hsz := HI3.out.size
    have hB : BlkU W3.heap.size rn 0 d.regs ((W3.setCell ⟨w.heap.size + 1, 3, none⟩ (.slice (some ⟨W3.heap.size, 0, none⟩) rn rn)).alloc (.cells (madeCells #[.int .u16 0] rn) 53)) := by
      refine ⟨(madeCells #[.int .u16 0] rn).toList, ?_, by simpa using size_madeCells _ _, fun u hu => ⟨0, made_one _ _ u hu⟩, fun k x hk => absurd hk (by omega)⟩
      have := heap_alloc_new (W3.setCell ⟨w.heap.size + 1, 3, none⟩ (.slice (some ⟨W3.heap.size, 0, none⟩) rn rn)) (.cells (madeCells #[.int .u16 0] rn) 53)
      rw [World.size_setCell] at this
      simpa using this
    have HRR := Lib.hid (And.intro hR hB)
    clear hR hB
    go_wp2_with fail
    go_meet
    exact ⟨rfl, rfl, W3.heap.size, hsz, HRR.out.1, HRR.out.2⟩
  case rest =>
  obtain ⟨rfl, rfl, G, hG, hi5, hr5⟩ := hcut
  have HI5 := Lib.hid hi5
  have HR5 := Lib.hid hr5
  obtain ⟨W5, rfl⟩ : ∃ W : World, W = wc := ⟨_, rfl⟩
  have hGg : G ≠ g := by omega
  clear m2 m3 mf us hmk hi5 hr5 hl1 hl2
  go_wp2_with fail
  go_loopg [56] (rn) (fun gk iv W => ∃ k : Nat, gk = rn - k ∧ k ≤ rn ∧ iv = .int .i64 k ∧ Item 85 none5 w W ([.int .u16 (m : Nat), .int .u16 (wd : Nat), .int .u16 (rn : Nat), .slice (some ⟨G, 0, none⟩) rn rn, .slice none 0 0]) ∧ BlkU G rn k d.regs W)
  case atStart => exact ⟨0, rfl, Nat.zero_le _, rfl, HI5.out, HR5.out⟩
  case round =>
    obtain ⟨k, hgk, hk, rfl, hi, hbk⟩ := hrel
    have HK := Lib.hid hgk
    have HI := Lib.hid hi
    have HBK := Lib.hid hbk
    clear hgk
    obtain ⟨m3, _, us⟩ := hi.cell (i := 3) (v := .slice (some ⟨G, 0, none⟩) rn rn) rfl
    by_cases hlt : k < rn
    · obtain ⟨x, hx⟩ : ∃ x, d.regs[k]? = some x := ⟨_, List.getElem?_eq_getElem (by have := HRN.out; omega)⟩
      have hxb := HREGS.out x (List.mem_of_getElem? hx)
      obtain ⟨⟨x0, c0⟩, f0⟩ := hbk.cell (k := k) hlt
      have hGs : G < wr.heap.size := World.block_lt_of_cell? wr _ c0
      obtain ⟨k2, hk2⟩ : ∃ k2, k2 = 2 * k := ⟨_, rfl⟩
      obtain ⟨p, hp⟩ : ∃ p, p = 6 + k2 := ⟨_, rfl⟩
      have hrd := HR1.out.two (j := 3 + k) (x := x) (by
        rw [List.getElem?_append_right (by simp)]
        simpa using hx)
      rw [show off + 2 * (3 + k) = off + p by omega] at hrd
      have k0 := below_cell hi.below hrd.1
      have k1 := below_cell hi.below hrd.2
      obtain ⟨pv, hpv⟩ : ∃ pv, pv = (x / 256 % 256).toNat * 256 + (x % 256).toNat := ⟨_, rfl⟩
      have hpx : ((pv : Nat) : Int) = x := by omega
      have h8 := HR8.out
      have hC := Lib.hid (half_any g (off + p) (N - p) (cap - p) _ _ wr.drew (by omega) (by omega) (by omega) k0 k1)
      rw [← hpv] at hC
      have kk2 : 2 * (k : Int) = k2 := by omega
      have kk2' : (k : Int) * 2 = k2 := by omega
      have kk2w : IntKind.i64.wrap (k2 : Int) = k2 := IntWalk.i64_in _ (by omega)
      have kp : 6 + (k2 : Int) = p := by omega
      have kpw : IntKind.i64.wrap (p : Int) = p := IntWalk.i64_in _ (by omega)
      have kp3 : (p : Int) ≤ N := by omega
      have kp4 : ¬ cap = p := by omega
      have kp5 : p ≤ N := by omega
      have kp6 : (k : Int) < rn := by omega
      have HX := Lib.hid (And.intro hx hpx)
      clear hi hbk hx hxb hk2 hp hrd k0 k1 hpv hpx h8
      go_upto_region 19 with fail
      go_region_with (go_at_call 19; refine hC.out.mono ?_; rintro e w1 ⟨rfl, hb1⟩; have z0 := (hb1.cell (p := ⟨G, k, none⟩) hGs).trans c0; have z1 := (hb1.frozen (p := ⟨G, k, none⟩) hGs).trans f0; have y3 := (hb1.cell (p := ⟨w.heap.size + 1, 3, none⟩) us).trans m3)
      all_goals
        have hbb := ((Below.refl _ wr).drew.trans hb1)
        have hB3 := (HBK.out.kept (kept_of_below hbb) (fun h => h)).set HX.out.1 (by omega)
        rw [← HX.out.2] at hB3
        have hI3 : Item 85 none5 w (w1.setCell ⟨G, k, none⟩ (.int .u16 (pv : Nat))) ([.int .u16 (m : Nat), .int .u16 (wd : Nat), .int .u16 (rn : Nat), .slice (some ⟨G, 0, none⟩) rn rn, .slice none 0 0]) := by
          have h1 := HI.out.later hbb
          have h2 := h1.size
          exact ⟨by rw [Below.heap_setCell _ _ _ _ (by show w.heap.size ≠ G; omega)]; exact h1.row0, by rw [Below.heap_setCell _ _ _ _ (by show w.heap.size + 1 ≠ G; omega)]; exact h1.row, by rw [World.size_setCell]; exact h2, h1.below.setCell (by show w.heap.size ≤ G; omega) _⟩
        have HN := Lib.hid (And.intro hI3 hB3)
        clear hB3 hI3 z0 z1 y3 hb1 hbb
        go_wp2_with fail
        go_roundg (rn - (k + 1))
        case measure => have := HK.out; omega
        case rel => exact ⟨k + 1, rfl, by omega, by go_num, HN.out.1, HN.out.2⟩
    · have hkn : k = rn := by omega
      rw [hkn] at hbk
      have kk : ¬ (k : Int) < rn := by omega
      have h8 := HR8.out
      -- the numbers as read
      have hu : U16R (fun q => q < w.heap.size + 2) wr (.slice (some ⟨G, 0, none⟩) rn rn) d.regs := by
        obtain ⟨cur, h1, h2, h3, h4⟩ := hbk.row
        refine ⟨G, by rw [HRN.out], (Array.getElem?_eq_some_iff.1 h1).1, by omega, fun j x hx => ?_⟩
        rw [cell_in h1]
        have hj := (List.getElem?_eq_some_iff.1 hx).1
        simpa using h4 j x (by have := HRN.out; omega) hx
      have HU := Lib.hid hu
      obtain ⟨p, hp⟩ : ∃ p, p = r8 := ⟨_, rfl⟩
      have hrow : wr.heap[w.heap.size + 1]? = some (.cells (ivd m wd rn (.slice (some ⟨G, 0, none⟩) rn rn) (.slice none 0 0)).toArray 85 (0, 0)) := hi.row
      have hlen2 : m * (wd + rn) ≤ N - r8 := by
        have h1 := HN.out
        rw [HRL.out] at h1
        omega
      obtain ⟨o1, ho1⟩ : ∃ o1, o1 = if cap = r8 then off else off + r8 := ⟨_, rfl⟩
      have hrd : Reads wr g o1 (d.items.flatMap (rowBytes wd)) := by
        by_cases hce : cap = r8
        · have hz : wd + rn = 0 := by
            by_cases hz : wd + rn = 0
            · exact hz
            · have h1 : 1 * 1 ≤ m * (wd + rn) := Nat.mul_le_mul (by omega) (by omega)
              omega
          have hnil : d.items.flatMap (rowBytes wd) = [] := by
            rw [List.flatMap_eq_nil_iff]
            intro r hr'
            refine List.eq_nil_of_length_eq_zero ?_
            rw [rowBytes_len2 wd r (by rw [(HROW.out r hr').1]; exact hwd), (HROW.out r hr').1]
            exact hz
          rw [hnil]
          intro j x hj
          simp at hj
        · rw [ho1, if_neg hce]
          have h1 := HR2.out
          rw [show off + (6 + 2 * rn) = off + r8 by omega] at h1
          exact h1.below (by
            have h2 := hi.below
            exact h2)
      have hsz := hi.size
      have hD := Lib.hid (delt_any (w.heap.size + 1) g o1 (N - r8) (cap - r8) m wd rn (.slice (some ⟨G, 0, none⟩) rn rn) d.items wr HM.out hm5 hm0 hrn5 hwd HROW.out HFIT.out.2 hlen2 (by omega) (by omega) (by have := hi.below.size; omega) (by omega) hrow hrd)
      unfold DeltP at hD
      have kr3 : (r8 : Int) ≤ N := by omega
      have kr4 : r8 ≤ N := by omega
      have HO1 := Lib.hid ho1
      have hr0 := hi.row0
      have HIB := Lib.hid (And.intro hi.row0 (And.intro hi.below hi.size))
      clear hi hbk hkn h8 hu hp hrow hlen2 hrd ho1 m3
      have hfin : ∀ (w2 : World) (D : Nat), wr.heap.size ≤ D → w2.heap[w.heap.size + 1]? = some (.cells (ivd m wd rn (.slice (some ⟨G, 0, none⟩) rn rn) (.slice (some ⟨D, 0, none⟩) m m)).toArray 85 (0, 0)) → Rws D m m d.items w2 → Kept (fun k => k = w.heap.size + 1) wr w2 →
          (w2.heap[w.heap.size]? = some (.cells none5.toArray 85 (0, 0))) ∧ ∀ (a b c p q : Value) (z : Int), IvdP d w (.returned (.tuple #[.agg #[.int .u16 (m : Nat), .int .u16 (wd : Nat), .int .u16 (rn : Nat), .slice (some ⟨G, 0, none⟩) rn rn, .slice (some ⟨D, 0, none⟩) m m], .int .i64 z, .nilIface]))
            (((((w2.setCell ⟨w.heap.size, 0, none⟩ a).setCell ⟨w.heap.size, 1, none⟩ b).setCell ⟨w.heap.size, 2, none⟩ c).setCell ⟨w.heap.size, 3, none⟩ p).setCell ⟨w.heap.size, 4, none⟩ q) := by
        intro w2 D hDD hT2 hrws hk2
        obtain ⟨g0, g1, g2⟩ := HIB.out
        refine ⟨(hk2.block _ (by omega) (by omega)).trans g0, fun a b c p q z => ?_⟩
        have u1 := good_u16.kept HU.out hk2 (fun q _ e => by omega)
        have u2 := rws_rows (S := fun q => q < w.heap.size + 2) hrws HM.out hm5 (fun q hq => by omega)
        have ks : Kept (fun k => k = w.heap.size) w2 (((((w2.setCell ⟨w.heap.size, 0, none⟩ a).setCell ⟨w.heap.size, 1, none⟩ b).setCell ⟨w.heap.size, 2, none⟩ c).setCell ⟨w.heap.size, 3, none⟩ p).setCell ⟨w.heap.size, 4, none⟩ q) :=
          ((((kept_set w2 w.heap.size 0 a).trans (kept_set _ w.heap.size 1 b) (fun _ _ h => h)).trans (kept_set _ w.heap.size 2 c) (fun _ _ h => h)).trans (kept_set _ w.heap.size 3 p) (fun _ _ h => h)).trans (kept_set _ w.heap.size 4 q) (fun _ _ h => h)
        refine ⟨wd, _, _, z, by rw [HM.out, HRN.out], ⟨good_u16.sub (good_u16.kept u1 ks (fun q _ e => by omega)) (fun q _ h => by omega), good_i16.rows.sub (good_i16.rows.kept u2 ks (fun q _ e => by omega)) (fun q _ h => by omega)⟩, ?_⟩
        exact ((hk2.sub (S1 := fun k => k = w.heap.size + 1 ∨ k = w.heap.size) (fun q _ e => Or.inl e)).trans ks (fun q _ h => Or.inr h)).below g1 (by omega) (fun q hq h => by omega)
      have HFIN := Lib.hid hfin
      have hrow5 : ∀ (w2 : World) (a b c p q : Value), w2.heap[w.heap.size]? = some (.cells none5.toArray 85 (0, 0)) → (((((w2.setCell ⟨w.heap.size, 0, none⟩ a).setCell ⟨w.heap.size, 1, none⟩ b).setCell ⟨w.heap.size, 2, none⟩ c).setCell ⟨w.heap.size, 3, none⟩ p).setCell ⟨w.heap.size, 4, none⟩ q).heap[w.heap.size]? = some (.cells #[a, b, c, p, q] 85 (0, 0)) := fun w2 a b c p q h0 => by
        have h1 := set_row (j := 0) (x := a) h0
        have h2 := set_row (j := 1) (x := b) h1
        have h3 := set_row (j := 2) (x := c) h2
        have h4 := set_row (j := 3) (x := p) h3
        have h5 := set_row (j := 4) (x := q) h4
        simpa [none5] using h5
      have HROW5 := Lib.hid hrow5
      clear hfin hrow5 hr0
      by_cases hce : cap = r8
      · have e1 := HO1.out
        rw [if_pos hce] at e1
        rw [e1, show N - r8 = 0 by omega, show cap - r8 = 0 by omega] at hD
        have hNc : N = r8 := by omega
        clear e1 HO1
        subst hNc
        subst hce
        go_wp2_with fail
        refine hD.out.mono ?_
        rintro e w2 ⟨rfl, D, hDD, hT2, hrws, hk2⟩
        have hF := HFIN.out w2 D hDD hT2 hrws hk2
        have hr0 := hF.1
        have HF := Lib.hid hF.2
        have HR0 := Lib.hid hF.1
        have e0 : w2.cell? ⟨w.heap.size + 1, 0, none⟩ = some (.int .u16 (m : Nat)) := by rw [cell_in hT2]; rfl
        have e1 : w2.cell? ⟨w.heap.size + 1, 1, none⟩ = some (.int .u16 (wd : Nat)) := by rw [cell_in hT2]; rfl
        have e2 : w2.cell? ⟨w.heap.size + 1, 2, none⟩ = some (.int .u16 (rn : Nat)) := by rw [cell_in hT2]; rfl
        have e3 : w2.cell? ⟨w.heap.size + 1, 3, none⟩ = some (.slice (some ⟨G, 0, none⟩) rn rn) := by rw [cell_in hT2]; rfl
        have e4 : w2.cell? ⟨w.heap.size + 1, 4, none⟩ = some (.slice (some ⟨D, 0, none⟩) m m) := by rw [cell_in hT2]; rfl
        have r0 : w2.cell? ⟨w.heap.size, 0, none⟩ = some (.int .u16 0) := by rw [cell_in hr0]; rfl
        have r1 : w2.cell? ⟨w.heap.size, 1, none⟩ = some (.int .u16 0) := by rw [cell_in hr0]; rfl
        have r2 : w2.cell? ⟨w.heap.size, 2, none⟩ = some (.int .u16 0) := by rw [cell_in hr0]; rfl
        have r3 : w2.cell? ⟨w.heap.size, 3, none⟩ = some (.slice none 0 0) := by rw [cell_in hr0]; rfl
        have r4 : w2.cell? ⟨w.heap.size, 4, none⟩ = some (.slice none 0 0) := by rw [cell_in hr0]; rfl
        have t0 : w2.frozen? ⟨w.heap.size, 0, none⟩ = false := frozen_in hr0
        have t1 : w2.frozen? ⟨w.heap.size, 1, none⟩ = false := frozen_in hr0
        have t2 : w2.frozen? ⟨w.heap.size, 2, none⟩ = false := frozen_in hr0
        have t3 : w2.frozen? ⟨w.heap.size, 3, none⟩ = false := frozen_in hr0
        have t4 : w2.frozen? ⟨w.heap.size, 4, none⟩ = false := frozen_in hr0
        clear hF hr0 hT2 hrws hk2
        go_wp2
        (try simp only [Exit.inBlock, Exit.then])
        refine bodyPost_ret (results_3 rfl _ _ _ ⟨w.heap.size, 0, none⟩ _ rfl (run_loadVar_row _ _ _ 85 _ _ _ (HROW5.out w2 _ _ _ _ _ HR0.out) Try.underlying85 rfl (by kernel_rfl))) rfl ?_
        exact HF.out _ _ _ _ _ _
      · have e1 := HO1.out
        rw [if_neg hce] at e1
        rw [e1] at hD
        clear e1 HO1
        go_wp2_with fail
        refine hD.out.mono ?_
        rintro e w2 ⟨rfl, D, hDD, hT2, hrws, hk2⟩
        have hF := HFIN.out w2 D hDD hT2 hrws hk2
        have hr0 := hF.1
        have HF := Lib.hid hF.2
        have HR0 := Lib.hid hF.1
        have e0 : w2.cell? ⟨w.heap.size + 1, 0, none⟩ = some (.int .u16 (m : Nat)) := by rw [cell_in hT2]; rfl
        have e1 : w2.cell? ⟨w.heap.size + 1, 1, none⟩ = some (.int .u16 (wd : Nat)) := by rw [cell_in hT2]; rfl
        have e2 : w2.cell? ⟨w.heap.size + 1, 2, none⟩ = some (.int .u16 (rn : Nat)) := by rw [cell_in hT2]; rfl
        have e3 : w2.cell? ⟨w.heap.size + 1, 3, none⟩ = some (.slice (some ⟨G, 0, none⟩) rn rn) := by rw [cell_in hT2]; rfl
        have e4 : w2.cell? ⟨w.heap.size + 1, 4, none⟩ = some (.slice (some ⟨D, 0, none⟩) m m) := by rw [cell_in hT2]; rfl
        have r0 : w2.cell? ⟨w.heap.size, 0, none⟩ = some (.int .u16 0) := by rw [cell_in hr0]; rfl
        have r1 : w2.cell? ⟨w.heap.size, 1, none⟩ = some (.int .u16 0) := by rw [cell_in hr0]; rfl
        have r2 : w2.cell? ⟨w.heap.size, 2, none⟩ = some (.int .u16 0) := by rw [cell_in hr0]; rfl
        have r3 : w2.cell? ⟨w.heap.size, 3, none⟩ = some (.slice none 0 0) := by rw [cell_in hr0]; rfl
        have r4 : w2.cell? ⟨w.heap.size, 4, none⟩ = some (.slice none 0 0) := by rw [cell_in hr0]; rfl
        have t0 : w2.frozen? ⟨w.heap.size, 0, none⟩ = false := frozen_in hr0
        have t1 : w2.frozen? ⟨w.heap.size, 1, none⟩ = false := frozen_in hr0
        have t2 : w2.frozen? ⟨w.heap.size, 2, none⟩ = false := frozen_in hr0
        have t3 : w2.frozen? ⟨w.heap.size, 3, none⟩ = false := frozen_in hr0
        have t4 : w2.frozen? ⟨w.heap.size, 4, none⟩ = false := frozen_in hr0
        clear hF hr0 hT2 hrws hk2
        go_wp2
        (try simp only [Exit.inBlock, Exit.then])
        refine bodyPost_ret (results_3 rfl _ _ _ ⟨w.heap.size, 0, none⟩ _ rfl (run_loadVar_row _ _ _ 85 _ _ _ (HROW5.out w2 _ _ _ _ _ HR0.out) Try.underlying85 rfl (by kernel_rfl))) rfl ?_
        exact HF.out _ _ _ _ _ _
end Go.Proofs.Ytdknpamegphjlaa.Sd
