/- A table of names parsed, walked. -/
import Derived.Test.YtdihfcmmnljchaaNmText
namespace Go.Proofs.Ytdihfcmmnljchaa.Nm
open Go Go.RowKit

def none4 : List Value := [.int .u16 0, .int .u16 0, .slice none 0 0, .slice none 0 0]
structure Item (w W : World) (c : List Value) : Prop where
  row0 : W.heap[w.heap.size]? = some (.cells none4.toArray 38 (0, 0))
  row : W.heap[w.heap.size + 1]? = some (.cells c.toArray 38 (0, 0))
  size : w.heap.size + 2 ≤ W.heap.size
  below : Below w.heap.size w W

theorem Item.start (w : World) : Item w ((w.alloc (.cells none4.toArray 38)).alloc (.cells none4.toArray 38)) none4 := by
  refine ⟨?_, ?_, ?_, ((Below.refl _ _).alloc (Nat.le_refl _) _).alloc (by simp) _⟩
  · rw [Below.heap_alloc _ _ _ (by simp)]; exact heap_alloc_new w _
  · have := heap_alloc_new (w.alloc (.cells none4.toArray 38)) (.cells none4.toArray 38)
    rwa [World.size_alloc] at this
  · simp
theorem Item.later {w W W1 : World} {c : List Value} (h : Item w W c) (hb : Below W.heap.size W W1) : Item w W1 c := by
  have hs := h.size
  exact ⟨(hb.block _ (by omega)).trans h.row0, (hb.block _ (by omega)).trans h.row, Nat.le_trans hs hb.size, h.below.trans (hb.mono (by omega))⟩
theorem Item.set {w W : World} {c : List Value} (h : Item w W c) (i : Nat) (v : Value) : Item w (W.setCell ⟨w.heap.size + 1, i, none⟩ v) (c.set i v) := by
  have hs := h.size
  refine ⟨?_, ?_, by rw [World.size_setCell]; exact hs, h.below.setCell (by show w.heap.size ≤ w.heap.size + 1; omega) _⟩
  · rw [Below.heap_setCell _ _ _ _ (by show w.heap.size ≠ w.heap.size + 1; omega)]; exact h.row0
  · rw [set_row h.row]; simp
theorem Item.cell {w W : World} {c : List Value} (h : Item w W c) {i : Nat} {v : Value} (hi : c[i]? = some v) : W.cell? ⟨w.heap.size + 1, i, none⟩ = some v ∧ W.frozen? ⟨w.heap.size + 1, i, none⟩ = false ∧ w.heap.size + 1 < W.heap.size := by
  refine ⟨by rw [cell_in h.row]; simpa using hi, by simp [World.frozen?, h.row], by have := h.size; omega⟩

theorem over_at (cur : List Value) (o : Nat) (v : Nat → Nat) (i : Nat) (hi : o + i ≤ cur.length) (j : Nat) : (over cur o v i)[j]? = if o ≤ j ∧ j < o + i then some (.int .u16 (v (j - o) : Nat)) else cur[j]? := by
  induction i with
  | zero => rw [if_neg (by omega)]; rfl
  | succ i ih =>
    unfold over
    by_cases e : j = o + i
    · subst e
      rw [List.getElem?_set_self (by rw [over_len]; omega), if_pos (by omega), Nat.add_sub_cancel_left]
    · rw [List.getElem?_set_ne (by omega), ih (by omega)]
      by_cases h : o ≤ j ∧ j < o + i
      · rw [if_pos h, if_pos (by omega)]
      · rw [if_neg h, if_neg (by omega)]

/-- The first numbers of the records parsed. -/
structure Rows (G n k : Nat) (flds : List Nat) (W : World) : Prop where
  row : ∃ cur : List Value, W.heap[G]? = some (.cells cur.toArray 67 (0, 0)) ∧ cur.length = n * 6 ∧ ∀ j x, j < k * 6 → flds[j]? = some x → cur[j]? = some (.int .u16 (x : Nat))

theorem shorts_at (fs data : List Nat) (j x : Nat) (hx : fs[j]? = some x) : (shorts fs ++ data)[2 * j]? = some (x / 256 % 256) ∧ (shorts fs ++ data)[2 * j + 1]? = some (x % 256) := by
  have h := two_at fs j x hx
  have hl : 2 * j + 1 < (shorts fs).length := (List.getElem?_eq_some_iff.1 h.2).1
  exact ⟨by rw [List.getElem?_append_left (by omega)]; exact h.1, by rw [List.getElem?_append_left hl]; exact h.2⟩

theorem results_3 {fn : Func} {t u v : Tmp} {ty : TypeId} (h : fn.results = #[.cell t ty, .tmp u, .tmp v]) (tmps : Array Value) (P : Program) (w : World) (ad : Addr) (x : Value) (ht : tmps.getD t undef = .pointer (some ad)) (hl : (loadVar ty ad).run P w = .ok x w) :
    (results fn tmps).run P w = .ok (.tuple #[x, tmps.getD u undef, tmps.getD v undef]) w := by
  have ht' : tmps[t]?.getD undef = .pointer (some ad) := by simpa using ht
  simp [results, h, ht', asAddr, hl]

def Parsed (g n cap : Nat) (flds data : List Nat) (w : World) (e : Ending) (w' : World) : Prop :=
  ∃ (A2 : Option Addr) (G : Nat) (i : Int), e = .returned (.tuple #[.agg #[.int .u16 0, .int .u16 (n : Nat), .slice A2 data.length (cap - (6 + 12 * n)), .slice (some ⟨G, 0, none⟩) n n], .int .i64 i, .nilIface]) ∧ G < w'.heap.size ∧ (∀ j x, flds[j]? = some x → w'.cell? ⟨G, j, none⟩ = some (.int .u16 (x : Nat))) ∧ (0 < data.length → A2 = some ⟨g, 6 + 12 * n, none⟩) ∧ Below w.heap.size w w'

theorem info67 : (Try.prog.info? 67).map (fun i => (i.zero, i.size, i.bytes)) = some (some (.agg #[.int .u16 0, .int .u16 0, .int .u16 0, .int .u16 0, .int .u16 0, .int .u16 0]), 6, 12) := by kernel_rfl

set_option maxRecDepth 1000000 in
set_option maxHeartbeats 4000000 in
theorem parse_any (g N cap n : Nat) (flds data : List Nat) (w : World) (hN : (shorts ([0, n, 6 + 12 * n] ++ flds) ++ data).length = N) (hfl : flds.length = n * 6) (h0 : 0 < n) (hn10 : n ≤ 10) (hN2 : N ≤ 60000) (hcap : N ≤ cap) (hcm : cap ≤ 9223372036854775807) (hg : g < w.heap.size) (hflt : ∀ x ∈ flds, x < 65536)
    (hc : ∀ j x, (shorts ([0, n, 6 + 12 * n] ++ flds) ++ data)[j]? = some x → w.cell? ⟨g, j, none⟩ = some (.int .u8 (x : Nat))) :
    Calls Try.prog 9 #[.slice (some ⟨g, 0, none⟩) N cap] w (Parsed g n cap flds data w) := by
  have hlen : N = 6 + 12 * n + data.length := by
    rw [← hN, List.length_append, shorts_len, List.length_append, hfl]
    simp
    omega
  have hat : ∀ j x, ([0, n, 6 + 12 * n] ++ flds)[j]? = some x → w.cell? ⟨g, 2 * j, none⟩ = some (.int .u8 (x / 256 % 256 : Nat)) ∧ w.cell? ⟨g, 2 * j + 1, none⟩ = some (.int .u8 (x % 256 : Nat)) := fun j x hx => by
    have := shorts_at ([0, n, 6 + 12 * n] ++ flds) data j x hx
    exact ⟨hc _ _ this.1, hc _ _ this.2⟩
  obtain ⟨o, ho⟩ : ∃ o, o = 6 + 12 * n := ⟨_, rfl⟩
  have hoN : o ≤ N := by omega
  have hdl : N - o = data.length := by omega
  have hn2 : (n : Int) ≤ 10 := by omega
  have hw12 : IntKind.i64.wrap ((n : Int) * 12) = (n : Int) * 12 := IntWalk.i64_in _ (by omega)
  have hw6 : IntKind.i64.wrap (6 + (n : Int) * 12) = 6 + (n : Int) * 12 := IntWalk.i64_in _ (by omega)
  have hl1 : decide ((N : Int) < 6 + (n : Int) * 12) = false := decide_eq_false (by omega)
  have hl2 : decide ((N : Int) < 6) = false := decide_eq_false (by omega)
  have hl3 : decide ((N : Int) < (o : Int)) = false := decide_eq_false (by omega)
  have h5 : (5 : Int) < N := by omega
  have c5 : ∃ v : Nat, w.cell? ⟨g, 5, none⟩ = some (.int .u8 (v : Nat)) := ⟨_, (hat 2 (6 + 12 * n) rfl).2⟩
  obtain ⟨v5, c5⟩ := c5
  have HS := Lib.hid (Item.start w)
  have HLEN := Lib.hid hlen
  have HFL := Lib.hid hfl
  have HFLT := Lib.hid hflt
  have HAT := Lib.hid hat
  have HDL := Lib.hid hdl
  have HO := Lib.hid ho
  clear hN hlen hfl hflt hc hat hdl ho
  have q0 : (0 : Int) ≤ N := by omega
  have q2 : (2 : Int) ≤ N := by omega
  have q4 : (4 : Int) ≤ N := by omega
  have z2 : ¬ cap = 2 := by omega
  have z4 : ¬ cap = 4 := by omega
  go_enter Try.func9, Try.ntmps9
  go_upto_region 7 with fail
  go_cut [] (fun W => Item w W ([.int .u16 0, .int .u16 0, .slice none 0 0, .slice none 0 0]))
  case first =>
    obtain ⟨W0, hW0⟩ : ∃ W0, W0 = (w.alloc (.cells none4.toArray 38)).alloc (.cells none4.toArray 38) := ⟨_, rfl⟩
    have HS1 := HS
    rw [← hW0] at HS1
    obtain ⟨u0, uf, us⟩ := HS1.out.cell (i := 0) (v := .int .u16 0) rfl
    have k := HAT.out 0 0 rfl
    have k0 : W0.cell? ⟨g, 0, none⟩ = some (.int .u8 (0 : Nat)) := by rw [← k.1]; exact HS1.out.below.cell hg
    have k1 : W0.cell? ⟨g, 0 + 1, none⟩ = some (.int .u8 (0 : Nat)) := by rw [← k.2]; exact HS1.out.below.cell hg
    have hC := Lib.hid (half_any g 0 N cap 0 0 W0.drew (by omega) (by omega) (by omega) k0 k1)
    change Code.wp _ _ _ _ ((w.alloc (.cells none4.toArray 38)).alloc (.cells none4.toArray 38))
    rw [← hW0]
    clear c5 hW0 k k0 k1
    go_region_with (go_at_call 18; refine hC.out.mono ?_; rintro e w1 ⟨rfl, hb1⟩; have z0 := (hb1.cell (p := ⟨w.heap.size + 1, 0, none⟩) us).trans u0; have z1 := (hb1.frozen (p := ⟨w.heap.size + 1, 0, none⟩) us).trans uf)
    all_goals
      go_wp2_with fail
      go_meet
    all_goals exact (HS1.out.later ((Below.refl _ _).drew.trans hb1)).set 0 _
  case rest =>
  have HI1 := Lib.hid hcut
  obtain ⟨W1, rfl⟩ : ∃ W : World, W = wc := ⟨_, rfl⟩
  clear hcut
  go_upto_region 8 with fail
  go_cut [] (fun W => Item w W ([.int .u16 0, .int .u16 (n : Nat), .slice none 0 0, .slice none 0 0]))
  case first =>
    obtain ⟨u0, uf, us⟩ := HI1.out.cell (i := 1) (v := .int .u16 0) rfl
    have k := HAT.out 1 n rfl
    have k0 : W1.cell? ⟨g, 2, none⟩ = some (.int .u8 (n / 256 % 256 : Nat)) := by rw [← k.1]; exact HI1.out.below.cell hg
    have k1 : W1.cell? ⟨g, 2 + 1, none⟩ = some (.int .u8 (n % 256 : Nat)) := by rw [← k.2]; exact HI1.out.below.cell hg
    have hC := Lib.hid (half_any g 2 (N - 2) (cap - 2) (n / 256 % 256) (n % 256) W1.drew (by omega) (by omega) (by omega) k0 k1)
    rw [show n / 256 % 256 * 256 + n % 256 = n by omega] at hC
    clear c5 k k0 k1
    go_region_with (go_at_call 18; refine hC.out.mono ?_; rintro e w1 ⟨rfl, hb1⟩; have z0 := (hb1.cell (p := ⟨w.heap.size + 1, 1, none⟩) us).trans u0; have z1 := (hb1.frozen (p := ⟨w.heap.size + 1, 1, none⟩) us).trans uf)
    all_goals
      go_wp2_with fail
      go_meet
    all_goals exact (HI1.out.later ((Below.refl _ _).drew.trans hb1)).set 1 _
  case rest =>
  have HI2 := Lib.hid hcut
  obtain ⟨W2, rfl⟩ : ∃ W : World, W = wc := ⟨_, rfl⟩
  clear hcut
  go_upto_region 9 with fail
  go_cut [8] (fun v W => v = .int .i64 (o : Nat) ∧ Item w W ([.int .u16 0, .int .u16 (n : Nat), .slice none 0 0, .slice none 0 0]))
  case first =>
    have k := HAT.out 2 (6 + 12 * n) rfl
    rw [← HO.out] at k
    have k0 : W2.cell? ⟨g, 4, none⟩ = some (.int .u8 (o / 256 % 256 : Nat)) := by rw [← k.1]; exact HI2.out.below.cell hg
    have k1 : W2.cell? ⟨g, 4 + 1, none⟩ = some (.int .u8 (o % 256 : Nat)) := by rw [← k.2]; exact HI2.out.below.cell hg
    have hC := Lib.hid (half_any g 4 (N - 4) (cap - 4) (o / 256 % 256) (o % 256) W2.drew (by omega) (by omega) (by omega) k0 k1)
    rw [show o / 256 % 256 * 256 + o % 256 = o by omega] at hC
    have ho1 : (o : Int) < 65536 := by omega
    clear c5 k k0 k1
    go_region_with (go_at_call 18; refine hC.out.mono ?_; rintro e w1 ⟨rfl, hb1⟩)
    all_goals
      go_wp2_with fail
      go_meet
    all_goals exact ⟨congrArg (Value.int .i64) (IntWalk.i64_in _ (by omega)), HI2.out.later ((Below.refl _ _).drew.trans hb1)⟩
  case rest =>
  obtain ⟨rfl, hcut⟩ := hcut
  have HI3 := Lib.hid hcut
  obtain ⟨W3, rfl⟩ : ∃ W : World, W = wc := ⟨_, rfl⟩
  clear hcut
  have o1 : ((o : Int) == 0) = false := by have := HO.out; simp; omega
  have o2 : (o : Int) ≠ 0 := by have := HO.out; omega
  have o3 : (o : Int) ≤ N := by omega
  have o4 : (0 : Int) ≤ o := by omega
  have o5 : ¬ (N : Int) < o := by omega
  obtain ⟨u0, uf, us⟩ := HI3.out.cell (i := 2) (v := .slice none 0 0) rfl
  go_upto_region 15 with fail
  go_cut [] (fun W => ∃ A2 : Option Addr, (0 < data.length → A2 = some ⟨g, o, none⟩) ∧ Item w W ([.int .u16 0, .int .u16 (n : Nat), .slice A2 data.length (cap - o), .slice none 0 0]))
  case first =>
    have hdl := HDL.out
    by_cases hco : cap = o
    · have hR := (HI3.out.set 2 (.slice (some ⟨g, 0, none⟩) 0 0))
      have HR := Lib.hid hR
      clear hdl hR
      subst hco
      go_wp2_with fail
      go_meet
      exact ⟨some ⟨g, 0, none⟩, fun h => by have := HDL.out; omega, by rw [show data.length = 0 by have := HDL.out; omega, Nat.sub_self]; exact HR.out⟩
    · have hR := (HI3.out.set 2 (.slice (some ⟨g, o, none⟩) data.length (cap - o)))
      rw [← hdl] at hR
      have HR := Lib.hid hR
      clear hdl hR
      go_wp2_with fail
      go_meet
      exact ⟨_, fun h => rfl, by rw [← HDL.out]; exact HR.out⟩
  case rest =>
  obtain ⟨A2, hA2, hi4⟩ := hcut
  have HA2 := Lib.hid hA2
  have HI4 := Lib.hid hi4
  obtain ⟨W4, rfl⟩ : ∃ W : World, W = wc := ⟨_, rfl⟩
  clear hA2 u0 uf us
  obtain ⟨m1, _, _⟩ := HI4.out.cell (i := 1) (v := .int .u16 (n : Nat)) rfl
  obtain ⟨m3, mf, us⟩ := HI4.out.cell (i := 3) (v := .slice none 0 0) rfl
  have hmk : ∀ u : World, (Instr.makeSlice 36 (.int .i64 n) (.int .i64 n)).run Try.prog u = .ok (.slice (some ⟨u.heap.size, 0, none⟩) n n) (u.alloc (.cells (madeCells #[.int .u16 0, .int .u16 0, .int .u16 0, .int .u16 0, .int .u16 0, .int .u16 0] (n * 6)) 67)) := fun u => by
    obtain ⟨i0, hi, hz0, hz1, hz2⟩ := info_parts info67
    have := run_make u (P := Try.prog) 36 67 i0 _ Try.underlying36 hi hz0 .i64 .i64 n n (by omega) (Int.le_refl _) (by rw [hz2]; omega) (by omega)
    simpa [hz1, Value.cells] using this
  clear hi4
  go_upto_region 20 with fail
  go_cut [] (fun W => ∃ G : Nat, w.heap.size + 2 ≤ G ∧ Item w W ([.int .u16 0, .int .u16 (n : Nat), .slice A2 data.length (cap - o), .slice (some ⟨G, 0, none⟩) n n]) ∧ Rows G n 0 flds W)
  case first =>
    have hR := (HI4.out.set 3 (.slice (some ⟨W4.heap.size, 0, none⟩) n n)).later ((Below.refl _ _).alloc (Nat.le_refl _) (.cells (madeCells #[.int .u16 0, .int .u16 0, .int .u16 0, .int .u16 0, .int .u16 0, .int .u16 0] (n * 6)) 67))
    have HR := Lib.hid hR
    have hsz := HI4.out.size
    clear hR
    go_wp2_with fail
    go_meet
    refine ⟨W4.heap.size, hsz, HR.out, ⟨(madeCells #[.int .u16 0, .int .u16 0, .int .u16 0, .int .u16 0, .int .u16 0, .int .u16 0] (n * 6)).toList, ?_, ?_, fun j x hj => absurd hj (by omega)⟩⟩
    · have := heap_alloc_new (W4.setCell ⟨w.heap.size + 1, 3, none⟩ (.slice (some ⟨W4.heap.size, 0, none⟩) n n)) (.cells (madeCells #[.int .u16 0, .int .u16 0, .int .u16 0, .int .u16 0, .int .u16 0, .int .u16 0] (n * 6)) 67)
      rw [World.size_setCell] at this
      simpa using this
    · simpa using size_madeCells _ _
  case rest =>
  obtain ⟨G, hG, hi5, hr5⟩ := hcut
  have HI5 := Lib.hid hi5
  have HR5 := Lib.hid hr5
  obtain ⟨W5, rfl⟩ : ∃ W : World, W = wc := ⟨_, rfl⟩
  clear m1 m3 mf us hmk hi5 hr5 hl1 hl2 hl3
  obtain ⟨m3, _, _⟩ := HI5.out.cell (i := 3) (v := .slice (some ⟨G, 0, none⟩) n n) rfl
  have hGg : G ≠ g := by omega
  go_wp2
  clear m3
  go_loopg [70] (n) (fun gk iv W => ∃ k : Nat, k ≤ n ∧ gk = n - k ∧ iv = .int .i64 k ∧ Item w W ([.int .u16 0, .int .u16 (n : Nat), .slice A2 data.length (cap - o), .slice (some ⟨G, 0, none⟩) n n]) ∧ Rows G n k flds W)
  case atStart => exact ⟨0, Nat.zero_le _, rfl, rfl, HI5.out, HR5.out⟩
  case round =>
    obtain ⟨k, hk, hgk, rfl, hi, hr⟩ := hrel
    have HK := Lib.hid hgk
    have HI := Lib.hid hi
    have HR := Lib.hid hr
    clear hgk hi hr
    obtain ⟨m3, _, _⟩ := HI.out.cell (i := 3) (v := .slice (some ⟨G, 0, none⟩) n n) rfl
    by_cases hlt : k < n
    · obtain ⟨cur, hcur, hcl, hcv⟩ := HR.out.row
      obtain ⟨p, hp⟩ : ∃ p : Nat, p = 6 + 12 * k := ⟨_, rfl⟩
      have hGs : G < wr.heap.size := (Array.getElem?_eq_some_iff.1 hcur).1
      have hM := must_any G (k * 6) g p (N - p) (cap - p) (fun j => if j % 2 = 0 then flds.getD (k * 6 + j / 2) 0 / 256 % 256 else flds.getD (k * 6 + j / 2) 0 % 256) cur wr.drew (by have := HLEN.out; omega) (by omega) (by omega) hGs hGg (fun j => by split <;> omega) (fun j hj => by
        have hx : flds[k * 6 + j / 2]? = some (flds.getD (k * 6 + j / 2) 0) := by
          have hl : k * 6 + j / 2 < flds.length := by have := HFL.out; omega
          simp [List.getD, hl]
        have h2 := HAT.out (3 + (k * 6 + j / 2)) (flds.getD (k * 6 + j / 2) 0) (by rw [List.getElem?_append_right (by simp)]; simpa using hx)
        have hb := HI.out.below
        split
        · rw [show p + j = 2 * (3 + (k * 6 + j / 2)) by omega, ← h2.1]
          exact hb.cell hg
        · rw [show p + j = 2 * (3 + (k * 6 + j / 2)) + 1 by omega, ← h2.2]
          exact hb.cell hg) (by omega) hcur
      have HM := Lib.hid hM
      have HC := Lib.hid (And.intro hcl hcv)
      have k0 : IntKind.i64.wrap ((k : Int) * 12) = (k : Int) * 12 := IntWalk.i64_in _ (by omega)
      have k1 : 6 + (k : Int) * 12 = (p : Int) := by omega
      have k2 : IntKind.i64.wrap (p : Int) = p := IntWalk.i64_in _ (by omega)
      have k3 : (p : Int) ≤ N := by have := HLEN.out; omega
      have k4 : ¬ cap = p := by have := HLEN.out; omega
      have k5 : (k : Int) < n := by omega
      have k6 : p ≤ N := by omega
      clear hcur hcl hcv hM hp
      go_upto_region 24 with fail
      go_still_tail 9, (by kernel_rfl)
      go_wp2_with fail
      refine HM.out.mono ?_
      rintro e w1 ⟨rfl, hpa⟩
      have hI : Item w w1 ([.int .u16 0, .int .u16 (n : Nat), .slice A2 data.length (cap - o), .slice (some ⟨G, 0, none⟩) n n]) := by
        have h1 := HI.out
        have hsz := h1.size
        exact ⟨(hpa.kept.block _ (by show w.heap.size < wr.heap.size; omega) (by omega)).trans h1.row0, (hpa.kept.block _ (by show w.heap.size + 1 < wr.heap.size; omega) (by omega)).trans h1.row, Nat.le_trans hsz hpa.kept.size, Kept.below h1.below.drew hpa.kept (by show w.heap.size ≤ wr.heap.size; omega) (fun q hq => by omega)⟩
      have hRW : Rows G n (k + 1) flds w1 := by
        obtain ⟨hcl, hcv⟩ := HC.out
        refine ⟨_, hpa.row, by rw [over_len]; exact hcl, fun j x hj hx => ?_⟩
        rw [over_at _ _ _ _ (by omega)]
        by_cases hj2 : j < k * 6
        · rw [if_neg (by omega)]; exact hcv j x hj2 hx
        · rw [if_pos (by omega)]
          have hxl := HFLT.out x (List.mem_of_getElem? hx)
          obtain ⟨i, rfl⟩ : ∃ i, j = k * 6 + i := ⟨j - k * 6, by omega⟩
          have hgd : flds.getD (k * 6 + i) 0 = x := by simp [List.getD, hx]
          rw [Nat.add_sub_cancel_left]
          rw [if_pos (by omega), if_neg (by omega), show 2 * i / 2 = i by omega, show (2 * i + 1) / 2 = i by omega, hgd]
          congr 3
          omega
      have HI2 := Lib.hid hI
      have HR2 := Lib.hid hRW
      clear hpa hI hRW m3
      go_wp2
      go_roundg (n - (k + 1))
      case measure => have := HK.out; omega
      case rel => exact ⟨k + 1, by omega, rfl, by go_num, HI2.out, HR2.out⟩
    · have hkn : k = n := by omega
      obtain ⟨e0, _, _⟩ := HI.out.cell (i := 0) (v := .int .u16 0) rfl
      obtain ⟨e1, _, _⟩ := HI.out.cell (i := 1) (v := .int .u16 (n : Nat)) rfl
      obtain ⟨e2, _, _⟩ := HI.out.cell (i := 2) (v := .slice A2 data.length (cap - o)) rfl
      have r0 : wr.cell? ⟨w.heap.size, 0, none⟩ = some (.int .u16 0) := by rw [cell_in HI.out.row0]; rfl
      have r1 : wr.cell? ⟨w.heap.size, 1, none⟩ = some (.int .u16 0) := by rw [cell_in HI.out.row0]; rfl
      have r2 : wr.cell? ⟨w.heap.size, 2, none⟩ = some (.slice none 0 0) := by rw [cell_in HI.out.row0]; rfl
      have r3 : wr.cell? ⟨w.heap.size, 3, none⟩ = some (.slice none 0 0) := by rw [cell_in HI.out.row0]; rfl
      have t0 : wr.frozen? ⟨w.heap.size, 0, none⟩ = false := by simp [World.frozen?, HI.out.row0]
      have t1 : wr.frozen? ⟨w.heap.size, 1, none⟩ = false := by simp [World.frozen?, HI.out.row0]
      have t2 : wr.frozen? ⟨w.heap.size, 2, none⟩ = false := by simp [World.frozen?, HI.out.row0]
      have t3 : wr.frozen? ⟨w.heap.size, 3, none⟩ = false := by simp [World.frozen?, HI.out.row0]
      have hR : ∀ a b c d, Parsed g n cap flds data w (.returned (.tuple #[.agg #[.int .u16 0, .int .u16 (n : Nat), .slice A2 data.length (cap - o), .slice (some ⟨G, 0, none⟩) n n], .int .i64 (6 + (n : Int) * 12), .nilIface])) ((((wr.setCell ⟨w.heap.size, 0, none⟩ a).setCell ⟨w.heap.size, 1, none⟩ b).setCell ⟨w.heap.size, 2, none⟩ c).setCell ⟨w.heap.size, 3, none⟩ d) := by
        intro a b c d
        obtain ⟨cur, hcur, hcl, hcv⟩ := HR.out.row
        refine ⟨A2, G, _, by rw [HO.out], by simpa using (Array.getElem?_eq_some_iff.1 hcur).1, fun j x hx => ?_, by rw [← HO.out]; exact HA2.out, ?_⟩
        · have hjl := (List.getElem?_eq_some_iff.1 hx).1
          rw [World.cell?_setCell_other _ _ _ _ (by simp), World.cell?_setCell_other _ _ _ _ (by simp), World.cell?_setCell_other _ _ _ _ (by simp), World.cell?_setCell_other _ _ _ _ (by simp), cell_in hcur]
          simpa using hcv j x (by have := HFL.out; omega) hx
        · exact (((HI.out.below.setCell (Nat.le_refl _) _).setCell (Nat.le_refl _) _).setCell (Nat.le_refl _) _).setCell (Nat.le_refl _) _
      have HRR := Lib.hid hR
      clear hR
      have hrow : ∀ a b c d, ((((wr.setCell ⟨w.heap.size, 0, none⟩ a).setCell ⟨w.heap.size, 1, none⟩ b).setCell ⟨w.heap.size, 2, none⟩ c).setCell ⟨w.heap.size, 3, none⟩ d).heap[w.heap.size]? = some (.cells #[a, b, c, d] 38 (0, 0)) := fun a b c d => by
        have h1 := set_row (j := 0) (x := a) HI.out.row0
        have h2 := set_row (j := 1) (x := b) h1
        have h3 := set_row (j := 2) (x := c) h2
        have h4 := set_row (j := 3) (x := d) h3
        simpa [none4] using h4
      have HROW := Lib.hid hrow
      clear hrow
      go_wp2
      (try simp only [Exit.inBlock, Exit.then])
      refine bodyPost_ret (results_3 rfl _ _ _ ⟨w.heap.size, 0, none⟩ _ rfl (run_loadVar_row _ _ _ 38 _ _ _ (HROW.out _ _ _ _) Try.underlying38 rfl (by kernel_rfl))) rfl ?_
      exact HRR.out _ _ _ _
end Go.Proofs.Ytdihfcmmnljchaa.Nm
