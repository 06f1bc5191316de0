/- A record parsed, walked. -/
import Derived.Test.YtdihfcmmnljchaaNmRead
namespace Go.Proofs.Ytdihfcmmnljchaa.Nm
open Go Go.RowKit

/-- The first i numbers written over a record's cells. -/
def over (cur : List Value) (o : Nat) (v : Nat → Nat) : Nat → List Value
  | 0 => cur
  | i + 1 => (over cur o v i).set (o + i) (.int .u16 (v i : Nat))
theorem over_len (cur : List Value) (o : Nat) (v : Nat → Nat) : ∀ i, (over cur o v i).length = cur.length
  | 0 => rfl
  | i + 1 => by unfold over; rw [List.length_set, over_len cur o v i]

structure Parsing (G o : Nat) (cur : List Value) (v : Nat → Nat) (i : Nat) (w W : World) : Prop where
  row : W.heap[G]? = some (.cells (over cur o v i).toArray 67 (0, 0))
  kept : Kept (fun k => k = G) w W

theorem Parsing.cell {G o : Nat} {cur : List Value} {v : Nat → Nat} {i : Nat} {w W : World} (h : Parsing G o cur v i w W) (ho : o + 6 ≤ cur.length) (hi : i < 6) : (∃ u, W.cell? ⟨G, o + i, none⟩ = some u) ∧ W.frozen? ⟨G, o + i, none⟩ = false := by
  refine ⟨?_, by simp [World.frozen?, h.row]⟩
  have hl := over_len cur o v i
  refine ⟨(over cur o v i)[o + i]'(by omega), ?_⟩
  rw [cell_in h.row]
  simp
theorem Parsing.next {G o : Nat} {cur : List Value} {v : Nat → Nat} {i : Nat} {w W W1 : World} (h : Parsing G o cur v i w W) (hG : G < w.heap.size) (hb : Below W.drew.heap.size W.drew W1) : Parsing G o cur v (i + 1) w (W1.setCell ⟨G, o + i, none⟩ (.int .u16 (v i : Nat))) := by
  have hs := h.kept.size
  have hr : W1.heap[G]? = some (.cells (over cur o v i).toArray 67 (0, 0)) := (hb.block G (by show G < W.heap.size; omega)).trans h.row
  refine ⟨?_, ?_⟩
  · have := set_row (j := o + i) (x := .int .u16 (v i : Nat)) hr
    rw [this]
    simp [over]
  · have k1 : Kept (fun k => k = G) W (W1.setCell ⟨G, o + i, none⟩ (.int .u16 (v i : Nat))) := by
      refine ⟨hb.os, hb.tape, hb.output, by rw [World.size_setCell]; exact hb.size, fun q hq hn => ?_⟩
      rw [Below.heap_setCell _ _ _ _ hn]
      exact hb.block q hq
    exact h.kept.trans k1 (fun q _ e => e)
theorem Parsing.next' {G o p : Nat} {cur : List Value} {v : Nat → Nat} {i : Nat} {w W W1 : World} {x : Int} (h : Parsing G o cur v i w W) (hG : G < w.heap.size) (hb : Below W.drew.heap.size W.drew W1) (hx : x = (v i : Nat)) (hp : p = o + i) : Parsing G o cur v (i + 1) w (W1.setCell ⟨G, p, none⟩ (.int .u16 x)) := by
  subst hx hp
  exact h.next hG hb

theorem Parsing.byte {G o g a x : Nat} {cur : List Value} {v : Nat → Nat} {i : Nat} {w W : World} (h : Parsing G o cur v i w W) (hGg : G ≠ g) (hc : w.cell? ⟨g, a, none⟩ = some (.int .u8 (x : Nat))) : W.cell? ⟨g, a, none⟩ = some (.int .u8 (x : Nat)) := by
  rw [← hc]
  exact World.cell?_of_block (w := w) (h.kept.block g (World.block_lt_of_cell? w _ hc) (fun e => hGg e.symm))

set_option maxRecDepth 100000 in
set_option maxHeartbeats 4000000 in
theorem must_any (G o g off n cap : Nat) (b : Nat → Nat) (cur : List Value) (w : World) (hn : 12 ≤ n) (hcm : n ≤ cap) (_hcap : cap ≤ 9223372036854775807) (hG : G < w.heap.size) (hGg : G ≠ g) (hb : ∀ j, b j < 256) (h : ∀ j, j < 12 → w.cell? ⟨g, off + j, none⟩ = some (.int .u8 (b j : Nat)))
    (ho : o + 6 ≤ cur.length) (hrow : w.heap[G]? = some (.cells cur.toArray 67 (0, 0))) :
    Calls Try.prog 19 #[.pointer (some ⟨G, o, none⟩), .slice (some ⟨g, off, none⟩) n cap] w fun e w' => e = .returned (.tuple #[]) ∧ Parsing G o cur (fun i => b (2 * i) * 256 + b (2 * i + 1)) 6 w w' := by
  obtain ⟨v, hv⟩ : ∃ v : Nat → Nat, v = fun i => b (2 * i) * 256 + b (2 * i + 1) := ⟨_, rfl⟩
  have HP0 : Hid (Parsing G o cur v 0 w w) := ⟨hrow, Kept.refl _ _⟩
  have H := Lib.hid h
  have c11 := h 11 (by omega)
  have n11 : (11 : Int) < n := by omega
  have q0 : (0 : Int) ≤ n := by omega
  have q2 : (2 : Int) ≤ n := by omega
  have q4 : (4 : Int) ≤ n := by omega
  have q6 : (6 : Int) ≤ n := by omega
  have q8 : (8 : Int) ≤ n := by omega
  have q10 : (10 : Int) ≤ n := by omega
  have z2 : ¬ cap = 2 := by omega
  have z4 : ¬ cap = 4 := by omega
  have z6 : ¬ cap = 6 := by omega
  have z8 : ¬ cap = 8 := by omega
  have z10 : ¬ cap = 10 := by omega
  rw [← hv]
  clear h hrow
  have HV := Lib.hid hv
  clear hv
  go_enter Try.func19, Try.ntmps19
  go_upto_region 1 with fail
  go_cut [] (fun W => Parsing G o cur v 1 w W)
  case first =>
    obtain ⟨⟨u, hu⟩, hf⟩ := HP0.out.cell ho (i := 0) (by omega)
    have k0 : w.cell? ⟨g, off, none⟩ = some (.int .u8 (b 0 : Nat)) := HP0.out.byte hGg (H.out 0 (by omega))
    have k1 : w.cell? ⟨g, off + 1, none⟩ = some (.int .u8 (b 1 : Nat)) := HP0.out.byte hGg (H.out 1 (by omega))
    have hC := Lib.hid (half_any g (off) (n) (cap) (b 0) (b 1) w.drew (by omega) (hb 0) (hb 1) k0 k1)
    have HK0 := Lib.hid (And.intro k0 k1)
    have hgw : G < w.heap.size := Nat.lt_of_lt_of_le hG HP0.out.kept.size
    clear k0 k1
    go_region_with (go_at_call 18; refine hC.out.mono ?_; rintro e w1 ⟨rfl, hb1⟩; have z0 := (hb1.cell (p := ⟨G, o, none⟩) hgw).trans hu; have z1 := (hb1.frozen (p := ⟨G, o, none⟩) hgw).trans hf)
    all_goals
      go_wp2_with fail
      go_meet
    all_goals exact HP0.out.next' hG hb1 (by rw [HV.out]; simp) (by omega)
  case rest =>
  have HP1 := Lib.hid hcut
  obtain ⟨W1, rfl⟩ : ∃ W : World, W = wc := ⟨_, rfl⟩
  clear hcut
  go_upto_region 2 with fail
  go_cut [] (fun W => Parsing G o cur v 2 w W)
  case first =>
    obtain ⟨⟨u, hu⟩, hf⟩ := HP1.out.cell ho (i := 1) (by omega)
    have k0 : W1.cell? ⟨g, off + 2, none⟩ = some (.int .u8 (b 2 : Nat)) := HP1.out.byte hGg (H.out 2 (by omega))
    have k1 : W1.cell? ⟨g, off + 2 + 1, none⟩ = some (.int .u8 (b 3 : Nat)) := HP1.out.byte hGg (H.out 3 (by omega))
    have hC := Lib.hid (half_any g (off + 2) (n - 2) (cap - 2) (b 2) (b 3) W1.drew (by omega) (hb 2) (hb 3) k0 k1)
    have HK0 := Lib.hid (And.intro k0 k1)
    have hgw : G < W1.heap.size := Nat.lt_of_lt_of_le hG HP1.out.kept.size
    clear k0 k1
    go_region_with (go_at_call 18; refine hC.out.mono ?_; rintro e w1 ⟨rfl, hb1⟩; have z0 := (hb1.cell (p := ⟨G, o + 1, none⟩) hgw).trans hu; have z1 := (hb1.frozen (p := ⟨G, o + 1, none⟩) hgw).trans hf)
    all_goals
      go_wp2_with fail
      go_meet
    all_goals exact HP1.out.next' hG hb1 (by rw [HV.out]; simp) (by omega)
  case rest =>
  have HP2 := Lib.hid hcut
  obtain ⟨W2, rfl⟩ : ∃ W : World, W = wc := ⟨_, rfl⟩
  clear hcut
  go_upto_region 3 with fail
  go_cut [] (fun W => Parsing G o cur v 3 w W)
  case first =>
    obtain ⟨⟨u, hu⟩, hf⟩ := HP2.out.cell ho (i := 2) (by omega)
    have k0 : W2.cell? ⟨g, off + 4, none⟩ = some (.int .u8 (b 4 : Nat)) := HP2.out.byte hGg (H.out 4 (by omega))
    have k1 : W2.cell? ⟨g, off + 4 + 1, none⟩ = some (.int .u8 (b 5 : Nat)) := HP2.out.byte hGg (H.out 5 (by omega))
    have hC := Lib.hid (half_any g (off + 4) (n - 4) (cap - 4) (b 4) (b 5) W2.drew (by omega) (hb 4) (hb 5) k0 k1)
    have HK0 := Lib.hid (And.intro k0 k1)
    have hgw : G < W2.heap.size := Nat.lt_of_lt_of_le hG HP2.out.kept.size
    clear k0 k1
    go_region_with (go_at_call 18; refine hC.out.mono ?_; rintro e w1 ⟨rfl, hb1⟩; have z0 := (hb1.cell (p := ⟨G, o + 2, none⟩) hgw).trans hu; have z1 := (hb1.frozen (p := ⟨G, o + 2, none⟩) hgw).trans hf)
    all_goals
      go_wp2_with fail
      go_meet
    all_goals exact HP2.out.next' hG hb1 (by rw [HV.out]; simp) (by omega)
  case rest =>
  have HP3 := Lib.hid hcut
  obtain ⟨W3, rfl⟩ : ∃ W : World, W = wc := ⟨_, rfl⟩
  clear hcut
  go_upto_region 4 with fail
  go_cut [] (fun W => Parsing G o cur v 4 w W)
  case first =>
    obtain ⟨⟨u, hu⟩, hf⟩ := HP3.out.cell ho (i := 3) (by omega)
    have k0 : W3.cell? ⟨g, off + 6, none⟩ = some (.int .u8 (b 6 : Nat)) := HP3.out.byte hGg (H.out 6 (by omega))
    have k1 : W3.cell? ⟨g, off + 6 + 1, none⟩ = some (.int .u8 (b 7 : Nat)) := HP3.out.byte hGg (H.out 7 (by omega))
    have hC := Lib.hid (half_any g (off + 6) (n - 6) (cap - 6) (b 6) (b 7) W3.drew (by omega) (hb 6) (hb 7) k0 k1)
    have HK0 := Lib.hid (And.intro k0 k1)
    have hgw : G < W3.heap.size := Nat.lt_of_lt_of_le hG HP3.out.kept.size
    clear k0 k1
    go_region_with (go_at_call 18; refine hC.out.mono ?_; rintro e w1 ⟨rfl, hb1⟩; have z0 := (hb1.cell (p := ⟨G, o + 3, none⟩) hgw).trans hu; have z1 := (hb1.frozen (p := ⟨G, o + 3, none⟩) hgw).trans hf)
    all_goals
      go_wp2_with fail
      go_meet
    all_goals exact HP3.out.next' hG hb1 (by rw [HV.out]; simp) (by omega)
  case rest =>
  have HP4 := Lib.hid hcut
  obtain ⟨W4, rfl⟩ : ∃ W : World, W = wc := ⟨_, rfl⟩
  clear hcut
  go_upto_region 5 with fail
  go_cut [] (fun W => Parsing G o cur v 5 w W)
  case first =>
    obtain ⟨⟨u, hu⟩, hf⟩ := HP4.out.cell ho (i := 4) (by omega)
    have k0 : W4.cell? ⟨g, off + 8, none⟩ = some (.int .u8 (b 8 : Nat)) := HP4.out.byte hGg (H.out 8 (by omega))
    have k1 : W4.cell? ⟨g, off + 8 + 1, none⟩ = some (.int .u8 (b 9 : Nat)) := HP4.out.byte hGg (H.out 9 (by omega))
    have hC := Lib.hid (half_any g (off + 8) (n - 8) (cap - 8) (b 8) (b 9) W4.drew (by omega) (hb 8) (hb 9) k0 k1)
    have HK0 := Lib.hid (And.intro k0 k1)
    have hgw : G < W4.heap.size := Nat.lt_of_lt_of_le hG HP4.out.kept.size
    clear k0 k1
    go_region_with (go_at_call 18; refine hC.out.mono ?_; rintro e w1 ⟨rfl, hb1⟩; have z0 := (hb1.cell (p := ⟨G, o + 4, none⟩) hgw).trans hu; have z1 := (hb1.frozen (p := ⟨G, o + 4, none⟩) hgw).trans hf)
    all_goals
      go_wp2_with fail
      go_meet
    all_goals exact HP4.out.next' hG hb1 (by rw [HV.out]; simp) (by omega)
  case rest =>
  have HP5 := Lib.hid hcut
  obtain ⟨W5, rfl⟩ : ∃ W : World, W = wc := ⟨_, rfl⟩
  clear hcut
  go_upto_region 6 with fail
  obtain ⟨⟨u, hu⟩, hf⟩ := HP5.out.cell ho (i := 5) (by omega)
  have k0 : W5.cell? ⟨g, off + 10, none⟩ = some (.int .u8 (b 10 : Nat)) := HP5.out.byte hGg (H.out 10 (by omega))
  have k1 : W5.cell? ⟨g, off + 10 + 1, none⟩ = some (.int .u8 (b 11 : Nat)) := HP5.out.byte hGg (H.out 11 (by omega))
  have hC := Lib.hid (half_any g (off + 10) (n - 10) (cap - 10) (b 10) (b 11) W5.drew (by omega) (hb 10) (hb 11) k0 k1)
  have HK0 := Lib.hid (And.intro k0 k1)
  have hgw : G < W5.heap.size := Nat.lt_of_lt_of_le hG HP5.out.kept.size
  clear k0 k1
  go_region_with (go_at_call 18; refine hC.out.mono ?_; rintro e w1 ⟨rfl, hb1⟩; have z0 := (hb1.cell (p := ⟨G, o + 5, none⟩) hgw).trans hu; have z1 := (hb1.frozen (p := ⟨G, o + 5, none⟩) hgw).trans hf)
  all_goals
    go_wp2_with fail
    go_end0
    exact ⟨rfl, HP5.out.next' hG hb1 (by rw [HV.out]; simp) (by omega)⟩
end Go.Proofs.Ytdihfcmmnljchaa.Nm
