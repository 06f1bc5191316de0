/- A part's bytes with those of the part to which its one offset leads, walked. -/
import Derived.Test.YtgggpllmgnpngaaGreatDoorTbWay
namespace Go.Proofs.YtgggpllmgnpngaaGreatDoor.Tb
open Go Go.RowKit

/-- So many bytes, the call's own. -/
def BytesN (base n : Nat) (w : World) (v : Value) : Prop := ∃ bs, bs.length = n ∧ (∀ b ∈ bs, b < 256) ∧ w.ownsRow base 5 1 v n (byteCells bs)
theorem BytesN.mono {base base' n : Nat} {w : World} {v : Value} (h : BytesN base n w v) (hb : base' ≤ base) : BytesN base' n w v := by
  obtain ⟨bs, h1, h2, h3⟩ := h
  exact ⟨bs, h1, h2, own_mono h3 hb⟩
theorem BytesN.form {base n : Nat} {w : World} {v : Value} (h : BytesN base n w v) (hn : 0 < n) : ∃ g cap, v = .slice (some ⟨g, 0, none⟩) n cap ∧ base ≤ g ∧ g < w.heap.size ∧ n ≤ cap ∧ cap ≤ 9223372036854775807 := by
  obtain ⟨bs, h1, h2, h3⟩ := h
  obtain ⟨g, cap, cur, rfl, _, _, h4, h5, _⟩ := own_form h3 hn
  have := h3.lt g rfl
  exact ⟨g, cap, rfl, this.1, this.2, h4, by unfold maxLen at h5; omega⟩
theorem BytesN.block {base n : Nat} {w w' : World} {v : Value} (h : BytesN base n w v) (hk : ∀ q, v.ownBlock = some q → w'.heap[q]? = w.heap[q]?) : BytesN base n w' v := by
  obtain ⟨bs, h1, h2, h3⟩ := h
  exact ⟨bs, h1, h2, own_block h3 hk⟩
theorem BytesN.later {base n : Nat} {w w' : World} {v : Value} (h : BytesN base n w v) (k : Below w.heap.size w w') : BytesN base n w' v := by
  obtain ⟨bs, h1, h2, h3⟩ := h
  exact ⟨bs, h1, h2, own_block h3 (fun q hq => k.block q (h3.lt q hq).2)⟩
theorem BytesN.cell {base n g cap : Nat} {w : World} (h : BytesN base n w (.slice (some ⟨g, 0, none⟩) n cap)) {j : Nat} (hj : j < n) : ∃ b : Nat, b < 256 ∧ w.cell? ⟨g, j, none⟩ = some (.int .u8 (b : Nat)) ∧ w.frozen? ⟨g, j, none⟩ = false := by
  obtain ⟨bs, h1, h2, h3⟩ := h
  have hb : bs[j]? = some (bs[j]'(by omega)) := List.getElem?_eq_getElem (by omega)
  exact ⟨bs[j]'(by omega), h2 _ (List.getElem_mem _), by rw [h3.cellAt j (by omega)]; simp [byteCells, hb], h3.frozenAt j⟩
theorem BytesN.stored {base n g cap : Nat} {w : World} (h : BytesN base n w (.slice (some ⟨g, 0, none⟩) n cap)) (j b : Nat) (hb : b < 256) : BytesN base n (w.setCell ⟨g, j, none⟩ (.int .u8 (b : Nat))) (.slice (some ⟨g, 0, none⟩) n cap) := by
  obtain ⟨bs, h1, h2, h3⟩ := h
  refine ⟨bs.set j b, by simpa using h1, fun x hx => ?_, ?_⟩
  · rcases List.mem_or_eq_of_mem_set hx with h | h
    · exact h2 x h
    · omega
  · have := (h3.stored j (.int .u8 (b : Nat))).1
    rwa [show (byteCells bs).set j (.int .u8 (b : Nat)) = byteCells (bs.set j b) by simp [byteCells, List.map_set]] at this

theorem byteCells_one (b : List Nat) : ∀ u ∈ byteCells b, u.oneCell' = true := by
  intro u hu
  unfold byteCells at hu
  obtain ⟨x, _, rfl⟩ := List.mem_map.1 hu
  rfl
theorem own_reads {w : World} {base n g cap : Nat} {bs : List Nat} (h : w.ownsRow base 5 1 (.slice (some ⟨g, 0, none⟩) n cap) n (byteCells bs)) : ∀ j u, (byteCells bs)[j]? = some u → w.cell? ⟨g, j, none⟩ = some u := fun j u hu => by
  have hj := (List.getElem?_eq_some_iff.1 hu).1
  rw [h.cellAt j (by have := h.1; omega)]
  exact hu

/-- A part: so many bytes, no links. -/
def PartN (T n : Nat) (w : World) : Prop := ∃ v bs, bs.length = n ∧ (∀ b ∈ bs, b < 256) ∧ Tab T (T + 1) bs (.slice none 0 0) w v
theorem PartN.later {T n : Nat} {w w' : World} (h : PartN T n w) (k : Below w.heap.size w w') : PartN T n w' := by
  obtain ⟨v, bs, h1, h2, h3⟩ := h
  exact ⟨v, bs, h1, h2, h3.later k⟩

set_option maxRecDepth 100000 in
set_option maxHeartbeats 2000000 in
theorem whole0_any (R T n : Nat) (w : World) (hn : 0 < n) (hn2 : n ≤ 1000) (ht : PartN T n w) :
    Calls Tryz.prog 14 #[.pointer (some ⟨R, 0, none⟩), .pointer (some ⟨T, 0, none⟩)] w fun e w' => (∃ g cap, e = .returned (.slice (some ⟨g, 0, none⟩) n cap) ∧ BytesN w.heap.size n w' (.slice (some ⟨g, 0, none⟩) n cap)) ∧ Below w.heap.size w w' := by
  obtain ⟨i0, hi, hz0, hz1, hz2⟩ := info_parts info5
  obtain ⟨v, bs, hbn, hby, htab⟩ := ht
  have hown := htab.own
  rw [hbn] at hown
  obtain ⟨g, cap, cur, rfl, hg, hh, h1, h2, _⟩ := own_form hown hn
  have hc := htab.cell
  have hl := htab.link
  have hr := own_reads hown
  have hgl := (hown.lt g rfl).2
  have hlen : (byteCells bs).length = n * 1 := by simp [byteCells, hbn]
  have hTw : T < w.heap.size := htab.size
  have hcc : ∀ j u, (byteCells bs)[j]? = some u → (w.alloc (.cells #[] 5)).cell? ((⟨g, 0, none⟩ : Addr).add j) = some u := fun j u hj => by
    rw [Addr.add_lit, Nat.zero_add, World.cell?_alloc_lt _ _ _ (by exact hgl)]
    exact hr j u hj
  have HC := Lib.hid hcc
  have HLEN := Lib.hid hlen
  have HBY := Lib.hid (And.intro hbn hby)
  clear hown hh hr hlen hcc htab hbn hby
  go_enter Tryz.func14, Tryz.ntmps14
  go_wp2_with (at_builtin; go_must (refine wpList_append_own_at _ rfl (.tmp 10) (.tmp 14) 24 rfl (w.heap.size) 5 i0 _ 1 1 Tryz.underlying24 hi hz0 hz1 hz2 rfl (by decide) _ 0 [] rfl (World.ownsRow_made w #[] 0 (Nat.le_refl _) (by unfold maxLen; omega) rfl) ⟨g, 0, none⟩ n cap (byteCells bs) rfl HLEN.out HC.out (byteCells_one bs) ?_ ?_ ?_ ?_))
  · unfold maxLen; omega
  · omega
  · rw [World.size_alloc]; omega
  intro v' w1 hown' hgrow _ _
  obtain ⟨g', cap', cur', rfl, _⟩ := own_form hown' hn
  have HO := Lib.hid (show BytesN w.heap.size n w1 (.slice (some ⟨g', 0, none⟩) n cap') from ⟨bs, HBY.out.1, HBY.out.2, hown'⟩)
  have hb : Below w.heap.size w w1 := ((Below.refl _ _).alloc (Nat.le_refl _) _).grown hgrow (by rw [World.size_alloc]; omega) (fun k hk => Nat.le_of_eq (by simpa [Value.ownBlock] using hk))
  have HB := Lib.hid hb
  have hl2 := below_cell hb hl
  clear hown' hgrow hb hl hc
  go_wp2_with fail
  refine wp_loop_rounds 1 ?_
  rw [rounds_succ]
  go_wp2_with fail
  go_ret
  exact ⟨⟨g', cap', rfl, HO.out⟩, HB.out⟩

/-- A table with one offset at its end, and the part to which it leads. -/
def Linked (T n X m : Nat) (w : World) : Prop := ∃ v bs L cap, bs.length = n ∧ (∀ b ∈ bs, b < 256) ∧ Tab T (T + 1) bs (.slice (some ⟨L, 0, none⟩) 1 cap) w v ∧ L < w.heap.size ∧
    w.cell? ⟨L, 0, none⟩ = some (.int .i64 ((n - 4 : Nat) : Nat)) ∧ w.cell? ⟨L, 1, none⟩ = some (.int .i64 4) ∧ w.cell? ⟨L, 2, none⟩ = some (.pointer (some ⟨X, 0, none⟩)) ∧
    PartN X m w

set_option maxRecDepth 100000 in
set_option maxHeartbeats 4000000 in
theorem whole1_any (R T X m : Nat) (w : World) (hm : 0 < m) (hm2 : m ≤ 1000) (ht : Linked T 12 X m w) :
    Calls Tryz.prog 14 #[.pointer (some ⟨R, 0, none⟩), .pointer (some ⟨T, 0, none⟩)] w fun e w' => (∃ g cap, e = .returned (.slice (some ⟨g, 0, none⟩) (12 + m) cap) ∧ BytesN w.heap.size (12 + m) w' (.slice (some ⟨g, 0, none⟩) (12 + m) cap)) ∧ Below w.heap.size w w' := by
  obtain ⟨i0, hi, hz0, hz1, hz2⟩ := info_parts info5
  obtain ⟨v, bs, L, lcap, hbn, hby, htab, hLl, l0, l1, l2, hpx⟩ := ht
  have hown := htab.own
  rw [hbn] at hown
  obtain ⟨g, cap, cur, rfl, hg, hh, h1, h2, _⟩ := own_form hown (by omega)
  have hc := htab.cell
  have hl := htab.link
  have hr := own_reads hown
  have hgl := (hown.lt g rfl).2
  have hlen : (byteCells bs).length = 12 * 1 := by simp [byteCells, hbn]
  have hTw : T < w.heap.size := htab.size
  have hcc : ∀ j u, (byteCells bs)[j]? = some u → (w.alloc (.cells #[] 5)).cell? ((⟨g, 0, none⟩ : Addr).add j) = some u := fun j u hj => by
    rw [Addr.add_lit, Nat.zero_add, World.cell?_alloc_lt _ _ _ (by exact hgl)]
    exact hr j u hj
  have HC := Lib.hid hcc
  have HLEN := Lib.hid hlen
  have HBY := Lib.hid (And.intro hbn hby)
  have HXX := Lib.hid hpx
  clear hown hh hr hlen hcc htab hbn hby hpx
  go_enter Tryz.func14, Tryz.ntmps14
  go_wp2_with (at_builtin; go_must (refine wpList_append_own_at _ rfl (.tmp 10) (.tmp 14) 24 rfl (w.heap.size) 5 i0 _ 1 1 Tryz.underlying24 hi hz0 hz1 hz2 rfl (by decide) _ 0 [] rfl (World.ownsRow_made w #[] 0 (Nat.le_refl _) (by unfold maxLen; omega) rfl) ⟨g, 0, none⟩ 12 cap (byteCells bs) rfl HLEN.out HC.out (byteCells_one bs) ?_ ?_ ?_ ?_))
  · unfold maxLen; omega
  · omega
  · rw [World.size_alloc]; omega
  intro v' w1 hown' hgrow _ _
  obtain ⟨g', cap', cur', rfl, hgb, _⟩ := own_form hown' (by omega)
  have hO := (show BytesN w.heap.size 12 w1 (.slice (some ⟨g', 0, none⟩) 12 cap') from ⟨bs, HBY.out.1, HBY.out.2, hown'⟩)
  have hgw := (hown'.lt g' rfl).2
  have hb : Below w.heap.size w w1 := ((Below.refl _ _).alloc (Nat.le_refl _) _).grown hgrow (by rw [World.size_alloc]; omega) (fun k hk => Nat.le_of_eq (by simpa [Value.ownBlock] using hk))
  have HB := Lib.hid hb
  have hl' := below_cell hb hl
  have l0' := below_cell hb l0
  have l1' := below_cell hb l1
  have l2' := below_cell hb l2
  have hL' : L < w1.heap.size := Nat.lt_of_lt_of_le hLl hb.size
  obtain ⟨b8, hb8, c8, f8⟩ := hO.cell (j := 8) (by omega)
  obtain ⟨b9, hb9, c9, f9⟩ := hO.cell (j := 9) (by omega)
  obtain ⟨b10, hb10, c10, f10⟩ := hO.cell (j := 10) (by omega)
  obtain ⟨b11, hb11, c11, f11⟩ := hO.cell (j := 11) (by omega)
  have HO := Lib.hid hO
  clear hown' hgrow hb hl hc l0 l1 l2 hO hLl
  go_wp2_with fail
  refine wp_loop_rounds 2 ?_
  rw [rounds_succ]
  go_wp2_with fail
  obtain ⟨N, hN⟩ : ∃ N, N = w1.heap.size := ⟨_, rfl⟩
  obtain ⟨wl, hwl⟩ : ∃ wl, wl = w1.alloc (.cells #[.int .i64 8, .int .i64 4, .pointer (some ⟨X, 0, none⟩)] 98) := ⟨_, rfl⟩
  have hbl : Below w1.heap.size w1 wl := by rw [hwl]; exact (Below.refl _ _).alloc (Nat.le_refl _) _
  have hnew : wl.heap[N]? = some (.cells #[.int .i64 8, .int .i64 4, .pointer (some ⟨X, 0, none⟩)] 98 (0, 0)) := by rw [hwl, hN]; exact heap_alloc_new w1 _
  have n0 : wl.cell? ⟨N, 0, none⟩ = some (.int .i64 8) := by rw [cell_in hnew]; rfl
  have n1 : wl.cell? ⟨N, 1, none⟩ = some (.int .i64 4) := by rw [cell_in hnew]; rfl
  have n2 : wl.cell? ⟨N, 2, none⟩ = some (.pointer (some ⟨X, 0, none⟩)) := by rw [cell_in hnew]; rfl
  have hO2 := HO.out.later hbl
  obtain ⟨b8, hb8, c8, f8⟩ := hO2.cell (j := 8) (by omega)
  obtain ⟨b9, hb9, c9, f9⟩ := hO2.cell (j := 9) (by omega)
  obtain ⟨b10, hb10, c10, f10⟩ := hO2.cell (j := 10) (by omega)
  obtain ⟨b11, hb11, c11, f11⟩ := hO2.cell (j := 11) (by omega)
  have hgb' : w.heap.size ≤ g' := hgb
  have hgN : g' ≠ N := by omega
  have hgN2 : N ≠ g' := by omega
  rw [← hwl, ← hN]
  have HO2 := Lib.hid hO2
  have HBL := Lib.hid (And.intro (HB.out.trans (hbl.mono HB.out.size)) (And.intro hN (show N < wl.heap.size by rw [hwl, World.size_alloc, hN]; omega)))
  clear hO2 hbl hnew hwl l0' l1' l2' hl' hN
  go_region
  have hq2 := ((((HO2.out.stored 8 0 (by omega)).stored 9 0 (by omega)).stored 10 0 (by omega)).stored 11 12 (by omega)).later (Below.refl _ _).drew
  have hbq : Below w.heap.size w (((((wl.setCell ⟨g', 8, none⟩ (.int .u8 ((0 : Nat) : Nat))).setCell ⟨g', 9, none⟩ (.int .u8 ((0 : Nat) : Nat))).setCell ⟨g', 10, none⟩ (.int .u8 ((0 : Nat) : Nat))).setCell ⟨g', 11, none⟩ (.int .u8 ((12 : Nat) : Nat))).drew) :=
    ((((HBL.out.1.setCell hgb' _).setCell hgb' _).setCell hgb' _).setCell hgb' _).drew
  have hsq : wl.heap.size ≤ (((((wl.setCell ⟨g', 8, none⟩ (.int .u8 ((0 : Nat) : Nat))).setCell ⟨g', 9, none⟩ (.int .u8 ((0 : Nat) : Nat))).setCell ⟨g', 10, none⟩ (.int .u8 ((0 : Nat) : Nat))).setCell ⟨g', 11, none⟩ (.int .u8 ((12 : Nat) : Nat))).drew).heap.size := by simp
  obtain ⟨ws, hws⟩ : ∃ ws, ws = (((((wl.setCell ⟨g', 8, none⟩ (.int .u8 ((0 : Nat) : Nat))).setCell ⟨g', 9, none⟩ (.int .u8 ((0 : Nat) : Nat))).setCell ⟨g', 10, none⟩ (.int .u8 ((0 : Nat) : Nat))).setCell ⟨g', 11, none⟩ (.int .u8 ((12 : Nat) : Nat))).drew) := ⟨_, rfl⟩
  rw [← hws] at hq2 hbq hsq
  have hW := Lib.hid (whole0_any R X m ws hm hm2 (HXX.out.later hbq))
  have HQ := Lib.hid (And.intro hq2 (And.intro hbq (And.intro hsq hws)))
  clear hq2 hbq hsq hws
  go_wp2_with fail
  rw [show (((((wl.setCell ⟨g', 8, none⟩ (.int .u8 0)).setCell ⟨g', 9, none⟩ (.int .u8 0)).setCell ⟨g', 10, none⟩ (.int .u8 0)).setCell ⟨g', 11, none⟩ (.int .u8 12)).drew) = ws from HQ.out.2.2.2.symm]
  refine hW.out.mono ?_
  rintro e w3 ⟨⟨gx, capx, rfl, hbx⟩, hb3⟩
  have hq3 := HQ.out.1.later hb3
  obtain ⟨bx, hx1, hx2, hx3⟩ := hbx
  obtain ⟨bq, hb1', hb2', hb3'⟩ := hq3
  have hrx := own_reads hx3
  have hcx : ∀ j u, (byteCells bx)[j]? = some u → w3.cell? ((⟨gx, 0, none⟩ : Addr).add j) = some u := fun j u hj => by
    rw [Addr.add_lit, Nat.zero_add]
    exact hrx j u hj
  have HCX := Lib.hid hcx
  have HLX := Lib.hid (show (byteCells bx).length = m * 1 by simp [byteCells, hx1])
  have HBX := Lib.hid (And.intro hx1 (And.intro hx2 (And.intro hb1' hb2')))
  have HB3 := Lib.hid hb3
  have hs3 : w.heap.size ≤ w3.heap.size := by have := hb3.size; have := HBL.out.1.size; have := HQ.out.2.2.1; omega
  clear hx1 hx2 hx3 hb1' hb2' hb3 hrx hcx hW c8 c9 c10 c11 f8 f9 f10 f11 n0 n1 n2
  go_wp2_with (at_builtin; go_must (refine wpList_append_own_at _ rfl (.tmp 74) (.tmp 78) 24 rfl (w.heap.size) 5 i0 _ 1 1 Tryz.underlying24 hi hz0 hz1 hz2 rfl (by decide) _ 12 _ rfl hb3' ⟨gx, 0, none⟩ m capx (byteCells bx) rfl HLX.out HCX.out (byteCells_one bx) ?_ ?_ ?_ ?_))
  · unfold maxLen; omega
  · omega
  · omega
  intro v2 w4 hown4 hgrow4 _ _
  obtain ⟨g4, cap4, cur4, rfl, _⟩ := own_form hown4 (by omega)
  have hf : BytesN w.heap.size (12 + m) w4 (.slice (some ⟨g4, 0, none⟩) (12 + m) cap4) := ⟨bq ++ bx, by rw [List.length_append, HBX.out.1, HBX.out.2.2.1], byte_append HBX.out.2.2.2 HBX.out.2.1, by rw [byteCells_append]; exact hown4⟩
  have hb4 : Below w.heap.size w w4 := (HQ.out.2.1.trans (HB3.out.mono (by have := HQ.out.2.1.size; omega))).grown hgrow4 hs3 (fun q hq => by
    have e : q = g' := (Option.some.inj hq).symm
    omega)
  have HF := Lib.hid (And.intro hf hb4)
  clear hf hb4 hown4 hgrow4 hb3'
  go_wp2_with fail
  rw [rounds_succ]
  go_wp2_with fail
  go_ret
  exact ⟨⟨g4, cap4, rfl, HF.out.1⟩, HF.out.2⟩
end Go.Proofs.YtgggpllmgnpngaaGreatDoor.Tb
