/- A record of a pair parsed, walked. -/
import Derived.Test.YtkfgmjcdaggjcaaKpRead
namespace Go.Proofs.Ytkfgmjcdaggjcaa.Kp
open Go Go.RowKit

theorem set_row {w : World} {g j : Nat} {cur : Array Value} {t : TypeId} {x : Value} (h : w.heap[g]? = some (.cells cur t (0, 0))) : (w.setCell ⟨g, j, none⟩ x).heap[g]? = some (.cells (cur.setIfInBounds j x) t (0, 0)) := by
  unfold World.setCell
  have hl : g < w.heap.size := by
    cases hh : w.heap[g]? with
    | none => rw [hh] at h; simp at h
    | some o => exact (Array.getElem?_eq_some_iff.mp hh).1
  have h' : w.heap[g] = .cells cur t (0, 0) := by rw [Array.getElem?_eq_getElem hl] at h; exact Option.some.inj h
  simp [Array.getElem_modify, h', hl]

/-- The first i values written over a record's cells. -/
def over (cur : List Value) (o : Nat) (v : Nat → Value) : Nat → List Value
  | 0 => cur
  | i + 1 => (over cur o v i).set (o + i) (v i)
theorem over_len (cur : List Value) (o : Nat) (v : Nat → Value) : ∀ i, (over cur o v i).length = cur.length
  | 0 => rfl
  | i + 1 => by unfold over; rw [List.length_set, over_len cur o v i]
theorem over_at (cur : List Value) (o : Nat) (v : Nat → Value) (i : Nat) (hi : o + i ≤ cur.length) (j : Nat) : (over cur o v i)[j]? = if o ≤ j ∧ j < o + i then some (v (j - o)) else cur[j]? := by
  induction i with
  | zero => rw [if_neg (by omega)]; rfl
  | succ i ih =>
    unfold over
    by_cases e : j = o + i
    · subst e
      rw [List.getElem?_set_self (by rw [over_len]; omega), if_pos (by omega), Nat.add_sub_cancel_left]
    · rw [List.getElem?_set_ne (by omega), ih (by omega)]
      by_cases h : o ≤ j ∧ j < o + i
      · rw [if_pos h, if_pos (by omega)]
      · rw [if_neg h, if_neg (by omega)]

structure Parsing (G o : Nat) (cur : List Value) (v : Nat → Value) (i : Nat) (w W : World) : Prop where
  row : W.heap[G]? = some (.cells (over cur o v i).toArray 137 (0, 0))
  kept : Kept (fun k => k = G) w W

theorem Parsing.cell {G o : Nat} {cur : List Value} {v : Nat → Value} {i : Nat} {w W : World} (h : Parsing G o cur v i w W) (ho : o + 3 ≤ cur.length) (hi : i < 3) : (∃ u, W.cell? ⟨G, o + i, none⟩ = some u) ∧ W.frozen? ⟨G, o + i, none⟩ = false := by
  refine ⟨?_, frozen_in h.row⟩
  have hl := over_len cur o v i
  refine ⟨(over cur o v i)[o + i]'(by omega), ?_⟩
  rw [cell_in h.row]
  simp
theorem Parsing.next {G o p : Nat} {cur : List Value} {v : Nat → Value} {i : Nat} {w W W1 : World} {x : Value} (h : Parsing G o cur v i w W) (hG : G < w.heap.size) (hb : Below W.drew.heap.size W.drew W1) (hx : x = v i) (hp : p = o + i) : Parsing G o cur v (i + 1) w (W1.setCell ⟨G, p, none⟩ x) := by
  subst hx hp
  have hs := h.kept.size
  have hr : W1.heap[G]? = some (.cells (over cur o v i).toArray 137 (0, 0)) := (hb.block G (by show G < W.heap.size; omega)).trans h.row
  refine ⟨?_, ?_⟩
  · have := set_row (j := o + i) (x := v i) hr
    rw [this]
    simp [over]
  · have k1 : Kept (fun k => k = G) W (W1.setCell ⟨G, o + i, none⟩ (v i)) := by
      refine ⟨hb.os, hb.tape, hb.output, by rw [World.size_setCell]; exact hb.size, fun q hq hn => ?_⟩
      rw [Below.heap_setCell _ _ _ _ hn]
      exact hb.block q hq
    exact h.kept.trans k1 (fun q _ e => e)
theorem Parsing.byte {G o g a x : Nat} {cur : List Value} {v : Nat → Value} {i : Nat} {w W : World} (h : Parsing G o cur v i w W) (hGg : G ≠ g) (hc : w.cell? ⟨g, a, none⟩ = some (.int .u8 (x : Nat))) : W.cell? ⟨g, a, none⟩ = some (.int .u8 (x : Nat)) := by
  rw [← hc]
  exact World.cell?_of_block (w := w) (h.kept.block g (World.block_lt_of_cell? w _ hc) (fun e => hGg e.symm))

/-- A triple's cells as parsed. -/
def triVal (t : Tri) (i : Nat) : Value := if i = 0 then .int .u16 (t.a : Nat) else if i = 1 then .int .u16 (t.b : Nat) else .int .i16 t.v

theorem i16_back (v : Int) (h0 : -32768 ≤ v) (h1 : v ≤ 32767) : IntKind.i16.wrap (((v / 256 % 256).toNat * 256 + (v % 256).toNat : Nat) : Int) = v := by
  simp [IntKind.wrap, IntKind.bits, IntKind.signed]
  omega

set_option maxRecDepth 100000 in
set_option maxHeartbeats 4000000 in
theorem must_any (G o g off n cap : Nat) (t : Tri) (cur : List Value) (w : World) (hn : 6 ≤ n) (hcm : n ≤ cap) (_hcap : cap ≤ 9223372036854775807) (hG : G < w.heap.size) (hGg : G ≠ g) (ht : t.Ok) (h : ∀ j x, (shorts [(t.a : Int), (t.b : Int), t.v])[j]? = some x → w.cell? ⟨g, off + j, none⟩ = some (.int .u8 (x : Nat)))
    (ho : o + 3 ≤ cur.length) (hrow : w.heap[G]? = some (.cells cur.toArray 137 (0, 0))) :
    Calls Try.prog 34 #[.pointer (some ⟨G, o, none⟩), .slice (some ⟨g, off, none⟩) n cap] w fun e w' => e = .returned (.tuple #[]) ∧ Parsing G o cur (triVal t) 3 w w' := by
  have HP0 : Hid (Parsing G o cur (triVal t) 0 w w) := ⟨hrow, Kept.refl _ _⟩
  have H := Lib.hid h
  have c5 := h 5 (t.v % 256).toNat rfl
  have h1 := ht.a
  have h2 := ht.b
  have h3 := ht.lo
  have h4 := ht.hi
  have n5 : (5 : Int) < n := by omega
  have q0 : (0 : Int) ≤ n := by omega
  have q2 : (2 : Int) ≤ n := by omega
  have q4 : (4 : Int) ≤ n := by omega
  have z2 : ¬ cap = 2 := by omega
  have z4 : ¬ cap = 4 := by omega
  have HB := Lib.hid (i16_back t.v h3 h4)
  clear h hrow ht
  go_enter Try.func34, Try.ntmps34
  go_upto_region 1 with fail
  go_cut [] (fun W => Parsing G o cur (triVal t) 1 w W)
  case first =>
    obtain ⟨⟨u, hu⟩, hf⟩ := HP0.out.cell ho (i := 0) (by omega)
    have k0 : w.cell? ⟨g, off, none⟩ = some (.int .u8 (((t.a : Int) / 256 % 256).toNat : Nat)) := HP0.out.byte hGg (H.out 0 _ rfl)
    have k1 : w.cell? ⟨g, off + 1, none⟩ = some (.int .u8 (((t.a : Int) % 256).toNat : Nat)) := HP0.out.byte hGg (H.out 1 _ rfl)
    have hC := Lib.hid (half_any g (off) (n) (cap) _ _ w.drew (by omega) (by omega) (by omega) k0 k1)
    rw [show ((t.a : Int) / 256 % 256).toNat * 256 + ((t.a : Int) % 256).toNat = t.a by omega] at hC
    have hgw : G < w.heap.size := Nat.lt_of_lt_of_le hG HP0.out.kept.size
    clear k0 k1
    go_region_with (go_at_call 19; refine hC.out.mono ?_; rintro e w1 ⟨rfl, hb1⟩; have z0 := (hb1.cell (p := ⟨G, o, none⟩) hgw).trans hu; have z1 := (hb1.frozen (p := ⟨G, o, none⟩) hgw).trans hf)
    all_goals
      go_wp2_with fail
      go_meet
    all_goals exact HP0.out.next hG hb1 rfl (by omega)
  case rest =>
  have HP1 := Lib.hid hcut
  obtain ⟨W1, rfl⟩ : ∃ W : World, W = wc := ⟨_, rfl⟩
  clear hcut
  go_upto_region 2 with fail
  go_cut [] (fun W => Parsing G o cur (triVal t) 2 w W)
  case first =>
    obtain ⟨⟨u, hu⟩, hf⟩ := HP1.out.cell ho (i := 1) (by omega)
    have k0 : W1.cell? ⟨g, off + 2, none⟩ = some (.int .u8 (((t.b : Int) / 256 % 256).toNat : Nat)) := HP1.out.byte hGg (H.out 2 _ rfl)
    have k1 : W1.cell? ⟨g, off + 2 + 1, none⟩ = some (.int .u8 (((t.b : Int) % 256).toNat : Nat)) := HP1.out.byte hGg (H.out 3 _ rfl)
    have hC := Lib.hid (half_any g (off + 2) (n - 2) (cap - 2) _ _ W1.drew (by omega) (by omega) (by omega) k0 k1)
    rw [show ((t.b : Int) / 256 % 256).toNat * 256 + ((t.b : Int) % 256).toNat = t.b by omega] at hC
    have hgw : G < W1.heap.size := Nat.lt_of_lt_of_le hG HP1.out.kept.size
    clear k0 k1
    go_region_with (go_at_call 19; refine hC.out.mono ?_; rintro e w1 ⟨rfl, hb1⟩; have z0 := (hb1.cell (p := ⟨G, o + 1, none⟩) hgw).trans hu; have z1 := (hb1.frozen (p := ⟨G, o + 1, none⟩) hgw).trans hf)
    all_goals
      go_wp2_with fail
      go_meet
    all_goals exact HP1.out.next hG hb1 rfl (by omega)
  case rest =>
  have HP2 := Lib.hid hcut
  obtain ⟨W2, rfl⟩ : ∃ W : World, W = wc := ⟨_, rfl⟩
  clear hcut
  go_upto_region 3 with fail
  obtain ⟨⟨u, hu⟩, hf⟩ := HP2.out.cell ho (i := 2) (by omega)
  have k0 : W2.cell? ⟨g, off + 4, none⟩ = some (.int .u8 ((t.v / 256 % 256).toNat : Nat)) := HP2.out.byte hGg (H.out 4 _ rfl)
  have k1 : W2.cell? ⟨g, off + 4 + 1, none⟩ = some (.int .u8 ((t.v % 256).toNat : Nat)) := HP2.out.byte hGg (H.out 5 _ rfl)
  have hC := Lib.hid (half_any g (off + 4) (n - 4) (cap - 4) _ _ W2.drew (by omega) (by omega) (by omega) k0 k1)
  have hgw : G < W2.heap.size := Nat.lt_of_lt_of_le hG HP2.out.kept.size
  obtain ⟨p, hp⟩ : ∃ p, p = (t.v / 256 % 256).toNat * 256 + (t.v % 256).toNat := ⟨_, rfl⟩
  have HBB := HB.out
  rw [← hp] at hC HBB
  clear k0 k1 hp c5
  go_region_with (go_at_call 19; refine hC.out.mono ?_; rintro e w1 ⟨rfl, hb1⟩; have z0 := (hb1.cell (p := ⟨G, o + 2, none⟩) hgw).trans hu; have z1 := (hb1.frozen (p := ⟨G, o + 2, none⟩) hgw).trans hf)
  all_goals
    go_wp2_with fail
    go_end0
    exact ⟨rfl, HP2.out.next hG hb1 (by show Value.int .i16 _ = Value.int .i16 t.v; rw [← HBB]) (by omega)⟩
end Go.Proofs.Ytkfgmjcdaggjcaa.Kp
