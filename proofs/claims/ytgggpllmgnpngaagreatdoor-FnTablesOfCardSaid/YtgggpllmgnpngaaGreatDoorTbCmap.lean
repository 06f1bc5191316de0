/- An empty character map, walked. -/
import Derived.Test.YtgggpllmgnpngaaGreatDoorTbWhole
namespace Go.Proofs.YtgggpllmgnpngaaGreatDoor.Tb
open Go Go.RowKit

theorem Tab.keptS {T base : Nat} {bs : List Nat} {lv v : Value} {S : Nat → Prop} {w w' : World} (h : Tab T base bs lv w v) (k : Kept S w w') (h1 : ¬ S T) (h2 : ∀ q, v.ownBlock = some q → ¬ S q) : Tab T base bs lv w' v := by
  have hs := h.size
  have hl := h.low
  have hb := k.block T (by omega) h1
  exact ⟨(World.cell?_of_block hb).trans h.cell, (World.cell?_of_block hb).trans h.link, (World.frozen?_of_block hb).trans h.free, (World.frozen?_of_block hb).trans h.free1, k.own h.own h2, h.low, Nat.le_trans h.size k.size⟩

/-- Two tables, apart. -/
def Both (T n X m : Nat) (w0 W : World) : Prop := w0.heap.size ≤ T ∧ T < X ∧ ∃ v bs vx bx, bs.length = n ∧ (∀ b ∈ bs, b < 256) ∧ Tab T (T + 1) bs (.slice none 0 0) W v ∧ bx.length = m ∧ (∀ b ∈ bx, b < 256) ∧ Tab X (X + 1) bx (.slice none 0 0) W vx ∧ (∀ q, v.ownBlock = some q → q ≠ X ∧ vx.ownBlock ≠ some q) ∧ Below w0.heap.size w0 W
theorem both_mk {T n X m : Nat} {w1 w3 w4 : World} (ht : TabN T n w1 w3) (hx : TabN X m w3 w4) : Both T n X m w1 w4 := by
  obtain ⟨h0, v, bs, h1, h2, h3, h4⟩ := ht
  obtain ⟨k0, vx, bx, k1, k2, k3, k4⟩ := hx
  have hT : T < w3.heap.size := h3.size
  refine ⟨h0, by omega, v, bs, vx, bx, h1, h2, h3.later k4, k1, k2, k3, fun q hq => ?_, h4.trans (k4.mono h4.size)⟩
  have h5 := (h3.own.lt q hq).2
  exact ⟨by omega, fun h => by have := (k3.own.lt q h).1; omega⟩
theorem Both.later {T n X m : Nat} {w0 W W' : World} (h : Both T n X m w0 W) (k : Below W.heap.size W W') : Both T n X m w0 W' := by
  obtain ⟨h0, h1, v, bs, vx, bx, a1, a2, a3, b1, b2, b3, c1, c2⟩ := h
  exact ⟨h0, h1, v, bs, vx, bx, a1, a2, a3.later k, b1, b2, b3.later k, c1, c2.trans (k.mono c2.size)⟩

theorem short_b (T n X m k : Nat) (w0 w : World) (cs : List Value) (vals : List Int) (hcs : cs = vals.map fun x => .int .i64 x) (hk : vals.length = k) (hk3 : k ≤ 20) (hvals : ∀ x ∈ vals, -1000000000000 < x ∧ x < 1000000000000) (hn : n ≤ 90000) (ht : Both T n X m w0 w) :
    Calls Tryz.prog 16 #[.pointer (some ⟨T, 0, none⟩), .slice (some ⟨w.heap.size, 0, none⟩) k k] (w.alloc (.cells cs.toArray 3)) fun e w' => e = .returned (.pointer (some ⟨T, 0, none⟩)) ∧ Both T (n + 2 * k) X m w0 w' := by
  subst hcs
  have hb : Below w.heap.size w (w.alloc (.cells (vals.map fun x => Value.int .i64 x).toArray 3)) := (Below.refl _ _).alloc (Nat.le_refl _) _
  obtain ⟨h0, h1, v, bs, vx, bx, a1, a2, a3, b1, b2, b3, c1, c2⟩ := ht
  have hXw : X < w.heap.size := b3.size
  refine (short_any T (T + 1) k bs vals (.slice none 0 0) v _ _ hk hk3 hvals (by omega) (a3.later hb) (row_new _ w _ 3 k (fun h => by have := a3.mine _ h; omega) (by simpa using hk) (by omega))).mono ?_
  rintro e w' ⟨rfl, v', hw⟩
  refine ⟨rfl, h0, h1, v', bs ++ shorts vals, vx, bx, by rw [List.length_append, shorts_len, a1, hk], byte_append a2 (shorts_byte _), hw.tab, b1, b2, (b3.later hb).keptS hw.kept (fun h => ?_) (fun q hq h => ?_), fun q hq => ?_, ?_⟩
  · rcases h with h | h
    · omega
    · exact (c1 X h.symm).1 rfl
  · have := (b3.own.lt q hq).1
    rcases h with h | h
    · omega
    · exact (c1 q h.symm).2 hq
  · rcases hw.born with h | ⟨p, h, hp⟩
    · exact c1 q (by rw [← h]; exact hq)
    · rw [h] at hq
      obtain rfl := Option.some.inj hq
      rw [World.size_alloc] at hp
      exact ⟨by omega, fun h2 => by have := (b3.own.lt p h2).2; omega⟩
  · exact hw.kept.below (c2.alloc c2.size _) (by have := c2.size; rw [World.size_alloc]; omega) (fun q hq h => by
      rcases h with h | h
      · omega
      · have := (a3.own.lt q h.symm).1; omega)

/-- A linked table, its part, and the blocks that are theirs. -/
def LinkG (T X m : Nat) (F : Nat → Prop) (w : World) : Prop := ∃ v bs L cap vx bx, bs.length = 12 ∧ (∀ b ∈ bs, b < 256) ∧ Tab T (T + 1) bs (.slice (some ⟨L, 0, none⟩) 1 cap) w v ∧ L < w.heap.size ∧
    w.cell? ⟨L, 0, none⟩ = some (.int .i64 8) ∧ w.cell? ⟨L, 1, none⟩ = some (.int .i64 4) ∧ w.cell? ⟨L, 2, none⟩ = some (.pointer (some ⟨X, 0, none⟩)) ∧
    bx.length = m ∧ (∀ b ∈ bx, b < 256) ∧ Tab X (X + 1) bx (.slice none 0 0) w vx ∧ ∀ b, F b ↔ (b = T ∨ v.ownBlock = some b ∨ b = L ∨ b = X ∨ vx.ownBlock = some b)
theorem LinkG.plain {T X m : Nat} {F : Nat → Prop} {w : World} (h : LinkG T X m F w) : Linked T 12 X m w := by
  obtain ⟨v, bs, L, cap, vx, bx, h1, h2, h3, h4, h5, h6, h7, h8, h9, h10, _⟩ := h
  exact ⟨v, bs, L, cap, h1, h2, h3, h4, h5, h6, h7, vx, bx, h8, h9, h10⟩
theorem LinkG.lt {T X m : Nat} {F : Nat → Prop} {w : World} (h : LinkG T X m F w) : ∀ b, F b → b < w.heap.size := fun b hb => by
  obtain ⟨v, bs, L, cap, vx, bx, h1, h2, h3, h4, h5, h6, h7, h8, h9, h10, h11⟩ := h
  rcases (h11 b).1 hb with rfl | h | rfl | rfl | h
  · exact h3.size
  · exact (h3.own.lt b h).2
  · exact h4
  · exact h10.size
  · exact (h10.own.lt b h).2
theorem LinkG.keep {T X m : Nat} {F : Nat → Prop} {w w' : World} (h : LinkG T X m F w) (hs : w.heap.size ≤ w'.heap.size) (hb : ∀ b, F b → w'.heap[b]? = w.heap[b]?) : LinkG T X m F w' := by
  obtain ⟨v, bs, L, cap, vx, bx, h1, h2, h3, h4, h5, h6, h7, h8, h9, h10, h11⟩ := h
  have hT := hb T ((h11 T).2 (Or.inl rfl))
  have hL := hb L ((h11 L).2 (Or.inr (Or.inr (Or.inl rfl))))
  have hX := hb X ((h11 X).2 (Or.inr (Or.inr (Or.inr (Or.inl rfl)))))
  exact ⟨v, bs, L, cap, vx, bx, h1, h2,
    ⟨(World.cell?_of_block hT).trans h3.cell, (World.cell?_of_block hT).trans h3.link, (World.frozen?_of_block hT).trans h3.free, (World.frozen?_of_block hT).trans h3.free1, own_block h3.own (fun q hq => hb q ((h11 q).2 (Or.inr (Or.inl hq)))), h3.low, Nat.le_trans h3.size hs⟩,
    Nat.lt_of_lt_of_le h4 hs, (World.cell?_of_block hL).trans h5, (World.cell?_of_block hL).trans h6, (World.cell?_of_block hL).trans h7, h8, h9,
    ⟨(World.cell?_of_block hX).trans h10.cell, (World.cell?_of_block hX).trans h10.link, (World.frozen?_of_block hX).trans h10.free, (World.frozen?_of_block hX).trans h10.free1, own_block h10.own (fun q hq => hb q ((h11 q).2 (Or.inr (Or.inr (Or.inr (Or.inr hq)))))), h10.low, Nat.le_trans h10.size hs⟩, h11⟩

theorem far_b (T X m : Nat) (w1 w4 : World) (ht : Both T 8 X m w1 w4) :
    Calls Tryz.prog 35 #[.pointer (some ⟨T, 0, none⟩), .pointer (some ⟨X, 0, none⟩)] w4 fun e w5 => e = .returned (.pointer (some ⟨T, 0, none⟩)) ∧ (∃ F, LinkG T X m F w5 ∧ ∀ b, F b → w1.heap.size ≤ b) ∧ Below w1.heap.size w1 w5 := by
  obtain ⟨h0, h1, v, bs, vx, bx, a1, a2, a3, b1, b2, b3, c1, c2⟩ := ht
  refine (far_any T X bs v w4 (by omega) a3).mono ?_
  rintro e w5 ⟨rfl, v', L, cap, f1, f2, f3, f4, f5, f6, f7⟩
  have hsz := c2.size
  have f4' : w5.cell? ⟨L, 0, none⟩ = some (.int .i64 8) := by rw [f4, a1]; rfl
  have hX : Tab X (X + 1) bx (.slice none 0 0) w5 vx := by
    refine b3.keptS f7 (fun h => ?_) (fun q hq h => ?_)
    · rcases h with h | h
      · omega
      · exact (c1 X h.symm).1 rfl
    · have := (b3.own.lt q hq).1
      rcases h with h | h
      · omega
      · exact (c1 q h.symm).2 hq
  refine ⟨rfl, ⟨_, ⟨v', bs ++ shorts [0, 0], L, cap, vx, bx, by rw [List.length_append, shorts_len, a1]; rfl, byte_append a2 (shorts_byte _), f1, f3, f4', f5, f6, b1, b2, hX, fun b => Iff.rfl⟩, fun b hb => ?_⟩, ?_⟩
  · rcases hb with rfl | h | rfl | rfl | h
    · exact h0
    · have := (f1.own.lt b h).1; omega
    · omega
    · omega
    · have := (hX.own.lt b h).1; omega
  · exact f7.below c2 c2.size (fun q hq h => by
      rcases h with h | h
      · omega
      · have := (a3.own.lt q h.symm).1; omega)

def Cmaps (R : Nat) (A : Option Addr) (n cap : Nat) (w : World) (e : Ending) (w' : World) : Prop :=
  ∃ T X m, e = .returned (.pointer (some ⟨T, 0, none⟩)) ∧ 0 < m ∧ m ≤ 24 ∧ (∃ F, LinkG T X m F w' ∧ ∀ b, F b → w.heap.size ≤ b) ∧ (∃ c', c' ≤ 1 ∧ Writer R A n cap c' w') ∧ Kept (fun k => k = R) w w'

theorem cmaps_mk {R T X m n cap : Nat} {A : Option Addr} {w w1 w2 : World} (h : Chose R A n cap 0 w w1) (hl : ∃ F, LinkG T X m F w2 ∧ ∀ b, F b → w1.heap.size ≤ b) (hb : Below w1.heap.size w1 w2) (h0 : 0 < m) (h24 : m ≤ 24) : Cmaps R A n cap w (.returned (.pointer (some ⟨T, 0, none⟩))) w2 := by
  obtain ⟨c', hc, hw⟩ := h.writer
  obtain ⟨F, l1, l2⟩ := hl
  exact ⟨T, X, m, rfl, h0, h24, ⟨F, l1, fun b hb => Nat.le_trans h.kept.size (l2 b hb)⟩, ⟨c', hc, hw.later hb⟩, h.kept.trans (kept_of_below hb) (fun _ _ h => h.elim)⟩

set_option maxRecDepth 1000000 in
set_option maxHeartbeats 4000000 in
theorem cmap_any (R : Nat) (A : Option Addr) (n cap : Nat) (w : World) (hn : n ≤ 2147483647) (hw : Writer R A n cap 0 w) (hA : InU8 w A n) : Calls Tryz.prog 15 #[.pointer (some ⟨R, 0, none⟩), .slice none 0 0] w (Cmaps R A n cap w) := by
  have hW := Lib.hid (way_any R A n cap 0 w hn (by omega) hw hA)
  clear hw hA
  go_enter Tryz.func15, Tryz.ntmps15
  go_wp2_with fail
  refine hW.out.mono ?_
  rintro e w1 ⟨⟨r, rfl⟩, hch⟩
  have HCH := Lib.hid hch
  have hS1 := Lib.hid (short_n w1.heap.size 0 2 w1 _ [.int .i64 0, .int .i64 1] [0, 1] rfl rfl (by omega) (by intro y hy; simp at hy; omega) (by omega) (tabn_start w1 (Below.refl _ _)))
  rw [World.size_alloc] at hS1
  clear hch hW
  by_cases hr : r = 1
  · subst hr
    go_wp2_with fail
    refine wp_loop_rounds 1 ?_
    rw [rounds_succ]
    go_wp2_with fail
    refine hS1.out.mono ?_
    rintro e w2 ⟨rfl, ht⟩
    have HT := Lib.hid ht
    have hS2 := Lib.hid (short_n w2.heap.size 0 2 w2 _ [.int .i64 12, .int .i64 0] [12, 0] rfl rfl (by omega) (by intro y hy; simp at hy; omega) (by omega) (tabn_start w2 (Below.refl _ _)))
    rw [World.size_alloc] at hS2
    clear ht hS1
    go_wp2_with fail
    refine hS2.out.mono ?_
    rintro e w3 ⟨rfl, ht⟩
    have hL1 := Lib.hid (long_n _ _ _ w3 16 (by omega) (by omega) (by omega) ht)
    clear ht hS2
    go_wp2_with fail
    refine hL1.out.mono ?_
    rintro e w4 ⟨rfl, ht⟩
    have hL2 := Lib.hid (long_n _ _ _ w4 0 (by omega) (by omega) (by omega) ht)
    clear ht hL1
    go_wp2_with fail
    refine hL2.out.mono ?_
    rintro e w5 ⟨rfl, ht⟩
    have hL3 := Lib.hid (long_n _ _ _ w5 0 (by omega) (by omega) (by omega) ht)
    clear ht hL2
    go_wp2_with fail
    refine hL3.out.mono ?_
    rintro e w6 ⟨rfl, hx⟩
    have hS3 := Lib.hid (short_b _ _ _ _ 2 w1 w6 [.int .i64 3, .int .i64 10] [3, 10] rfl rfl (by omega) (by intro y hy; simp at hy; omega) (by omega) (both_mk HT.out hx))
    clear hx hL3
    go_wp2_with fail
    refine wp_loop_rounds 1 ?_
    rw [rounds_succ]
    go_wp2_with fail
    refine hS3.out.mono ?_
    rintro e w7 ⟨rfl, hbo⟩
    have hF := Lib.hid (far_b _ _ _ w1 w7 hbo)
    clear hbo hS3
    go_wp2_with fail
    refine hF.out.mono ?_
    rintro e w8 ⟨rfl, hl, hb⟩
    have HP := Lib.hid (cmaps_mk HCH.out hl hb (by omega) (by omega))
    clear hl hb hF
    go_wp2_with fail
    go_ret
    exact HP.out
  · have hr1 : (r == 1) = false := by rw [beq_eq_false_iff_ne]; exact hr
    go_wp2_with fail
    refine wp_loop_rounds 1 ?_
    rw [rounds_succ]
    go_wp2_with fail
    refine hS1.out.mono ?_
    rintro e w2 ⟨rfl, ht⟩
    have hS2 := Lib.hid (short_n _ _ 2 w1 w2 [.int .i64 3, .int .i64 1] [3, 1] rfl rfl (by omega) (by intro y hy; simp at hy; omega) (by omega) ht)
    clear ht hS1
    go_wp2_with fail
    refine hS2.out.mono ?_
    rintro e w3 ⟨rfl, ht⟩
    have HT := Lib.hid ht
    clear ht hS2
    go_wp2_with fail
    refine (cmap4_any R w3).mono ?_
    rintro e w4 ⟨X, rfl, hx⟩
    have hF := Lib.hid (far_b _ X 24 w1 w4 (both_mk HT.out hx))
    clear hx
    go_wp2_with fail
    refine hF.out.mono ?_
    rintro e w5 ⟨rfl, hl, hb⟩
    have HP := Lib.hid (cmaps_mk HCH.out hl hb (by omega) (by omega))
    clear hl hb hF
    go_wp2_with fail
    go_ret
    exact HP.out
end Go.Proofs.YtgggpllmgnpngaaGreatDoor.Tb
