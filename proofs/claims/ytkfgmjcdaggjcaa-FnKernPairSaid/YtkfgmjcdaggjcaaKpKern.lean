/- A table of kerning parsed, walked. -/
import Derived.Test.YtkfgmjcdaggjcaaKpHead
namespace Go.Proofs.Ytkfgmjcdaggjcaa.Kp
open Go Go.RowKit

def noneK : List Value := [.int .u16 0, .slice none 0 0]
def Kerned (n : Nat) (l : List Tri) (w : World) (e : Ending) (w' : World) : Prop :=
  ∃ (T G L h1 h2 h3 : Nat) (i : Int), e = .returned (.tuple #[.agg #[.int .u16 0, .slice (some ⟨T, 0, none⟩) 1 1], .int .i64 i, .nilIface]) ∧ T < w'.heap.size ∧ w'.cell? ⟨T, 0, none⟩ = some (.iface 77 (headVal L n h1 h2 h3 G)) ∧ G < w'.heap.size ∧ PairsAt w' G l ∧ Below w.heap.size w w'

set_option maxRecDepth 1000000 in
set_option maxHeartbeats 4000000 in
theorem kern_any (g N cap n : Nat) (l : List Tri) (s1 s2 s3 : Int) (w : World) (hl : l.length = n) (hN : N = 18 + 6 * n) (h0 : 0 < n) (hn60 : n ≤ 60) (hcap : N ≤ cap) (hcm : cap ≤ 9223372036854775807) (hg : g < w.heap.size) (hok : ∀ x ∈ l, Tri.Ok x) (hr : Reads w g 0 ([0, 1, 0, 14 + 6 * (n : Int), 1, (n : Int), s1, s2, s3] ++ nums l)) :
    Calls Try.prog 15 #[.slice (some ⟨g, 0, none⟩) N cap] w (Kerned n l w) := by
  have HL := Lib.hid hl
  have HN := Lib.hid hN
  have HOK := Lib.hid hok
  have HR := Lib.hid hr
  have hN18 : 18 ≤ N := by omega
  have hN400 : N ≤ 400 := by omega
  have hl2 : decide ((N : Int) < 4) = false := decide_eq_false (by omega)
  have q2 : (2 : Int) ≤ N := by omega
  have q4 : (4 : Int) ≤ N := by omega
  have z2 : ¬ cap = 2 := by omega
  have z4 : ¬ cap = 4 := by omega
  obtain ⟨W0, hW0⟩ : ∃ W0, W0 = w.alloc (.cells noneK.toArray 62) := ⟨_, rfl⟩
  have hb0 : Below w.heap.size w W0 := by subst hW0; exact (Below.refl _ _).alloc (Nat.le_refl _) _
  have hrow0 : W0.heap[w.heap.size]? = some (.cells noneK.toArray 62 (0, 0)) := by subst hW0; exact heap_alloc_new w _
  have hs0 : W0.heap.size = w.heap.size + 1 := by subst hW0; simp
  have k := hr.two (j := 0) (x := 0) rfl
  have k0 : W0.cell? ⟨g, 0, none⟩ = some (.int .u8 (0 : Nat)) := (hb0.cell hg).trans k.1
  have k1 : W0.cell? ⟨g, 0 + 1, none⟩ = some (.int .u8 (0 : Nat)) := (hb0.cell hg).trans k.2
  have hC := Lib.hid (half_any g 0 N cap 0 0 W0 (by omega) (by omega) (by omega) k0 k1)
  have HB0 := Lib.hid hb0
  have HROW0 := Lib.hid hrow0
  have HS0 := Lib.hid hs0
  rw [hW0] at hC
  have HW0 := Lib.hid hW0
  clear hl hN hok hr k k0 k1 hb0 hrow0 hs0 hW0
  go_enter Try.func15, Try.ntmps15
  go_wp2_with fail
  refine hC.out.mono ?_
  rintro e w1 ⟨rfl, hb1⟩
  rw [← HW0.out] at hb1
  have HB1 := Lib.hid (HB0.out.trans (hb1.mono HB0.out.size))
  have HROW1 := Lib.hid ((hb1.block _ (by have := HS0.out; omega)).trans HROW0.out)
  have hs1 : w.heap.size + 1 ≤ w1.heap.size := by have := hb1.size; have := HS0.out; omega
  clear hb1
  go_upto_region 9 with fail
  go_cut [6] (fun v W => v = .int .u32 1 ∧ Below w1.heap.size w1 W)
  case first =>
    have k := HR.out.two (j := 1) (x := 1) rfl
    have k0 : w1.cell? ⟨g, 2, none⟩ = some (.int .u8 (0 : Nat)) := (HB1.out.cell hg).trans k.1
    have k1 : w1.cell? ⟨g, 2 + 1, none⟩ = some (.int .u8 (1 : Nat)) := (HB1.out.cell hg).trans k.2
    have hC2 := Lib.hid (half_any g 2 (N - 2) (cap - 2) 0 1 w1.drew (by omega) (by omega) (by omega) k0 k1)
    clear k k0 k1
    go_region_with (go_at_call 19; refine hC2.out.mono ?_; rintro e w2 ⟨rfl, hb2⟩)
    all_goals
      go_wp2_with fail
      go_meet
    all_goals exact ⟨rfl, (Below.refl _ _).drew.trans hb2⟩
  case rest =>
  obtain ⟨rfl, hb2⟩ := hcut
  obtain ⟨W2, rfl⟩ : ∃ W : World, W = wc := ⟨_, rfl⟩
  have hs2 : w.heap.size + 1 ≤ W2.heap.size := Nat.le_trans hs1 hb2.size
  have HB2 := Lib.hid (HB1.out.trans (hb2.mono HB1.out.size))
  have HROW2 := Lib.hid ((hb2.block _ (by omega)).trans HROW1.out)
  clear hb2
  have hmk : ∀ u : World, (Instr.makeSlice 60 (.int .u32 1) (.int .u32 1)).run Try.prog u = .ok (.slice (some ⟨u.heap.size, 0, none⟩) 1 1) (u.alloc (.cells #[.nilIface] 81)) := fun _ => by kernel_rfl
  go_wp2_with fail
  refine wp_loop_rounds 2 ?_
  rw [rounds_succ]
  obtain ⟨W3, hW3⟩ : ∃ W3, W3 = W2.alloc (.cells #[.nilIface] 81) := ⟨_, rfl⟩
  have hb3 : Below W2.heap.size W2 W3 := by subst hW3; exact (Below.refl _ _).alloc (Nat.le_refl _) _
  have hT3 : W3.heap[W2.heap.size]? = some (.cells #[.nilIface] 81 (0, 0)) := by subst hW3; exact heap_alloc_new W2 _
  have hs3 : W3.heap.size = W2.heap.size + 1 := by subst hW3; simp
  have HB3 := Lib.hid (HB2.out.trans (hb3.mono HB2.out.size))
  have HROW3 := Lib.hid ((hb3.block _ (by omega)).trans HROW2.out)
  have HT3 := Lib.hid hT3
  obtain ⟨T, hTT⟩ : ∃ T, T = W2.heap.size := ⟨_, rfl⟩
  rw [← hTT] at HT3 hs3 ⊢
  have hrd : Reads W3 g 4 ([0, 14 + 6 * (n : Int), 1, (n : Int), s1, s2, s3] ++ nums l) := by
    intro j x hj
    have e : shorts ([0, 1, 0, 14 + 6 * (n : Int), 1, (n : Int), s1, s2, s3] ++ nums l) = shorts [0, 1] ++ shorts ([0, 14 + 6 * (n : Int), 1, (n : Int), s1, s2, s3] ++ nums l) := by
      rw [← shorts_append]
      rfl
    have h6 : (shorts [0, 1]).length = 4 := rfl
    have := HR.out (4 + j) x (by rw [e, List.getElem?_append_right (by omega), h6, Nat.add_sub_cancel_left]; exact hj)
    rw [Nat.zero_add] at this
    rw [← this]
    exact HB3.out.cell hg
  have hP := Lib.hid (head_any g 4 (N - 4) (cap - 4) n l s1 s2 s3 W3 HL.out (by have := HN.out; omega) h0 hn60 (by omega) (by omega) (Nat.lt_of_lt_of_le hg HB3.out.size) HOK.out hrd)
  have hgT : w.heap.size < T := by omega
  have q5 : (0 : Int) ≤ ((N - 4 : Nat) : Int) := by omega
  have z5 : ¬ cap - 4 = 0 := by omega
  have HTT := Lib.hid hTT
  have HW3 := Lib.hid hW3
  clear hb3 hT3 hrd hTT hmk
  change Code.wp _ _ _ _ (W2.alloc (.cells #[.nilIface] 81))
  rw [← hW3]
  clear hW3
  go_wp2_with fail
  refine hP.out.mono ?_
  rintro e w4 ⟨G, h1, h2, h3, i, rfl, hG, hpairs, hb4⟩
  have hT4 : w4.heap[T]? = some (.cells #[.nilIface] 81 (0, 0)) := (hb4.block T (by omega)).trans HT3.out
  have m0 : w4.cell? ⟨T, 0, none⟩ = some .nilIface := by rw [cell_in hT4]; rfl
  have mf : w4.frozen? ⟨T, 0, none⟩ = false := frozen_in hT4
  have HROW4 := Lib.hid ((hb4.block _ (by omega)).trans HROW3.out)
  have HB4 := Lib.hid (HB3.out.trans (hb4.mono HB3.out.size))
  have HT4 := Lib.hid hT4
  have hGT : G ≠ T := by
    intro e
    have h6 := hpairs 0 _ 2 (List.getElem?_eq_getElem (by have := HL.out; omega)) (by omega)
    rw [e, Nat.zero_mul, cell_in hT4] at h6
    simp at h6
  have HG := Lib.hid (And.intro hG hpairs)
  have hT4s : T < w4.heap.size := (Array.getElem?_eq_some_iff.1 hT4).1
  obtain ⟨hv, hhv⟩ : ∃ hv, hv = headVal (N - 4) n h1 h2 h3 G := ⟨_, rfl⟩
  rw [← hhv]
  have HHV := Lib.hid hhv
  clear hT4 hG hpairs hb4 hhv
  go_wp2_with fail
  obtain ⟨W5, hW5⟩ : ∃ W5, W5 = w4.setCell ⟨T, 0, none⟩ (.iface 77 hv) := ⟨_, rfl⟩
  have hT5 : W5.cell? ⟨T, 0, none⟩ = some (.iface 77 hv) := by rw [hW5]; exact World.cell?_setCell_same _ _ _ m0
  have hrow5 : W5.heap[w.heap.size]? = some (.cells noneK.toArray 62 (0, 0)) := by rw [hW5, Below.heap_setCell _ _ _ _ (by show w.heap.size ≠ T; omega)]; exact HROW4.out
  have hb5 : Below w.heap.size w W5 := by rw [hW5]; exact HB4.out.setCell (by show w.heap.size ≤ T; omega) _
  have hp5 : PairsAt W5 G l := fun j t i ht hi => by
    rw [hW5, World.cell?_of_block (w := w4) (Below.heap_setCell _ _ _ _ hGT)]
    exact HG.out.2 j t i ht hi
  have hG5 : G < W5.heap.size := by rw [hW5]; simpa using HG.out.1
  have hT5s : T < W5.heap.size := by rw [hW5]; simpa using hT4s
  have r0 : W5.cell? ⟨w.heap.size, 0, none⟩ = some (.int .u16 0) := by rw [cell_in hrow5]; rfl
  have r1 : W5.cell? ⟨w.heap.size, 1, none⟩ = some (.slice none 0 0) := by rw [cell_in hrow5]; rfl
  have t0 : W5.frozen? ⟨w.heap.size, 0, none⟩ = false := frozen_in hrow5
  have t1 : W5.frozen? ⟨w.heap.size, 1, none⟩ = false := frozen_in hrow5
  have hGw : G ≠ w.heap.size := by
    intro e
    have h6 := hp5 0 _ 2 (List.getElem?_eq_getElem (by have := HL.out; omega)) (by omega)
    rw [e, Nat.zero_mul, cell_in hrow5] at h6
    simp [noneK] at h6
  have hTw : T ≠ w.heap.size := by omega
  have hRES : ∀ a b, Kerned n l w (.returned (.tuple #[.agg #[.int .u16 0, .slice (some ⟨T, 0, none⟩) 1 1], .int .i64 0, .nilIface])) ((W5.setCell ⟨w.heap.size, 0, none⟩ a).setCell ⟨w.heap.size, 1, none⟩ b) := by
    intro a b
    have hk : ∀ q, q ≠ w.heap.size → ((W5.setCell ⟨w.heap.size, 0, none⟩ a).setCell ⟨w.heap.size, 1, none⟩ b).heap[q]? = W5.heap[q]? := fun q hq => by
      rw [Below.heap_setCell _ _ _ _ hq, Below.heap_setCell _ _ _ _ hq]
    refine ⟨T, G, N - 4, h1, h2, h3, 0, rfl, by simpa using hT5s, ?_, by simpa using hG5, fun j t i ht hi => ?_, (hb5.setCell (Nat.le_refl _) _).setCell (Nat.le_refl _) _⟩
    · rw [World.cell?_of_block (w := W5) (hk T hTw), hT5, HHV.out]
    · rw [World.cell?_of_block (w := W5) (hk G hGw)]
      exact hp5 j t i ht hi
  have hrow : ∀ a b, ((W5.setCell ⟨w.heap.size, 0, none⟩ a).setCell ⟨w.heap.size, 1, none⟩ b).heap[w.heap.size]? = some (.cells #[a, b] 62 (0, 0)) := fun a b => by
    have h1 := set_row (j := 0) (x := a) hrow5
    have h2 := set_row (j := 1) (x := b) h1
    simpa [noneK] using h2
  have HRES := Lib.hid hRES
  have HROW := Lib.hid hrow
  have HW5 := Lib.hid hW5
  clear hRES hrow hT5 hrow5 hb5 hp5 hG5 hT5s m0 mf
  rw [← HW5.out]
  clear HW5 hW5 HHV HG HT4
  rw [rounds_succ]
  go_wp2
  (try simp only [Exit.inBlock, Exit.then])
  refine bodyPost_ret (results_3 rfl _ _ _ ⟨w.heap.size, 0, none⟩ _ rfl (run_loadVar_row _ _ _ 62 _ _ _ (HROW.out _ _) Try.underlying62 rfl (by kernel_rfl))) rfl ?_
  exact HRES.out _ _
end Go.Proofs.Ytkfgmjcdaggjcaa.Kp
