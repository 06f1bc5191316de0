/- A subtable of kerning parsed, walked. -/
import Derived.Test.YtkfgmjcdaggjcaaKpEnd
namespace Go.Proofs.Ytkfgmjcdaggjcaa.Kp
open Go Go.RowKit

def noneH : List Value := [.int .u16 0, .int .u16 0, .int .u8 0, .int .u8 0, .nilIface]
/-- What a subtable's data are: its numbers, and its pairs' slice. -/
def dataVal (n h1 h2 h3 G : Nat) : Value := .agg #[.int .u16 (n : Nat), .int .u16 (h1 : Nat), .int .u16 (h2 : Nat), .int .u16 (h3 : Nat), .slice (some ⟨G, 0, none⟩) n n]
def headVal (L n h1 h2 h3 G : Nat) : Value := .agg #[.int .u16 0, .int .u16 (L : Nat), .int .u8 0, .int .u8 1, .iface 92 (dataVal n h1 h2 h3 G)]

def PairsAt (w : World) (G : Nat) (l : List Tri) : Prop := ∀ j t i, l[j]? = some t → i < 3 → w.cell? ⟨G, j * 3 + i, none⟩ = some (triVal t i)
theorem PairsAt.later {w w' : World} {G : Nat} {l : List Tri} (h : PairsAt w G l) (hb : Below w.heap.size w w') (hG : G < w.heap.size) : PairsAt w' G l :=
  fun j t i ht hi => by rw [← h j t i ht hi]; exact hb.cell hG

def Headed (L n : Nat) (l : List Tri) (w : World) (e : Ending) (w' : World) : Prop :=
  ∃ (G h1 h2 h3 : Nat) (i : Int), e = .returned (.tuple #[headVal L n h1 h2 h3 G, .int .i64 i, .nilIface]) ∧ G < w'.heap.size ∧ PairsAt w' G l ∧ Below w.heap.size w w'

set_option maxRecDepth 1000000 in
set_option maxHeartbeats 4000000 in
theorem head_any (g off N cap n : Nat) (l : List Tri) (s1 s2 s3 : Int) (w : World) (hl : l.length = n) (hN : N = 14 + 6 * n) (h0 : 0 < n) (hn60 : n ≤ 60) (hcap : N ≤ cap) (hcm : cap ≤ 9223372036854775807) (hg : g < w.heap.size) (hok : ∀ x ∈ l, Tri.Ok x) (hr : Reads w g off ([0, 14 + 6 * (n : Int), 1, (n : Int), s1, s2, s3] ++ nums l)) :
    Calls Try.prog 21 #[.slice (some ⟨g, off, none⟩) N cap] w (Headed N n l w) := by
  have HL := Lib.hid hl
  have HN := Lib.hid hN
  have HOK := Lib.hid hok
  have HR := Lib.hid hr
  have hN14 : 14 ≤ N := by omega
  have hN400 : N ≤ 400 := by omega
  have hl2 : decide ((N : Int) < 6) = false := decide_eq_false (by omega)
  have h5 : (5 : Int) < N := by omega
  have h4 : (4 : Int) < N := by omega
  have c5 : w.cell? ⟨g, off + 5, none⟩ = some (.int .u8 (1 : Nat)) := (hr.two (j := 2) (x := 1) rfl).2
  have c4 : w.cell? ⟨g, off + 4, none⟩ = some (.int .u8 (0 : Nat)) := (hr.two (j := 2) (x := 1) rfl).1
  have HS := Lib.hid (Item.start 77 noneH w)
  have HCC := Lib.hid (And.intro c4 c5)
  have q0 : (0 : Int) ≤ N := by omega
  have q2 : (2 : Int) ≤ N := by omega
  have q6 : (6 : Int) ≤ N := by omega
  have z2 : ¬ cap = 2 := by omega
  have z6 : ¬ cap = 6 := by omega
  clear hl hN hok hr c4
  go_enter Try.func21, Try.ntmps21
  go_upto_region 7 with fail
  go_cut [] (fun W => Item 77 noneH w W ([.int .u16 0, .int .u16 0, .int .u8 0, .int .u8 0, .nilIface]))
  case first =>
    obtain ⟨W0, hW0⟩ : ∃ W0, W0 = (w.alloc (.cells noneH.toArray 77)).alloc (.cells noneH.toArray 77) := ⟨_, rfl⟩
    have HS1 := HS
    rw [← hW0] at HS1
    obtain ⟨u0, uf, us⟩ := HS1.out.cell (i := 0) (v := .int .u16 0) rfl
    have k := HR.out.two (j := 0) (x := 0) rfl
    have k0 : W0.cell? ⟨g, off, none⟩ = some (.int .u8 (0 : Nat)) := by have h1 := k.1; rw [← HS1.out.below.cell hg] at h1; exact h1
    have k1 : W0.cell? ⟨g, off + 1, none⟩ = some (.int .u8 (0 : Nat)) := by have h1 := k.2; rw [← HS1.out.below.cell hg] at h1; exact h1
    have hC := Lib.hid (half_any g off N cap 0 0 W0.drew (by omega) (by omega) (by omega) k0 k1)
    change Code.wp _ _ _ _ ((w.alloc (.cells noneH.toArray 77)).alloc (.cells noneH.toArray 77))
    rw [← hW0]
    clear c5 hW0 k k0 k1
    go_region_with (go_at_call 19; refine hC.out.mono ?_; rintro e w1 ⟨rfl, hb1⟩; have z0 := (hb1.cell (p := ⟨w.heap.size + 1, 0, none⟩) us).trans u0; have z1 := (hb1.frozen (p := ⟨w.heap.size + 1, 0, none⟩) us).trans uf)
    all_goals
      go_wp2_with fail
      go_meet
    all_goals exact (HS1.out.later ((Below.refl _ _).drew.trans hb1)).set 0 _
  case rest =>
  have HI1 := Lib.hid hcut
  obtain ⟨W1, rfl⟩ : ∃ W : World, W = wc := ⟨_, rfl⟩
  clear hcut
  go_upto_region 8 with fail
  go_cut [] (fun W => Item 77 noneH w W ([.int .u16 0, .int .u16 (N : Nat), .int .u8 0, .int .u8 0, .nilIface]))
  case first =>
    obtain ⟨u0, uf, us⟩ := HI1.out.cell (i := 1) (v := .int .u16 0) rfl
    have k := HR.out.two (j := 1) (x := 14 + 6 * (n : Int)) rfl
    have k0 : W1.cell? ⟨g, off + 2, none⟩ = some (.int .u8 (((14 + 6 * (n : Int)) / 256 % 256).toNat : Nat)) := by rw [← k.1]; exact HI1.out.below.cell hg
    have k1 : W1.cell? ⟨g, off + 2 + 1, none⟩ = some (.int .u8 (((14 + 6 * (n : Int)) % 256).toNat : Nat)) := by rw [← k.2]; exact HI1.out.below.cell hg
    have hC := Lib.hid (half_any g (off + 2) (N - 2) (cap - 2) _ _ W1.drew (by omega) (by omega) (by omega) k0 k1)
    rw [show ((14 + 6 * (n : Int)) / 256 % 256).toNat * 256 + ((14 + 6 * (n : Int)) % 256).toNat = N by have := HN.out; omega] at hC
    clear c5 k k0 k1
    go_region_with (go_at_call 19; refine hC.out.mono ?_; rintro e w1 ⟨rfl, hb1⟩; have z0 := (hb1.cell (p := ⟨w.heap.size + 1, 1, none⟩) us).trans u0; have z1 := (hb1.frozen (p := ⟨w.heap.size + 1, 1, none⟩) us).trans uf)
    all_goals
      go_wp2_with fail
      go_meet
    all_goals exact (HI1.out.later ((Below.refl _ _).drew.trans hb1)).set 1 _
  case rest =>
  have HI2 := Lib.hid hcut
  obtain ⟨W2, rfl⟩ : ∃ W : World, W = wc := ⟨_, rfl⟩
  clear hcut c5
  have c4 : W2.cell? ⟨g, off + 4, none⟩ = some (.int .u8 (0 : Nat)) := (HI2.out.below.cell hg).trans HCC.out.1
  have c5 : W2.cell? ⟨g, off + 5, none⟩ = some (.int .u8 (1 : Nat)) := (HI2.out.below.cell hg).trans HCC.out.2
  obtain ⟨m2, mf2, us⟩ := HI2.out.cell (i := 2) (v := .int .u8 0) rfl
  obtain ⟨m3, mf3, _⟩ := HI2.out.cell (i := 3) (v := .int .u8 0) rfl
  go_upto_region 14 with fail
  have hR := (HI2.out.set 2 (.int .u8 0)).set 3 (.int .u8 1)
  have HI3 := Lib.hid hR
  obtain ⟨W3, hW3⟩ : ∃ W3, W3 = (W2.setCell ⟨w.heap.size + 1, 2, none⟩ (.int .u8 0)).setCell ⟨w.heap.size + 1, 3, none⟩ (.int .u8 1) := ⟨_, rfl⟩
  change Code.wp _ _ _ _ ((W2.setCell ⟨w.heap.size + 1, 2, none⟩ (.int .u8 0)).setCell ⟨w.heap.size + 1, 3, none⟩ (.int .u8 1))
  rw [← hW3] at HI3 ⊢
  clear hR hW3 m2 mf2 m3 mf3 c4 c5 us
  obtain ⟨m2, _, us⟩ := HI3.out.cell (i := 2) (v := .int .u8 0) rfl
  have hrd : Reads W3 g (off + 6) ([(n : Int), s1, s2, s3] ++ nums l) := by
    intro j x hj
    have e : shorts ([0, 14 + 6 * (n : Int), 1, (n : Int), s1, s2, s3] ++ nums l) = shorts [0, 14 + 6 * (n : Int), 1] ++ shorts ([(n : Int), s1, s2, s3] ++ nums l) := by
      rw [← shorts_append]
      rfl
    have h6 : (shorts [0, 14 + 6 * (n : Int), 1]).length = 6 := rfl
    have := HR.out (6 + j) x (by rw [e, List.getElem?_append_right (by omega), h6, Nat.add_sub_cancel_left]; exact hj)
    rw [← Nat.add_assoc] at this
    rw [← this]
    exact HI3.out.below.cell hg
  have hP := Lib.hid (parse0_any g (off + 6) (N - 6) (cap - 6) n l s1 s2 s3 W3 HL.out (by have := HN.out; omega) h0 hn60 (by omega) (by omega) (Nat.lt_of_lt_of_le hg HI3.out.below.size) HOK.out hrd)
  clear hrd
  go_wp2_with fail
  refine hP.out.mono ?_
  rintro e w4 ⟨G, h1, h2, h3, i, rfl, hG, hpairs, hb4⟩
  have HI4 := Lib.hid (HI3.out.later hb4)
  have HPA := Lib.hid (show PairsAt w4 G l from hpairs)
  clear hpairs hb4 m2
  obtain ⟨m4, mf4, us4⟩ := HI4.out.cell (i := 4) (v := .nilIface) rfl
  have hR5 := HI4.out.set 4 (.iface 92 (dataVal n h1 h2 h3 G))
  obtain ⟨W5, hW5⟩ : ∃ W5, W5 = w4.setCell ⟨w.heap.size + 1, 4, none⟩ (.iface 92 (dataVal n h1 h2 h3 G)) := ⟨_, rfl⟩
  have hI5 : Item 77 noneH w W5 ([.int .u16 0, .int .u16 (N : Nat), .int .u8 0, .int .u8 1, .iface 92 (dataVal n h1 h2 h3 G)]) := by rw [hW5]; exact hR5
  have HI5 := Lib.hid hI5
  obtain ⟨m1, _, _⟩ := hI5.cell (i := 1) (v := .int .u16 (N : Nat)) rfl
  have hE := Lib.hid (end_any (w.heap.size + 1) N cap N (some ⟨g, off, none⟩) W5 (Nat.le_refl _) (by omega) m1)
  rw [hW5] at hE
  have hG5 : G < W5.heap.size := by rw [hW5]; simpa using hG
  have hGne : G ≠ w.heap.size + 1 := by
    intro e
    have h6 := HPA.out 0 _ 2 (List.getElem?_eq_getElem (by have := HL.out; omega)) (by omega)
    rw [e, Nat.zero_mul, cell_in HI4.out.row] at h6
    simp [triVal] at h6
  have hP5 : PairsAt W5 G l := fun j t i ht hi => by
    rw [hW5, World.cell?_of_block (w := w4) (Below.heap_setCell _ _ _ _ hGne)]
    exact HPA.out j t i ht hi
  have HP5 := Lib.hid (And.intro hG5 (And.intro hP5 hW5))
  clear hR5 hI5 hG5 hP5 m1 hW5 hG
  unfold dataVal at hE
  go_wp2_with fail
  refine hE.out.mono ?_
  rintro e w6 ⟨rfl, hb6⟩
  have HW := HP5.out.2.2
  unfold dataVal at HW
  rw [← HW] at hb6
  have HI6 := Lib.hid (HI5.out.later hb6)
  have hG6 : G < w6.heap.size := Nat.lt_of_lt_of_le HP5.out.1 hb6.size
  have HP6 := Lib.hid (HP5.out.2.1.later hb6 HP5.out.1)
  clear hb6 HW
  obtain ⟨e0, _, _⟩ := HI6.out.cell (i := 0) (v := .int .u16 0) rfl
  obtain ⟨e1, _, _⟩ := HI6.out.cell (i := 1) (v := .int .u16 (N : Nat)) rfl
  obtain ⟨e2, _, _⟩ := HI6.out.cell (i := 2) (v := .int .u8 0) rfl
  obtain ⟨e3, _, _⟩ := HI6.out.cell (i := 3) (v := .int .u8 1) rfl
  obtain ⟨e4, _, _⟩ := HI6.out.cell (i := 4) (v := .iface 92 (dataVal n h1 h2 h3 G)) rfl
  have r0 : w6.cell? ⟨w.heap.size, 0, none⟩ = some (.int .u16 0) := by rw [cell_in HI6.out.row0]; rfl
  have r1 : w6.cell? ⟨w.heap.size, 1, none⟩ = some (.int .u16 0) := by rw [cell_in HI6.out.row0]; rfl
  have r2 : w6.cell? ⟨w.heap.size, 2, none⟩ = some (.int .u8 0) := by rw [cell_in HI6.out.row0]; rfl
  have r3 : w6.cell? ⟨w.heap.size, 3, none⟩ = some (.int .u8 0) := by rw [cell_in HI6.out.row0]; rfl
  have r4 : w6.cell? ⟨w.heap.size, 4, none⟩ = some .nilIface := by rw [cell_in HI6.out.row0]; rfl
  have t0 : w6.frozen? ⟨w.heap.size, 0, none⟩ = false := frozen_in HI6.out.row0
  have t1 : w6.frozen? ⟨w.heap.size, 1, none⟩ = false := frozen_in HI6.out.row0
  have t2 : w6.frozen? ⟨w.heap.size, 2, none⟩ = false := frozen_in HI6.out.row0
  have t3 : w6.frozen? ⟨w.heap.size, 3, none⟩ = false := frozen_in HI6.out.row0
  have t4 : w6.frozen? ⟨w.heap.size, 4, none⟩ = false := frozen_in HI6.out.row0
  have hGn0 : G ≠ w.heap.size := by
    intro e
    have h7 := HP6.out 0 _ 2 (List.getElem?_eq_getElem (by have := HL.out; omega)) (by omega)
    rw [e, Nat.zero_mul, cell_in HI6.out.row0] at h7
    simp [triVal, noneH] at h7
  have hRES : ∀ a b c d f, Headed N n l w (.returned (.tuple #[headVal N n h1 h2 h3 G, .int .i64 (N : Nat), .nilIface])) (((((w6.setCell ⟨w.heap.size, 0, none⟩ a).setCell ⟨w.heap.size, 1, none⟩ b).setCell ⟨w.heap.size, 2, none⟩ c).setCell ⟨w.heap.size, 3, none⟩ d).setCell ⟨w.heap.size, 4, none⟩ f) := by
    intro a b c d f
    refine ⟨G, h1, h2, h3, _, rfl, by simpa using hG6, fun j t i ht hi3 => ?_, ?_⟩
    · rw [World.cell?_of_block (w := w6) (by
        rw [Below.heap_setCell _ _ _ _ hGn0, Below.heap_setCell _ _ _ _ hGn0, Below.heap_setCell _ _ _ _ hGn0, Below.heap_setCell _ _ _ _ hGn0, Below.heap_setCell _ _ _ _ hGn0])]
      exact HP6.out j t i ht hi3
    · exact ((((HI6.out.below.setCell (Nat.le_refl _) _).setCell (Nat.le_refl _) _).setCell (Nat.le_refl _) _).setCell (Nat.le_refl _) _).setCell (Nat.le_refl _) _
  have HRES := Lib.hid hRES
  have hrow : ∀ a b c d f, (((((w6.setCell ⟨w.heap.size, 0, none⟩ a).setCell ⟨w.heap.size, 1, none⟩ b).setCell ⟨w.heap.size, 2, none⟩ c).setCell ⟨w.heap.size, 3, none⟩ d).setCell ⟨w.heap.size, 4, none⟩ f).heap[w.heap.size]? = some (.cells #[a, b, c, d, f] 77 (0, 0)) := fun a b c d f => by
    have h1 := set_row (j := 0) (x := a) HI6.out.row0
    have h2 := set_row (j := 1) (x := b) h1
    have h3 := set_row (j := 2) (x := c) h2
    have h4 := set_row (j := 3) (x := d) h3
    have h5 := set_row (j := 4) (x := f) h4
    simpa [noneH] using h5
  have HROW := Lib.hid hrow
  clear hRES hrow
  obtain ⟨dv, hdv⟩ : ∃ dv, dv = dataVal n h1 h2 h3 G := ⟨_, rfl⟩
  unfold headVal at HRES
  rw [← hdv] at e4 HRES
  clear hdv
  go_wp2
  (try simp only [Exit.inBlock, Exit.then])
  refine bodyPost_ret (results_3 rfl _ _ _ ⟨w.heap.size, 0, none⟩ _ rfl (run_loadVar_row _ _ _ 77 _ _ _ (HROW.out _ _ _ _ _) Try.underlying77 rfl (by kernel_rfl))) rfl ?_
  exact HRES.out _ _ _ _ _
end Go.Proofs.Ytkfgmjcdaggjcaa.Kp
