/- The table OS/2, walked. -/
import Derived.Test.YtgggpllmgnpngaaGreatDoorTbZeros
namespace Go.Proofs.YtgggpllmgnpngaaGreatDoor.Tb
open Go Go.RowKit

/-- Some flags. -/
def Flag (f : Int) : Prop := f = 0 ∨ f = 1 ∨ f = 32 ∨ f = 33
def Flag2 (f : Int) : Prop := Flag f ∨ f = 64 ∨ f = 65 ∨ f = 96 ∨ f = 97
def Small (f : Int) : Prop := 0 ≤ f ∧ f < 1000

set_option maxRecDepth 1000000 in
set_option maxHeartbeats 80000000 in
theorem os2_any (F : Nat) (w : World) (hm : MetR F w) : Calls Tryz.prog 21 #[.pointer (some ⟨F, 0, none⟩)] w (NewBytes 96 w) := by
  have HM := Lib.hid hm
  have hFl := hm.low
  obtain ⟨b7, c7⟩ := hm.flag 7 (by omega)
  obtain ⟨b16, c16⟩ := hm.flag 16 (by omega)
  obtain ⟨b17, c17⟩ := hm.flag 17 (by omega)
  obtain ⟨x14, y14, c14⟩ := hm.num 14 (by omega) (by omega) (by omega) (by omega)
  obtain ⟨x15, y15, c15⟩ := hm.num 15 (by omega) (by omega) (by omega) (by omega)
  obtain ⟨x18, y18, c18⟩ := hm.num 18 (by omega) (by omega) (by omega) (by omega)
  obtain ⟨x19, y19, c19⟩ := hm.num 19 (by omega) (by omega) (by omega) (by omega)
  obtain ⟨x20, y20, c20⟩ := hm.num 20 (by omega) (by omega) (by omega) (by omega)
  obtain ⟨x21, y21, c21⟩ := hm.num 21 (by omega) (by omega) (by omega) (by omega)
  obtain ⟨x22, y22, c22⟩ := hm.num 22 (by omega) (by omega) (by omega) (by omega)
  obtain ⟨x23, y23, c23⟩ := hm.num 23 (by omega) (by omega) (by omega) (by omega)
  obtain ⟨x24, y24, c24⟩ := hm.num 24 (by omega) (by omega) (by omega) (by omega)
  obtain ⟨x25, y25, c25⟩ := hm.num 25 (by omega) (by omega) (by omega) (by omega)
  obtain ⟨x11, y11, c11⟩ := hm.num 11 (by omega) (by omega) (by omega) (by omega)
  obtain ⟨x10, y10, c10⟩ := hm.num 10 (by omega) (by omega) (by omega) (by omega)
  obtain ⟨x4, y4, c4⟩ := hm.num 4 (by omega) (by omega) (by omega) (by omega)
  obtain ⟨x5, y5, c5⟩ := hm.num 5 (by omega) (by omega) (by omega) (by omega)
  obtain ⟨x6, y6, c6⟩ := hm.num 6 (by omega) (by omega) (by omega) (by omega)
  obtain ⟨x12, y12, c12⟩ := hm.num 12 (by omega) (by omega) (by omega) (by omega)
  obtain ⟨x13, y13, c13⟩ := hm.num 13 (by omega) (by omega) (by omega) (by omega)
  clear hm
  go_enter Tryz.func21, Tryz.ntmps21
  go_upto_if 8 with fail
  go_cut [3] (fun fv W => (∃ f : Int, fv = .int .i64 f ∧ (f = 0 ∨ f = 1)) ∧ w = W)
  case first =>
    cases b16
    all_goals
      go_wp2_with fail
      go_meet
      case rel => first | exact ⟨⟨0, rfl, Or.inl rfl⟩, rfl⟩ | exact ⟨⟨1, rfl, Or.inr rfl⟩, rfl⟩
  case rest =>
  obtain ⟨⟨f, rfl, hf⟩, rfl⟩ := hcut
  have HF := Lib.hid hf
  clear hf
  go_upto_if 14 with fail
  go_cut [3] (fun fv W => (∃ f : Int, fv = .int .i64 f ∧ Flag f) ∧ w = W)
  case first =>
    cases b17
    all_goals
      go_wp2_with fail
      go_meet
      case rel => exact ⟨⟨_, rfl, by rcases HF.out with h | h <;> subst h <;> (unfold Flag; decide)⟩, rfl⟩
  case rest =>
  obtain ⟨⟨f2, rfl, hf⟩, rfl⟩ := hcut
  have HF2 := Lib.hid hf
  clear hf HF
  go_upto_region 6 with fail
  go_cut [28] (fun pv W => (∃ b : Bool, pv = .bool b) ∧ w = W)
  case first =>
    cases b16
    all_goals
      cases b17
      all_goals
        go_wp2_with fail
        go_meet
        case rel => exact ⟨⟨_, rfl⟩, rfl⟩
  case rest =>
  obtain ⟨⟨bp, rfl⟩, rfl⟩ := hcut
  go_upto_if 28 with fail
  go_cut [3] (fun fv W => (∃ f : Int, fv = .int .i64 f ∧ Flag2 f) ∧ w = W)
  case first =>
    cases bp
    all_goals
      go_wp2_with fail
      go_meet
      case rel => exact ⟨⟨_, rfl, by rcases HF2.out with h | h | h | h <;> subst h <;> (unfold Flag2 Flag; decide)⟩, rfl⟩
  case rest =>
  obtain ⟨⟨f3, rfl, hf⟩, rfl⟩ := hcut
  have HF3 := Lib.hid hf
  clear hf HF2
  go_upto_if 34 with fail
  go_cut [3] (fun fv W => (∃ f : Int, fv = .int .i64 f ∧ Small f) ∧ w = W)
  case first =>
    cases b7
    all_goals
      go_wp2_with fail
      go_meet
      case rel => exact ⟨⟨_, rfl, by rcases HF3.out with (h | h | h | h) | h | h | h | h <;> subst h <;> (unfold Small; decide)⟩, rfl⟩
  case rest =>
  obtain ⟨⟨f4, rfl, hf⟩, rfl⟩ := hcut
  have HF4 := Lib.hid hf
  clear hf HF3 c7 c16 c17
  have hP : ∀ W, Below w.heap.size w W → W.cell? ⟨F, 14, none⟩ = some (.int .i64 x14) ∧ W.cell? ⟨F, 15, none⟩ = some (.int .i64 x15) ∧ W.cell? ⟨F, 18, none⟩ = some (.int .i64 x18) ∧ W.cell? ⟨F, 19, none⟩ = some (.int .i64 x19) ∧ W.cell? ⟨F, 20, none⟩ = some (.int .i64 x20) ∧ W.cell? ⟨F, 21, none⟩ = some (.int .i64 x21) ∧ W.cell? ⟨F, 22, none⟩ = some (.int .i64 x22) ∧ W.cell? ⟨F, 23, none⟩ = some (.int .i64 x23) ∧ W.cell? ⟨F, 24, none⟩ = some (.int .i64 x24) ∧ W.cell? ⟨F, 25, none⟩ = some (.int .i64 x25) ∧ W.cell? ⟨F, 11, none⟩ = some (.int .i64 x11) ∧ W.cell? ⟨F, 10, none⟩ = some (.int .i64 x10) := fun W h => ⟨below_cell h c14, below_cell h c15, below_cell h c18, below_cell h c19, below_cell h c20, below_cell h c21, below_cell h c22, below_cell h c23, below_cell h c24, below_cell h c25, below_cell h c11, below_cell h c10⟩
  have HP1 := Lib.hid hP
  have HSX := Lib.hid (fun T n X W => short_sx (T := T) (n := n) (X := X) (m := 16) (cs := [.int .i64 4, .int .i64 500, .int .i64 x14, .int .i64 x15, .int .i64 0, .int .i64 x18, .int .i64 x19, .int .i64 x20, .int .i64 x21, .int .i64 x22, .int .i64 x23, .int .i64 x24, .int .i64 x25, .int .i64 x11, .int .i64 x10, .int .i64 0]) (vals := [4, 500, x14, x15, 0, x18, x19, x20, x21, x22, x23, x24, x25, x11, x10, 0]) (W := W) hP rfl rfl (by omega) (by intro y hy; simp at hy; omega))
  have hA2 := ((tabn_start w (Below.refl w.heap.size w)).row (cs := [.int .i64 4, .int .i64 500, .int .i64 x14, .int .i64 x15, .int .i64 0, .int .i64 x18, .int .i64 x19, .int .i64 x20, .int .i64 x21, .int .i64 x22, .int .i64 x23, .int .i64 x24, .int .i64 x25, .int .i64 x11, .int .i64 x10, .int .i64 0]) (m := 16) (t := 3) rfl (by omega)).drew
  have hB := (tabx_start (w0 := w) (w.alloc (.cells ([.int .i64 4, .int .i64 500, .int .i64 x14, .int .i64 x15, .int .i64 0, .int .i64 x18, .int .i64 x19, .int .i64 x20, .int .i64 x21, .int .i64 x22, .int .i64 x23, .int .i64 x24, .int .i64 x25, .int .i64 x11, .int .i64 x10, .int .i64 0] : List Value).toArray 3)) ((Below.refl _ _).alloc (Nat.le_refl _) _) (row_low w [.int .i64 4, .int .i64 500, .int .i64 x14, .int .i64 x15, .int .i64 0, .int .i64 x18, .int .i64 x19, .int .i64 x20, .int .i64 x21, .int .i64 x22, .int .i64 x23, .int .i64 x24, .int .i64 x25, .int .i64 x11, .int .i64 x10, .int .i64 0] 3 16 rfl (by omega))).drew
  rw [World.size_alloc] at hA2 hB
  have HA := Lib.hid (And.intro hA2 hB)
  have HC := Lib.hid (And.intro c4 (And.intro c5 (And.intro c6 (And.intro c12 c13))))
  clear hP hA2 hB c4 c5 c6 c12 c13
  go_upto_region 10 with fail
  go_cut [4] (fun tv W => ∃ T, tv = .pointer (some ⟨T, 0, none⟩) ∧ TabN T 32 w W)
  case first =>
    go_region_held3 (fun W => W.cell? ⟨F, 14, none⟩ = some (.int .i64 x14) ∧ W.cell? ⟨F, 15, none⟩ = some (.int .i64 x15) ∧ W.cell? ⟨F, 18, none⟩ = some (.int .i64 x18) ∧ W.cell? ⟨F, 19, none⟩ = some (.int .i64 x19) ∧ W.cell? ⟨F, 20, none⟩ = some (.int .i64 x20) ∧ W.cell? ⟨F, 21, none⟩ = some (.int .i64 x21) ∧ W.cell? ⟨F, 22, none⟩ = some (.int .i64 x22) ∧ W.cell? ⟨F, 23, none⟩ = some (.int .i64 x23) ∧ W.cell? ⟨F, 24, none⟩ = some (.int .i64 x24) ∧ W.cell? ⟨F, 25, none⟩ = some (.int .i64 x25) ∧ W.cell? ⟨F, 11, none⟩ = some (.int .i64 x11) ∧ W.cell? ⟨F, 10, none⟩ = some (.int .i64 x10))
      (first | go_keep | assumption)
      (first
        | (go_at_call 16; (with_reducible refine (HSX.out _ _ _ _ HA.out.1 (by omega)).mono ?_); rintro e w3 ⟨rfl, ht3, hc3⟩)
        | (go_at_call 16; (with_reducible refine (HSX.out _ _ _ _ HA.out.2 (by omega)).mono ?_); rintro e w3 ⟨rfl, ht3, hc3⟩))
    all_goals
      go_wp2_with fail
      go_meet
      case rel => exact ⟨_, rfl, by assumption⟩
  case rest =>
  obtain ⟨T, rfl, ht⟩ := hcut
  obtain ⟨w1, rfl⟩ : ∃ w1 : World, w1 = wc := ⟨_, rfl⟩
  obtain ⟨c4, c5, c6, c12, c13⟩ := HC.out
  have hP : ∀ W, Below w.heap.size w W → W.cell? ⟨F, 4, none⟩ = some (.int .i64 x4) ∧ W.cell? ⟨F, 5, none⟩ = some (.int .i64 x5) ∧ W.cell? ⟨F, 6, none⟩ = some (.int .i64 x6) := fun W h => ⟨below_cell h c4, below_cell h c5, below_cell h c6⟩
  have hP2 : ∀ W, Below w.heap.size w W → W.cell? ⟨F, 12, none⟩ = some (.int .i64 x12) ∧ W.cell? ⟨F, 13, none⟩ = some (.int .i64 x13) := fun W h => ⟨below_cell h c12, below_cell h c13⟩
  have hf4 : 0 ≤ f4 ∧ f4 < 1000 := HF4.out
  have HSX2 := Lib.hid (fun T n X W => short_sx (T := T) (n := n) (X := X) (m := 8) (cs := [.int .i64 f4, .int .i64 32, .int .i64 122, .int .i64 x4, .int .i64 x5, .int .i64 x6, .int .i64 1000, .int .i64 200]) (vals := [f4, 32, 122, x4, x5, x6, 1000, 200]) (W := W) hP rfl rfl (by omega) (by intro y hy; simp at hy; omega))
  have HLN := Lib.hid (fun T n W x => long_sn (T := T) (n := n) (W := W) (x := x) hP)
  have HLX := Lib.hid (fun T n X W x => long_sx (T := T) (n := n) (X := X) (m := 8) (cs := [.int .i64 f4, .int .i64 32, .int .i64 122, .int .i64 x4, .int .i64 x5, .int .i64 x6, .int .i64 1000, .int .i64 200]) (W := W) (x := x) hP)
  have HTN := Lib.hid (fun T n W s => to4_sn (T := T) (n := n) (W := W) (s := s) hP)
  have HTX := Lib.hid (fun T n X W s => to4_sx (T := T) (n := n) (X := X) (m := 8) (cs := [.int .i64 f4, .int .i64 32, .int .i64 122, .int .i64 x4, .int .i64 x5, .int .i64 x6, .int .i64 1000, .int .i64 200]) (W := W) (s := s) hP)
  have HPP := Lib.hid hP
  have HPP2 := Lib.hid hP2
  obtain ⟨h0, v, bs, h1, h2, h3, h4⟩ := ht
  have hc := h3.cell
  have hf := h3.free
  have hown := h3.own
  have hsz := h3.size
  rw [h1] at hown
  have HV := Lib.hid (And.intro h0 (And.intro h1 (And.intro h2 (And.intro h3 h4))))
  clear h0 h1 h2 h3 h4 HA HSX HP1 c4 c5 c6 c12 c13 hP hP2 hf4
  go_wp2_with (at_builtin; go_must (refine wpList_zeros rfl (.tmp 93) (.const (.int .i64 10)) rfl (T + 1) 32 v (byteCells bs) rfl rfl (by omega) (by omega) hown ?_ ?_))
  · omega
  intro v2 w2 hown2 hg2 hat2
  obtain ⟨g2, cap2, cur2, rfl, _⟩ := own_form hown2 (by omega)
  obtain ⟨h0, h1, h2, h3, h4⟩ := HV.out
  have R := wrote_more (new := List.replicate 10 0) (o := none) (w := w1) (v := v) (n := 32 + 10) ⟨h3, Or.inl rfl, Kept.refl _ _⟩ h1.symm rfl (by rw [← ten_cells]; exact hown2) hg2 (hat2.imp id (fun h => ⟨_, h, Nat.le_refl _⟩))
  have ht42 : TabN T 42 w (w2.setCell ⟨T, 0, none⟩ (.slice (some ⟨g2, 0, none⟩) (32 + 10) cap2)) := tab_wrote h0 h3 h4 R.2 (by rw [h1]; rfl) h2 (by intro x hx; rw [List.eq_of_mem_replicate hx]; omega)
  obtain ⟨w3, hw3⟩ : ∃ w3, w3 = w2.setCell ⟨T, 0, none⟩ (.slice (some ⟨g2, 0, none⟩) (32 + 10) cap2) := ⟨_, rfl⟩
  rw [← hw3] at ht42
  obtain ⟨d0, d1⟩ := R.1
  have HW3 := Lib.hid hw3
  have HB0 := Lib.hid (And.intro ht42.drew (ht42.row (cs := [.int .i64 f4, .int .i64 32, .int .i64 122, .int .i64 x4, .int .i64 x5, .int .i64 x6, .int .i64 1000, .int .i64 200]) (m := 8) (t := 3) rfl (by omega)).drew)
  have h45 := HPP.out _ ht42.below
  have HT42 := Lib.hid ht42
  obtain ⟨k4, k5, k6⟩ := h45
  clear R hown2 hg2 hat2 hown hc hf h0 h1 h2 h3 h4 hw3 ht42 HV
  go_upto_region 12 with fail
  rw [show w2.setCell ⟨T, 0, none⟩ (.slice (some ⟨g2, 0, none⟩) 42 cap2) = w3 from HW3.out.symm]
  clear d0 d1
  have hTw3 : T < w3.heap.size := HT42.out.size
  have hFw3 : F < w3.heap.size := Nat.lt_of_lt_of_le hFl HT42.out.below.size
  go_cut [] (fun W => TabN T 86 w W)
  case first =>
    go_region_held3 (fun W => W.cell? ⟨F, 4, none⟩ = some (.int .i64 x4) ∧ W.cell? ⟨F, 5, none⟩ = some (.int .i64 x5) ∧ W.cell? ⟨F, 6, none⟩ = some (.int .i64 x6))
      (first | go_keep | assumption)
      (first
        | (go_at_call 17; (with_reducible refine (HLX.out _ _ _ _ _ HB0.out.2 (by omega) (by omega) (by omega)).mono ?_); rintro e w5 ⟨rfl, ht5, hc5⟩)
        | (go_at_call 17; (with_reducible refine (HLN.out _ _ _ _ HB0.out.1 (by omega) (by omega) (by omega)).mono ?_); rintro e w5 ⟨rfl, ht5, hc5⟩)
        | (go_at_call 17; (with_reducible refine (HLX.out _ _ _ _ _ (by assumption) (by omega) (by omega) (by omega)).mono ?_); rintro e w5 ⟨rfl, ht5, hc5⟩)
        | (go_at_call 17; (with_reducible refine (HLN.out _ _ _ _ (by assumption) (by omega) (by omega) (by omega)).mono ?_); rintro e w5 ⟨rfl, ht5, hc5⟩)
        | (go_at_call 17; (with_reducible refine (HLX.out _ _ _ _ _ (TabN.row (by assumption) rfl (by omega)) (by omega) (by omega) (by omega)).mono ?_); rintro e w5 ⟨rfl, ht5, hc5⟩)
        | (go_at_call 42; (with_reducible refine (HTX.out _ _ _ _ _ (by assumption) rfl (by omega)).mono ?_); rintro e w5 ⟨rfl, ht5, hc5⟩)
        | (go_at_call 42; (with_reducible refine (HTN.out _ _ _ _ (by assumption) rfl (by omega)).mono ?_); rintro e w5 ⟨rfl, ht5, hc5⟩)
        | (go_at_call 42; (with_reducible refine (HTX.out _ _ _ _ _ (TabN.row (by assumption) rfl (by omega)) rfl (by omega)).mono ?_); rintro e w5 ⟨rfl, ht5, hc5⟩)
        | (go_at_call 16; (with_reducible refine (HSX2.out _ _ _ _ (by assumption) (by omega)).mono ?_); rintro e w5 ⟨rfl, ht5, hc5⟩)
        | (go_at_call 16; (with_reducible refine (HSX2.out _ _ _ _ (TabN.row (by assumption) rfl (by omega)) (by omega)).mono ?_); rintro e w5 ⟨rfl, ht5, hc5⟩))
    all_goals
      go_wp2_with fail
      go_meet
      case rel => assumption
  case rest =>
    obtain ⟨w6, rfl⟩ : ∃ w6 : World, w6 = wc := ⟨_, rfl⟩
    have HT6 := Lib.hid hcut
    obtain ⟨l12, l13⟩ := HPP2.out _ hcut.below
    have hS : Calls Tryz.prog 16 #[.pointer (some ⟨T, 0, none⟩), .slice (some ⟨w6.heap.size, 0, none⟩) 5 5] (w6.alloc (.cells #[.int .i64 x12, .int .i64 x13, .int .i64 0, .int .i64 32, .int .i64 3] 3)).drew fun e w' => e = .returned (.pointer (some ⟨T, 0, none⟩)) ∧ ∃ v7, w'.cell? ⟨T, 0, none⟩ = some v7 ∧ NewBytes 96 w (.returned v7) w' ∧ (w'.cell? ⟨F, 12, none⟩ = some (.int .i64 x12) ∧ w'.cell? ⟨F, 13, none⟩ = some (.int .i64 x13)) := by
      refine (short_x T 86 w6.heap.size 5 w _ [.int .i64 x12, .int .i64 x13, .int .i64 0, .int .i64 32, .int .i64 3] [x12, x13, 0, 32, 3] rfl rfl (by omega) (by intro y hy; simp at hy; omega) (by omega) (hcut.row (cs := [.int .i64 x12, .int .i64 x13, .int .i64 0, .int .i64 32, .int .i64 3]) (m := 5) (t := 3) rfl (by omega)).drew).mono ?_
      rintro e w7 ⟨rfl, h0, v7, bs7, h1, h2, h3, h4⟩
      have hown := h3.own
      rw [h1] at hown
      exact ⟨rfl, v7, h3.cell, ⟨⟨v7, rfl, bs7, h1, h2, own_mono hown (by omega)⟩, h4⟩, HPP2.out _ h4⟩
    have HS := Lib.hid hS
    have hFw6 : F < w6.heap.size := Nat.lt_of_lt_of_le hFl hcut.below.size
    clear hcut hS HSX2 HLN HLX HTN HTX
    go_upto_region 13 with fail
    go_region_with
      ((go_at_call 16; (with_reducible refine HS.out.mono ?_); rintro e w7 ⟨rfl, v7, hc7, hp7, hh7⟩; have HP := Lib.hid hp7; clear hp7))
    all_goals
      go_wp2_with fail
      go_ret
      exact HP.out
end Go.Proofs.YtgggpllmgnpngaaGreatDoor.Tb
