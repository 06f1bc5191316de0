/- The region of the map's literal: its operations. -/
import Derived.Test.YtgggpllmgnpngaaGreatDoorTbShareds
namespace Go.Proofs.YtgggpllmgnpngaaGreatDoor.Tb
open Go Go.RowKit
theorem bs_eq {n : Nat} {w : World} {p q : Array (Nat × Value)} {r : Result Value} (e : p = q) (h : (Instr.buildSlice 29 n q).run Tryz.prog w = r) : (Instr.buildSlice 29 n p).run Tryz.prog w = r := by rw [e]; exact h
section
variable {c : Ctx} (hc : c.Ok) {Q : Exit → Act → World → Prop}
include hc
theorem st_1 : StepOK Tryz.prog ops11 Q (lawOf c) c.R 1 :=
  s_move hc 1 (by decide) (by decide) (by decide) 6 _ (by kernel_rfl) rfl (fun _ _ h => h.t6)
theorem st_2 : StepOK Tryz.prog ops11 Q (lawOf c) c.R 2 :=
  s_move hc 2 (by decide) (by decide) (by decide) 6 _ (by kernel_rfl) rfl (fun _ _ h => h.t6)
theorem st_3 : StepOK Tryz.prog ops11 Q (lawOf c) c.R 3 :=
  s_fab hc 3 (by decide) (by decide) (by decide) _ 35 9 (by kernel_rfl) rfl (fun w => by kernel_rfl)
theorem st_4 : StepOK Tryz.prog ops11 Q (lawOf c) c.R 4 :=
  s_ldv hc 4 3 (by decide) (by decide) (by decide) (by decide) _ 32 _ _ (by kernel_rfl) rfl rfl rfl Tryz.underlying32 rfl
theorem st_6 : StepOK Tryz.prog ops11 Q (lawOf c) c.R 6 :=
  s_new hc 6 14 #[.tmp 40, .tmp 44] #[58, 63] (by decide) (by decide) (by decide) (by decide) (by kernel_rfl) rfl (fun a w hb hl => by
    obtain ⟨_, e1⟩ := hl 1 (by show 1 ∈ [1, 5]; decide)
    obtain ⟨F5, T, X, m, e5, h0, h24, hL⟩ := hl 5 (by show 5 ∈ [1, 5]; decide)
    have e1' : a.eval (.tmp 40) = pt c.R 0 := e1
    have e5' : a.eval (.tmp 44) = pt T 0 := e5
    have e : (#[.tmp 40, .tmp 44] : Array Operand).map a.eval = #[pt c.R 0, pt T 0] := by simp only [List.map_toArray, List.map_cons, List.map_nil, e1', e5']
    rw [e]
    refine (whole1_any c.R T X m w h0 (by omega) hL.plain).mono ?_
    rintro e w' ⟨⟨g, cp, rfl, h1⟩, h2⟩
    exact ⟨12 + m, by omega, by omega, ⟨_, rfl, h1⟩, h2⟩)
theorem st_7 : StepOK Tryz.prog ops11 Q (lawOf c) c.R 7 :=
  s_ins hc 7 6 1 ⟨#[99, 109, 97, 112]⟩ (by decide) rfl rfl (by kernel_rfl) rfl rfl rfl rfl (by kernel_rfl) (by decide)
theorem st_8 : StepOK Tryz.prog ops11 Q (lawOf c) c.R 8 :=
  s_build hc 8 (by decide) (by decide) (by decide) (by kernel_rfl) rfl
theorem st_9 : StepOK Tryz.prog ops11 Q (lawOf c) c.R 9 :=
  s_box hc 9 8 (by decide) (by decide) (by decide) (by decide) (by kernel_rfl) rfl rfl
theorem st_10 : StepOK Tryz.prog ops11 Q (lawOf c) c.R 10 :=
  s_bs hc 10 (by decide) (by decide) (by decide) 4 [1, 0, 1, 0] #[(0, Operand.const (Value.int .i64 1)), (1, Operand.const (Value.int .i64 0)), (2, Operand.const (Value.int .i64 1)), (3, Operand.const (Value.int .i64 0))] (by kernel_rfl) rfl rfl (fun a w hb hl => by
    have e : (#[(0, Operand.const (Value.int .i64 1)), (1, Operand.const (Value.int .i64 0)), (2, Operand.const (Value.int .i64 1)), (3, Operand.const (Value.int .i64 0))] : Array (Nat × Operand)).map (fun (i, x) => (i, a.eval x)) = (#[(0, vi 1), (1, vi 0), (2, vi 1), (3, vi 0)] : Array (Nat × Value)) := by
      simp only [List.map_toArray, List.map_cons, List.map_nil] <;> rfl
    exact bs_eq e (by kernel_rfl))
theorem st_11 : StepOK Tryz.prog ops11 Q (lawOf c) c.R 11 :=
  s_short hc 11 9 10 _ _ _ #[63, 29] (by decide) (by decide) (by decide) (by decide) (by decide) (by decide) (by kernel_rfl) rfl rfl rfl rfl (Nat.le_of_ble_eq_true rfl) (by decide) (by intro x hx; simp at hx; omega)
theorem st_12 : StepOK Tryz.prog ops11 Q (lawOf c) c.R 12 :=
  s_long hc 12 11 _ _ 0 #[63, 3] (by decide) (by decide) (by decide) (by decide) (by kernel_rfl) rfl rfl rfl (by decide) (by decide) (by decide)
theorem st_13 : StepOK Tryz.prog ops11 Q (lawOf c) c.R 13 :=
  s_long hc 13 12 _ _ 1594834165 #[63, 3] (by decide) (by decide) (by decide) (by decide) (by kernel_rfl) rfl rfl rfl (by decide) (by decide) (by decide)
theorem st_14 : StepOK Tryz.prog ops11 Q (lawOf c) c.R 14 :=
  s_move hc 14 (by decide) (by decide) (by decide) 7 _ (by kernel_rfl) rfl (fun _ _ h => h.t7)
theorem st_15 : StepOK Tryz.prog ops11 Q (lawOf c) c.R 15 :=
  s_nilv hc 15 14 (by decide) (by decide) (by decide) (by decide) _ _ (by kernel_rfl) rfl rfl
theorem st_16 : StepOK Tryz.prog ops11 Q (lawOf c) c.R 16 :=
  s_fav hc 16 15 (by decide) (by decide) (by decide) (by decide) _ _ 26 0 (by kernel_rfl) rfl rfl (fun w => by kernel_rfl)
theorem st_17 : StepOK Tryz.prog ops11 Q (lawOf c) c.R 17 :=
  s_ldv hc 17 16 (by decide) (by decide) (by decide) (by decide) _ 3 _ _ (by kernel_rfl) rfl rfl rfl Tryz.underlying3 rfl
theorem st_18 : StepOK Tryz.prog ops11 Q (lawOf c) c.R 18 :=
  s_bs hc 18 (by decide) (by decide) (by decide) 2 [0, c.M 0] #[(0, Operand.const (Value.int .i64 0)), (1, .tmp 55)] (by kernel_rfl) rfl rfl (fun a w hb hl => by
    have h17 := (hl 17 (by show 17 ∈ [17]; decide)).choose_spec
    have e17 : a.eval (.tmp 55) = (vi (c.M 0)) := h17
    have e : (#[(0, Operand.const (Value.int .i64 0)), (1, .tmp 55)] : Array (Nat × Operand)).map (fun (i, x) => (i, a.eval x)) = (#[(0, vi 0), (1, vi (c.M 0))] : Array (Nat × Value)) := by
      simp only [List.map_toArray, List.map_cons, List.map_nil, e17] <;> rfl
    exact bs_eq e (by kernel_rfl))
theorem st_19 : StepOK Tryz.prog ops11 Q (lawOf c) c.R 19 :=
  s_short hc 19 13 18 _ _ _ #[63, 29] (by decide) (by decide) (by decide) (by decide) (by decide) (by decide) (by kernel_rfl) rfl rfl rfl rfl (Nat.le_of_ble_eq_true rfl) (by decide) (by have := hc.file.lim.all 0; intro x hx; simp at hx; omega)
theorem st_20 : StepOK Tryz.prog ops11 Q (lawOf c) c.R 20 :=
  s_long hc 20 19 _ _ 0 #[63, 3] (by decide) (by decide) (by decide) (by decide) (by kernel_rfl) rfl rfl rfl (by decide) (by decide) (by decide)
theorem st_21 : StepOK Tryz.prog ops11 Q (lawOf c) c.R 21 :=
  s_long hc 21 20 _ _ 0 #[63, 3] (by decide) (by decide) (by decide) (by decide) (by kernel_rfl) rfl rfl rfl (by decide) (by decide) (by decide)
theorem st_22 : StepOK Tryz.prog ops11 Q (lawOf c) c.R 22 :=
  s_long hc 22 21 _ _ 0 #[63, 3] (by decide) (by decide) (by decide) (by decide) (by kernel_rfl) rfl rfl rfl (by decide) (by decide) (by decide)
theorem st_23 : StepOK Tryz.prog ops11 Q (lawOf c) c.R 23 :=
  s_long hc 23 22 _ _ 0 #[63, 3] (by decide) (by decide) (by decide) (by decide) (by kernel_rfl) rfl rfl rfl (by decide) (by decide) (by decide)
theorem st_24 : StepOK Tryz.prog ops11 Q (lawOf c) c.R 24 :=
  s_move hc 24 (by decide) (by decide) (by decide) 9 _ (by kernel_rfl) rfl (fun _ _ h => h.t9)
theorem st_25 : StepOK Tryz.prog ops11 Q (lawOf c) c.R 25 :=
  s_bs hc 25 (by decide) (by decide) (by decide) 9 [0, 0, 0, 0, c.st, 8, 2, 0, 0] #[(0, Operand.const (Value.int .i64 0)), (1, Operand.const (Value.int .i64 0)), (2, Operand.const (Value.int .i64 0)), (3, Operand.const (Value.int .i64 0)), (4, .tmp 62), (5, Operand.const (Value.int .i64 8)), (6, Operand.const (Value.int .i64 2)), (7, Operand.const (Value.int .i64 0)), (8, Operand.const (Value.int .i64 0))] (by kernel_rfl) rfl rfl (fun a w hb hl => by
    have h24 := (hl 24 (by show 24 ∈ [24]; decide)).choose_spec
    have e24 : a.eval (.tmp 62) = (vi c.st) := h24
    have e : (#[(0, Operand.const (Value.int .i64 0)), (1, Operand.const (Value.int .i64 0)), (2, Operand.const (Value.int .i64 0)), (3, Operand.const (Value.int .i64 0)), (4, .tmp 62), (5, Operand.const (Value.int .i64 8)), (6, Operand.const (Value.int .i64 2)), (7, Operand.const (Value.int .i64 0)), (8, Operand.const (Value.int .i64 0))] : Array (Nat × Operand)).map (fun (i, x) => (i, a.eval x)) = (#[(0, vi 0), (1, vi 0), (2, vi 0), (3, vi 0), (4, vi (c.st)), (5, vi 8), (6, vi 2), (7, vi 0), (8, vi 0)] : Array (Nat × Value)) := by
      simp only [List.map_toArray, List.map_cons, List.map_nil, e24] <;> rfl
    exact bs_eq e (by kernel_rfl))
theorem st_26 : StepOK Tryz.prog ops11 Q (lawOf c) c.R 26 :=
  s_short hc 26 23 25 _ _ _ #[63, 29] (by decide) (by decide) (by decide) (by decide) (by decide) (by decide) (by kernel_rfl) rfl rfl rfl rfl (Nat.le_of_ble_eq_true rfl) (by decide) (by have := hc.st; intro x hx; simp at hx; omega)
theorem st_27 : StepOK Tryz.prog ops11 Q (lawOf c) c.R 27 :=
  s_nilt hc 27 26 54 (by decide) (by decide) (by decide) (by decide) (by kernel_rfl) rfl rfl
theorem st_28 : StepOK Tryz.prog ops11 Q (lawOf c) c.R 28 :=
  s_fat hc 28 27 54 (by decide) (by decide) (by decide) (by decide) (by kernel_rfl) rfl rfl
theorem st_29 : StepOK Tryz.prog ops11 Q (lawOf c) c.R 29 :=
  s_ldt hc 29 28 _ (by decide) (by decide) (by decide) (by decide) (by kernel_rfl) rfl rfl (by decide) (by decide)
theorem st_30 : StepOK Tryz.prog ops11 Q (lawOf c) c.R 30 :=
  s_ins hc 30 29 2 ⟨#[104, 101, 97, 100]⟩ (by decide) rfl rfl (by kernel_rfl) rfl rfl rfl rfl (by kernel_rfl) (by decide)
theorem st_31 : StepOK Tryz.prog ops11 Q (lawOf c) c.R 31 :=
  s_build hc 31 (by decide) (by decide) (by decide) (by kernel_rfl) rfl
theorem st_32 : StepOK Tryz.prog ops11 Q (lawOf c) c.R 32 :=
  s_box hc 32 31 (by decide) (by decide) (by decide) (by decide) (by kernel_rfl) rfl rfl
theorem st_33 : StepOK Tryz.prog ops11 Q (lawOf c) c.R 33 :=
  s_move hc 33 (by decide) (by decide) (by decide) 7 _ (by kernel_rfl) rfl (fun _ _ h => h.t7)
theorem st_34 : StepOK Tryz.prog ops11 Q (lawOf c) c.R 34 :=
  s_nilv hc 34 33 (by decide) (by decide) (by decide) (by decide) _ _ (by kernel_rfl) rfl rfl
theorem st_35 : StepOK Tryz.prog ops11 Q (lawOf c) c.R 35 :=
  s_fav hc 35 34 (by decide) (by decide) (by decide) (by decide) _ _ 26 1 (by kernel_rfl) rfl rfl (fun w => by kernel_rfl)
theorem st_36 : StepOK Tryz.prog ops11 Q (lawOf c) c.R 36 :=
  s_ldv hc 36 35 (by decide) (by decide) (by decide) (by decide) _ 3 _ _ (by kernel_rfl) rfl rfl rfl Tryz.underlying3 rfl
theorem st_37 : StepOK Tryz.prog ops11 Q (lawOf c) c.R 37 :=
  s_move hc 37 (by decide) (by decide) (by decide) 7 _ (by kernel_rfl) rfl (fun _ _ h => h.t7)
theorem st_38 : StepOK Tryz.prog ops11 Q (lawOf c) c.R 38 :=
  s_nilv hc 38 37 (by decide) (by decide) (by decide) (by decide) _ _ (by kernel_rfl) rfl rfl
theorem st_39 : StepOK Tryz.prog ops11 Q (lawOf c) c.R 39 :=
  s_fav hc 39 38 (by decide) (by decide) (by decide) (by decide) _ _ 26 2 (by kernel_rfl) rfl rfl (fun w => by kernel_rfl)
theorem st_40 : StepOK Tryz.prog ops11 Q (lawOf c) c.R 40 :=
  s_ldv hc 40 39 (by decide) (by decide) (by decide) (by decide) _ 3 _ _ (by kernel_rfl) rfl rfl rfl Tryz.underlying3 rfl
theorem st_41 : StepOK Tryz.prog ops11 Q (lawOf c) c.R 41 :=
  s_move hc 41 (by decide) (by decide) (by decide) 7 _ (by kernel_rfl) rfl (fun _ _ h => h.t7)
theorem st_42 : StepOK Tryz.prog ops11 Q (lawOf c) c.R 42 :=
  s_nilv hc 42 41 (by decide) (by decide) (by decide) (by decide) _ _ (by kernel_rfl) rfl rfl
theorem st_43 : StepOK Tryz.prog ops11 Q (lawOf c) c.R 43 :=
  s_fav hc 43 42 (by decide) (by decide) (by decide) (by decide) _ _ 26 3 (by kernel_rfl) rfl rfl (fun w => by kernel_rfl)
theorem st_44 : StepOK Tryz.prog ops11 Q (lawOf c) c.R 44 :=
  s_ldv hc 44 43 (by decide) (by decide) (by decide) (by decide) _ 3 _ _ (by kernel_rfl) rfl rfl rfl Tryz.underlying3 rfl
theorem st_45 : StepOK Tryz.prog ops11 Q (lawOf c) c.R 45 :=
  s_fab hc 45 (by decide) (by decide) (by decide) _ 35 4 (by kernel_rfl) rfl (fun w => by kernel_rfl)
theorem st_46 : StepOK Tryz.prog ops11 Q (lawOf c) c.R 46 :=
  s_ldv hc 46 45 (by decide) (by decide) (by decide) (by decide) _ 3 _ _ (by kernel_rfl) rfl rfl rfl Tryz.underlying3 rfl
theorem st_47 : StepOK Tryz.prog ops11 Q (lawOf c) c.R 47 :=
  s_bs hc 47 (by decide) (by decide) (by decide) 18 [1, 0, c.M 1, c.M 2, c.M 3, 1000, 0, 0, 0, 1, 0, 0, 0, 0, 0, 0, 0, 1] #[(0, Operand.const (Value.int .i64 1)), (1, Operand.const (Value.int .i64 0)), (2, .tmp 73), (3, .tmp 77), (4, .tmp 81), (5, Operand.const (Value.int .i64 1000)), (6, Operand.const (Value.int .i64 0)), (7, Operand.const (Value.int .i64 0)), (8, Operand.const (Value.int .i64 0)), (9, Operand.const (Value.int .i64 1)), (10, Operand.const (Value.int .i64 0)), (11, Operand.const (Value.int .i64 0)), (12, Operand.const (Value.int .i64 0)), (13, Operand.const (Value.int .i64 0)), (14, Operand.const (Value.int .i64 0)), (15, Operand.const (Value.int .i64 0)), (16, Operand.const (Value.int .i64 0)), (17, .tmp 83)] (by kernel_rfl) rfl rfl (fun a w hb hl => by
    have h36 := (hl 36 (by show 36 ∈ [36, 40, 44, 46]; decide)).choose_spec
    have e36 : a.eval (.tmp 73) = (vi (c.M 1)) := h36
    have h40 := (hl 40 (by show 40 ∈ [36, 40, 44, 46]; decide)).choose_spec
    have e40 : a.eval (.tmp 77) = (vi (c.M 2)) := h40
    have h44 := (hl 44 (by show 44 ∈ [36, 40, 44, 46]; decide)).choose_spec
    have e44 : a.eval (.tmp 81) = (vi (c.M 3)) := h44
    have h46 := (hl 46 (by show 46 ∈ [36, 40, 44, 46]; decide)).choose_spec
    have e46 : a.eval (.tmp 83) = (vi 1) := h46
    have e : (#[(0, Operand.const (Value.int .i64 1)), (1, Operand.const (Value.int .i64 0)), (2, .tmp 73), (3, .tmp 77), (4, .tmp 81), (5, Operand.const (Value.int .i64 1000)), (6, Operand.const (Value.int .i64 0)), (7, Operand.const (Value.int .i64 0)), (8, Operand.const (Value.int .i64 0)), (9, Operand.const (Value.int .i64 1)), (10, Operand.const (Value.int .i64 0)), (11, Operand.const (Value.int .i64 0)), (12, Operand.const (Value.int .i64 0)), (13, Operand.const (Value.int .i64 0)), (14, Operand.const (Value.int .i64 0)), (15, Operand.const (Value.int .i64 0)), (16, Operand.const (Value.int .i64 0)), (17, .tmp 83)] : Array (Nat × Operand)).map (fun (i, x) => (i, a.eval x)) = (#[(0, vi 1), (1, vi 0), (2, vi (c.M 1)), (3, vi (c.M 2)), (4, vi (c.M 3)), (5, vi 1000), (6, vi 0), (7, vi 0), (8, vi 0), (9, vi 1), (10, vi 0), (11, vi 0), (12, vi 0), (13, vi 0), (14, vi 0), (15, vi 0), (16, vi 0), (17, vi 1)] : Array (Nat × Value)) := by
      simp only [List.map_toArray, List.map_cons, List.map_nil, e36, e40, e44, e46] <;> rfl
    exact bs_eq e (by kernel_rfl))
theorem st_48 : StepOK Tryz.prog ops11 Q (lawOf c) c.R 48 :=
  s_short hc 48 32 47 _ _ _ #[63, 29] (by decide) (by decide) (by decide) (by decide) (by decide) (by decide) (by kernel_rfl) rfl rfl rfl rfl (Nat.le_of_ble_eq_true rfl) (by decide) (by have := hc.file.lim.all 1; have := hc.file.lim.all 3; have := hc.file.lim.all 2; intro x hx; simp at hx; omega)
theorem st_49 : StepOK Tryz.prog ops11 Q (lawOf c) c.R 49 :=
  s_nilt hc 49 48 36 (by decide) (by decide) (by decide) (by decide) (by kernel_rfl) rfl rfl
theorem st_50 : StepOK Tryz.prog ops11 Q (lawOf c) c.R 50 :=
  s_fat hc 50 49 36 (by decide) (by decide) (by decide) (by decide) (by kernel_rfl) rfl rfl
theorem st_51 : StepOK Tryz.prog ops11 Q (lawOf c) c.R 51 :=
  s_ldt hc 51 50 _ (by decide) (by decide) (by decide) (by decide) (by kernel_rfl) rfl rfl (by decide) (by decide)
theorem st_52 : StepOK Tryz.prog ops11 Q (lawOf c) c.R 52 :=
  s_ins hc 52 51 3 ⟨#[104, 104, 101, 97]⟩ (by decide) rfl rfl (by kernel_rfl) rfl rfl rfl rfl (by kernel_rfl) (by decide)
theorem st_53 : StepOK Tryz.prog ops11 Q (lawOf c) c.R 53 :=
  s_fab hc 53 (by decide) (by decide) (by decide) _ 35 3 (by kernel_rfl) rfl (fun w => by kernel_rfl)
theorem st_54 : StepOK Tryz.prog ops11 Q (lawOf c) c.R 54 :=
  s_ldv hc 54 53 (by decide) (by decide) (by decide) (by decide) _ 29 _ _ (by kernel_rfl) rfl rfl rfl Tryz.underlying29 rfl
theorem st_55 : StepOK Tryz.prog ops11 Q (lawOf c) c.R 55 :=
  s_fab hc 55 (by decide) (by decide) (by decide) _ 35 4 (by kernel_rfl) rfl (fun w => by kernel_rfl)
theorem st_56 : StepOK Tryz.prog ops11 Q (lawOf c) c.R 56 :=
  s_ldv hc 56 55 (by decide) (by decide) (by decide) (by decide) _ 3 _ _ (by kernel_rfl) rfl rfl rfl Tryz.underlying3 rfl
theorem st_57 : StepOK Tryz.prog ops11 Q (lawOf c) c.R 57 :=
  s_new hc 57 18 #[.tmp 90, .tmp 92] #[29, 3] (by decide) (by decide) (by decide) (by decide) (by kernel_rfl) rfl (fun a w hb hl => by
    obtain ⟨_, e1⟩ := hl 54 (by show 54 ∈ [54, 56]; decide)
    obtain ⟨_, e2⟩ := hl 56 (by show 56 ∈ [54, 56]; decide)
    have e1' : a.eval (.tmp 90) = .slice (some ⟨c.G, 0, none⟩) c.k c.cap := e1
    have e2' : a.eval (.tmp 92) = vi 1 := e2
    have e : (#[.tmp 90, .tmp 92] : Array Operand).map a.eval = #[.slice (some ⟨c.G, 0, none⟩) c.k c.cap, vi 1] := by simp only [List.map_toArray, List.map_cons, List.map_nil, e1', e2']
    rw [e]
    have hp := hc.file.pos
    refine (long16_any c.G c.k c.cap w hp.1 hp.2.1 (hc.file.ints.ints.later hb.below)).mono ?_
    exact fun e w' h => ⟨2 * c.k + 2, by omega, by omega, h⟩)
theorem st_58 : StepOK Tryz.prog ops11 Q (lawOf c) c.R 58 :=
  s_ins hc 58 57 4 ⟨#[104, 109, 116, 120]⟩ (by decide) rfl rfl (by kernel_rfl) rfl rfl rfl rfl (by kernel_rfl) (by decide)
theorem st_59 : StepOK Tryz.prog ops11 Q (lawOf c) c.R 59 :=
  s_build hc 59 (by decide) (by decide) (by decide) (by kernel_rfl) rfl
theorem st_60 : StepOK Tryz.prog ops11 Q (lawOf c) c.R 60 :=
  s_box hc 60 59 (by decide) (by decide) (by decide) (by decide) (by kernel_rfl) rfl rfl
theorem st_61 : StepOK Tryz.prog ops11 Q (lawOf c) c.R 61 :=
  s_long hc 61 60 _ _ 20480 #[63, 3] (by decide) (by decide) (by decide) (by decide) (by kernel_rfl) rfl rfl rfl (by decide) (by decide) (by decide)
theorem st_62 : StepOK Tryz.prog ops11 Q (lawOf c) c.R 62 :=
  s_move hc 62 (by decide) (by decide) (by decide) 8 _ (by kernel_rfl) rfl (fun _ _ h => h.t8)
theorem st_63 : StepOK Tryz.prog ops11 Q (lawOf c) c.R 63 :=
  s_bs hc 63 (by decide) (by decide) (by decide) 1 [c.k] #[(0, .tmp 97)] (by kernel_rfl) rfl rfl (fun a w hb hl => by
    have h62 := (hl 62 (by show 62 ∈ [62]; decide)).choose_spec
    have e62 : a.eval (.tmp 97) = (vi c.k) := h62
    have e : (#[(0, .tmp 97)] : Array (Nat × Operand)).map (fun (i, x) => (i, a.eval x)) = (#[(0, vi (c.k))] : Array (Nat × Value)) := by
      simp only [List.map_toArray, List.map_cons, List.map_nil, e62] <;> rfl
    exact bs_eq e (by kernel_rfl))
theorem st_64 : StepOK Tryz.prog ops11 Q (lawOf c) c.R 64 :=
  s_short hc 64 61 63 _ _ _ #[63, 29] (by decide) (by decide) (by decide) (by decide) (by decide) (by decide) (by kernel_rfl) rfl rfl rfl rfl (Nat.le_of_ble_eq_true rfl) (by decide) (by have := hc.file.pos; intro x hx; simp at hx; omega)
theorem st_65 : StepOK Tryz.prog ops11 Q (lawOf c) c.R 65 :=
  s_nilt hc 65 64 6 (by decide) (by decide) (by decide) (by decide) (by kernel_rfl) rfl rfl
theorem st_66 : StepOK Tryz.prog ops11 Q (lawOf c) c.R 66 :=
  s_fat hc 66 65 6 (by decide) (by decide) (by decide) (by decide) (by kernel_rfl) rfl rfl
theorem st_67 : StepOK Tryz.prog ops11 Q (lawOf c) c.R 67 :=
  s_ldt hc 67 66 _ (by decide) (by decide) (by decide) (by decide) (by kernel_rfl) rfl rfl (by decide) (by decide)
theorem st_68 : StepOK Tryz.prog ops11 Q (lawOf c) c.R 68 :=
  s_ins hc 68 67 5 ⟨#[109, 97, 120, 112]⟩ (by decide) rfl rfl (by kernel_rfl) rfl rfl rfl rfl (by kernel_rfl) (by decide)
theorem st_69 : StepOK Tryz.prog ops11 Q (lawOf c) c.R 69 :=
  s_fab hc 69 (by decide) (by decide) (by decide) _ 35 1 (by kernel_rfl) rfl (fun w => by kernel_rfl)
theorem st_70 : StepOK Tryz.prog ops11 Q (lawOf c) c.R 70 :=
  s_ldv hc 70 69 (by decide) (by decide) (by decide) (by decide) _ 27 _ _ (by kernel_rfl) rfl rfl rfl Tryz.underlying27 rfl
theorem st_71 : StepOK Tryz.prog ops11 Q (lawOf c) c.R 71 :=
  s_move hc 71 (by decide) (by decide) (by decide) 1 _ (by kernel_rfl) rfl (fun _ _ h => h.t1)
theorem st_72 : StepOK Tryz.prog ops11 Q (lawOf c) c.R 72 :=
  s_new hc 72 19 #[.tmp 104, .tmp 105] #[27, 24] (by decide) (by decide) (by decide) (by decide) (by kernel_rfl) rfl (fun a w hb hl => by
    obtain ⟨_, e1⟩ := hl 70 (by show 70 ∈ [70, 71]; decide)
    obtain ⟨_, e2⟩ := hl 71 (by show 71 ∈ [70, 71]; decide)
    have e1' : a.eval (.tmp 104) = vnil := e1
    have e2' : a.eval (.tmp 105) = .slice c.A3 c.n3 c.c3 := e2
    have e : (#[.tmp 104, .tmp 105] : Array Operand).map a.eval = #[vnil, .slice c.A3 c.n3 c.c3] := by simp only [List.map_toArray, List.map_cons, List.map_nil, e1', e2']
    rw [e]
    exact (names_any c.A3 c.n3 c.c3 w).mono fun e w' h => ⟨6, by omega, by omega, h⟩)
theorem st_73 : StepOK Tryz.prog ops11 Q (lawOf c) c.R 73 :=
  s_ins hc 73 72 6 ⟨#[110, 97, 109, 101]⟩ (by decide) rfl rfl (by kernel_rfl) rfl rfl rfl rfl (by kernel_rfl) (by decide)
theorem st_74 : StepOK Tryz.prog ops11 Q (lawOf c) c.R 74 :=
  s_move hc 74 (by decide) (by decide) (by decide) 6 _ (by kernel_rfl) rfl (fun _ _ h => h.t6)
theorem st_75 : StepOK Tryz.prog ops11 Q (lawOf c) c.R 75 :=
  s_move hc 75 (by decide) (by decide) (by decide) 7 _ (by kernel_rfl) rfl (fun _ _ h => h.t7)
theorem st_76 : StepOK Tryz.prog ops11 Q (lawOf c) c.R 76 :=
  s_fab hc 76 (by decide) (by decide) (by decide) _ 35 2 (by kernel_rfl) rfl (fun w => by kernel_rfl)
theorem st_77 : StepOK Tryz.prog ops11 Q (lawOf c) c.R 77 :=
  s_ldv hc 77 76 (by decide) (by decide) (by decide) (by decide) _ 28 _ _ (by kernel_rfl) rfl rfl rfl Tryz.underlying28 rfl
theorem st_78 : StepOK Tryz.prog ops11 Q (lawOf c) c.R 78 :=
  s_new hc 78 20 #[.tmp 107, .tmp 108, .tmp 110] #[58, 61, 28] (by decide) (by decide) (by decide) (by decide) (by kernel_rfl) rfl (fun a w hb hl => by
    obtain ⟨_, e1⟩ := hl 74 (by show 74 ∈ [74, 75, 77]; decide)
    obtain ⟨_, e2⟩ := hl 75 (by show 75 ∈ [74, 75, 77]; decide)
    obtain ⟨_, e3⟩ := hl 77 (by show 77 ∈ [74, 75, 77]; decide)
    have e1' : a.eval (.tmp 107) = pt c.R 0 := e1
    have e2' : a.eval (.tmp 108) = pt c.F 0 := e2
    have e3' : a.eval (.tmp 110) = vnil := e3
    have e : (#[.tmp 107, .tmp 108, .tmp 110] : Array Operand).map a.eval = #[pt c.R 0, pt c.F 0, vnil] := by simp only [List.map_toArray, List.map_cons, List.map_nil, e1', e2', e3']
    rw [e]
    exact (post_any c.R c.F w (hc.file.met.later hb.below)).mono fun e w' h => ⟨32, by omega, by omega, h⟩)
theorem st_79 : StepOK Tryz.prog ops11 Q (lawOf c) c.R 79 :=
  s_ins hc 79 78 7 ⟨#[112, 111, 115, 116]⟩ (by decide) rfl rfl (by kernel_rfl) rfl rfl rfl rfl (by kernel_rfl) (by decide)
end
end Go.Proofs.YtgggpllmgnpngaaGreatDoor.Tb
