/- The region of the map's literal, whatever its order. -/
import Derived.Test.YtgggpllmgnpngaaGreatDoorTbAll
namespace Go.Proofs.YtgggpllmgnpngaaGreatDoor.Tb
open Go Go.RowKit

theorem rep_false (n j : Nat) : (Array.replicate n false).getD j false = false := by
  rw [Array.getD_eq_getD_getElem?, Array.getElem?_replicate]
  split <;> rfl

section
variable {c : Ctx} (hc : c.Ok) {Q : Exit → Act → World → Prop}
theorem s_last (i : Nat) (hi80 : i = 80 ∨ i = 81) : StepOK Tryz.prog ops11 Q (lawOf c) c.R i := by
  intro o listed a w F M ho hun hall hb hB hsh hM hlive hdis
  obtain ⟨hi, rfl⟩ := at_of ho
  refine wpOp_of ho (dst_is i hi).2 ?_
  have h0 : listed.getD 0 false = true := by
    rcases hi80 with rfl | rfl
    · exact after_of hall (by kernel_rfl)
    · exact after_of hall (by kernel_rfl)
  obtain ⟨m, m1, m2, m3, m4⟩ := hsh.map h0
  have hrun : (execOp a.eval (opAt i)).run Tryz.prog w = .ok (.value (.map (some m))) w := by
    rcases hi80 with rfl | rfl
    · have hop : (opAt 80).op = .move (.tmp 39) := by kernel_rfl
      unfold execOp; rw [hop]; dsimp only
      rw [m1]; rfl
    · have hop : (opAt 81).op = .assign (.tmp 112) := by kernel_rfl
      unfold execOp; rw [hop]; dsimp only
      rw [m2 (after_of hall (by kernel_rfl))]; rfl
  unfold Oper.wp
  rw [hrun]
  have hd : (opAt i).dst = some (tmpAt i) := by rcases hi80 with rfl | rfl <;> kernel_rfl
  have hins : ∀ j ∈ insL, insOf j ≠ i := by rcases hi80 with rfl | rfl <;> decide
  have ht : tmpAt i ≠ 39 := by rcases hi80 with rfl | rfl <;> decide
  have hki : kindAt c i = .non := by rcases hi80 with rfl | rfl <;> rfl
  have ne0 : (0 : Nat) ≠ i := by rcases hi80 with rfl | rfl <;> decide
  have ne5 : (5 : Nat) ≠ i := by rcases hi80 with rfl | rfl <;> decide
  refine ⟨_, fun _ => False, M, rfl, hb.put hi hb.below, ?_, ?_, Nat.le_refl _, fun b h => h.elim, fun b h => ⟨(hM b h).2, (hM b h).1, Or.inl h⟩, fun b _ _ _ => rfl⟩
  · refine ⟨fun h5 => hsh.fresh (by rw [← set_other (i := i) ne5]; exact h5), hsh.writer, hsh.mine, fun h => ?_, fun _ => ⟨m, ?_, fun h80 => ?_, fun h81 => ?_, ?_⟩⟩
    · rw [set_other ne0, h0] at h; cases h
    · rw [hd, eval_put_far _ _ _ _ (fun e => ht (by injection e))]; exact m1
    · rcases hi80 with rfl | rfl
      · rw [hd, show (112 : Nat) = tmpAt 80 from rfl, eval_put_same _ _ _ (by rw [hb.size]; decide)]
      · rw [hd, eval_put_far _ _ _ _ (by decide)]; exact m2 (by rw [← set_other (i := 81) (show 80 ≠ 81 by decide)]; exact h80)
    · rcases hi80 with rfl | rfl
      · rw [hd, eval_put_far _ _ _ _ (by decide)]; exact m3 (by rw [← set_other (i := 80) (show 81 ≠ 80 by decide)]; exact h81)
      · rw [hd, show (10 : Nat) = tmpAt 81 from rfl, eval_put_same _ _ _ (by rw [hb.size]; decide)]
    · rw [Sof_other hins]; exact m4
  · show liveK (kindAt c i) _ _ _
    rw [hki]
    trivial
include hc
theorem steps (i : Nat) (hi : i < ops11.size) : StepOK Tryz.prog ops11 Q (lawOf c) c.R i := by
  rw [ops11_size] at hi
  match i, hi with
  | 0, _ => exact s_make
  | 1, _ => exact st_1 hc
  | 2, _ => exact st_2 hc
  | 3, _ => exact st_3 hc
  | 4, _ => exact st_4 hc
  | 5, _ => exact s_cmap hc
  | 6, _ => exact st_6 hc
  | 7, _ => exact st_7 hc
  | 8, _ => exact st_8 hc
  | 9, _ => exact st_9 hc
  | 10, _ => exact st_10 hc
  | 11, _ => exact st_11 hc
  | 12, _ => exact st_12 hc
  | 13, _ => exact st_13 hc
  | 14, _ => exact st_14 hc
  | 15, _ => exact st_15 hc
  | 16, _ => exact st_16 hc
  | 17, _ => exact st_17 hc
  | 18, _ => exact st_18 hc
  | 19, _ => exact st_19 hc
  | 20, _ => exact st_20 hc
  | 21, _ => exact st_21 hc
  | 22, _ => exact st_22 hc
  | 23, _ => exact st_23 hc
  | 24, _ => exact st_24 hc
  | 25, _ => exact st_25 hc
  | 26, _ => exact st_26 hc
  | 27, _ => exact st_27 hc
  | 28, _ => exact st_28 hc
  | 29, _ => exact st_29 hc
  | 30, _ => exact st_30 hc
  | 31, _ => exact st_31 hc
  | 32, _ => exact st_32 hc
  | 33, _ => exact st_33 hc
  | 34, _ => exact st_34 hc
  | 35, _ => exact st_35 hc
  | 36, _ => exact st_36 hc
  | 37, _ => exact st_37 hc
  | 38, _ => exact st_38 hc
  | 39, _ => exact st_39 hc
  | 40, _ => exact st_40 hc
  | 41, _ => exact st_41 hc
  | 42, _ => exact st_42 hc
  | 43, _ => exact st_43 hc
  | 44, _ => exact st_44 hc
  | 45, _ => exact st_45 hc
  | 46, _ => exact st_46 hc
  | 47, _ => exact st_47 hc
  | 48, _ => exact st_48 hc
  | 49, _ => exact st_49 hc
  | 50, _ => exact st_50 hc
  | 51, _ => exact st_51 hc
  | 52, _ => exact st_52 hc
  | 53, _ => exact st_53 hc
  | 54, _ => exact st_54 hc
  | 55, _ => exact st_55 hc
  | 56, _ => exact st_56 hc
  | 57, _ => exact st_57 hc
  | 58, _ => exact st_58 hc
  | 59, _ => exact st_59 hc
  | 60, _ => exact st_60 hc
  | 61, _ => exact st_61 hc
  | 62, _ => exact st_62 hc
  | 63, _ => exact st_63 hc
  | 64, _ => exact st_64 hc
  | 65, _ => exact st_65 hc
  | 66, _ => exact st_66 hc
  | 67, _ => exact st_67 hc
  | 68, _ => exact st_68 hc
  | 69, _ => exact st_69 hc
  | 70, _ => exact st_70 hc
  | 71, _ => exact st_71 hc
  | 72, _ => exact st_72 hc
  | 73, _ => exact st_73 hc
  | 74, _ => exact st_74 hc
  | 75, _ => exact st_75 hc
  | 76, _ => exact st_76 hc
  | 77, _ => exact st_77 hc
  | 78, _ => exact st_78 hc
  | 79, _ => exact st_79 hc
  | 80, _ => exact s_last 80 (Or.inl rfl)
  | 81, _ => exact s_last 81 (Or.inr rfl)
  | i + 82, h => exact absurd h (by omega)

theorem lit_region {id : Nat} {a : Act} {w : World} (hb : BaseOf c a w) (hw : Writer c.R c.A3 c.n3 c.c3 0 w) (hR : c.R < w.heap.size)
    (hQ : ∀ (a' : Act) (w' : World) (m : Nat) (len : Nat → Nat) (F : Foot), BaseOf c a' w' → a'.eval (.tmp 10) = .map (some m) → (∃ q, q ≤ 1 ∧ Writer c.R c.A3 c.n3 c.c3 q w') → (∀ j ∈ insL, 0 < len j ∧ len j ≤ 1000) → ShF m insL len F w' → (∀ b, F b → c.R < b ∧ b < w'.heap.size) → Q .normal a' w') :
    (Code.region id ops11 true).wp Tryz.prog Q a w := by
  refine wp_region_own (L := lawOf c) (B := c.R) (by kernel_rfl) (lawOf_tidy c) (lawOf_stable c) (steps hc) ?_ ?_
  · intro listed a' w' hI hr
    have hsz : listed.size = 82 := by rw [hI.size, ops11_size]
    have hall := all_listed hsz hr
    obtain ⟨F, M, hsh, hM, _⟩ := hI.feet
    obtain ⟨m, m1, m2, m3, len, Fm, m4, m5, m6⟩ := hsh.map (hall 0 (by decide))
    have hS : Sof listed = insL := by
      unfold Sof
      refine List.filter_eq_self.2 fun j hj => hall _ ?_
      have : ∀ j ∈ insL, insOf j < 82 := by decide
      exact this j hj
    rw [hS] at m4 m5
    refine hQ a' w' m len Fm hI.base (m3 (hall 81 (by decide))) hsh.writer m4 m5 fun b hb2 => ?_
    have h1 := hM b (m6 b hb2).1
    have h2 := (m6 b hb2).2
    omega
  · refine ⟨by rw [Array.size_replicate], ⟨hb.size, hb.defers, hb.t1, hb.t2, hb.t6, hb.t7, hb.t8, hb.t9, hb.below.drew⟩, by show c.R ≤ w.heap.size; omega, fun _ _ => False, fun b => b = c.R, ?_, fun b hb2 => ?_, fun j hj => ?_, fun j k hj => ?_⟩
    · have hwd : Writer c.R c.A3 c.n3 c.c3 0 w.drew := hw.block rfl
      refine ⟨fun _ => hwd, ⟨0, by omega, hwd⟩, rfl, fun _ => ⟨?_, rep_false _ _, rep_false _ _⟩, fun h => ?_⟩
      · unfold Sof
        refine List.filter_eq_nil_iff.2 fun j _ => ?_
        rw [rep_false]
        decide
      · rw [rep_false] at h; cases h
    · subst hb2; exact ⟨Nat.le_refl _, hR⟩
    · have := hj.1
      rw [rep_false] at this; cases this
    · have := hj.1
      rw [rep_false] at this; cases this
end
end Go.Proofs.YtgggpllmgnpngaaGreatDoor.Tb
