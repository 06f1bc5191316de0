/- The subtables made, walked. -/
import Derived.Test.YtkfgmjcdaggjcaaKpSub
namespace Go.Proofs.Ytkfgmjcdaggjcaa.Kp
open Go Go.RowKit

set_option maxRecDepth 1000000 in
set_option maxHeartbeats 2000000 in
theorem all_any (T L n h1 h2 h3 G : Nat) (w : World) (hT : T < w.heap.size) (hc : w.cell? ⟨T, 0, none⟩ = some (.iface 77 (headVal L n h1 h2 h3 G))) :
    Calls Try.prog 16 #[.agg #[.int .u16 0, .slice (some ⟨T, 0, none⟩) 1 1]] w fun e w' => (∃ O : Nat, e = .returned (.slice (some ⟨O, 0, none⟩) 1 1) ∧ O < w'.heap.size ∧ w'.cell? ⟨O, 0, none⟩ = some (.iface 121 (.slice (some ⟨G, 0, none⟩) n n))) ∧ Below w.heap.size w w' := by
  have HS := Lib.hid (fun W => sub_any L n h1 h2 h3 G W)
  obtain ⟨hv, hhv⟩ : ∃ hv, hv = headVal L n h1 h2 h3 G := ⟨_, rfl⟩
  rw [← hhv] at HS hc
  clear hhv
  have hmk : ∀ u : World, (Instr.makeSlice 39 (.int .i64 1) (.int .i64 1)).run Try.prog u = .ok (.slice (some ⟨u.heap.size, 0, none⟩) 1 1) (u.alloc (.cells #[.nilIface, .int .u8 0, .bool false, .int .i64 0] 49)) := fun _ => by kernel_rfl
  go_enter Try.func16, Try.ntmps16
  go_wp2_with fail
  refine wp_loop_rounds 2 ?_
  rw [rounds_succ]
  go_wp2_with fail
  refine (HS.out _).mono ?_
  rintro e w1 ⟨rfl, hb1⟩
  have hrow : ((w.alloc (.cells #[.int .u16 0, .slice (some ⟨T, 0, none⟩) 1 1] 62)).alloc (.cells #[.nilIface, .int .u8 0, .bool false, .int .i64 0] 49)).heap[w.heap.size + 1]? = some (.cells #[.nilIface, .int .u8 0, .bool false, .int .i64 0] 49 (0, 0)) := by
    have := heap_alloc_new (w.alloc (.cells #[.int .u16 0, .slice (some ⟨T, 0, none⟩) 1 1] 62)) (.cells #[.nilIface, .int .u8 0, .bool false, .int .i64 0] 49)
    rwa [World.size_alloc] at this
  have hrow1 := (hb1.block _ (by simp)).trans hrow
  have HBW := Lib.hid ((((Below.refl w.heap.size w).alloc (Nat.le_refl _) (.cells #[.int .u16 0, .slice (some ⟨T, 0, none⟩) 1 1] 62)).alloc (by simp) (.cells #[.nilIface, .int .u8 0, .bool false, .int .i64 0] 49)).trans (hb1.mono (by simp; omega)))
  have HROW1 := Lib.hid hrow1
  have r0 : w1.cell? ⟨w.heap.size + 1, 0, none⟩ = some .nilIface := by rw [cell_in hrow1]; rfl
  have r1 : w1.cell? ⟨w.heap.size + 1, 1, none⟩ = some (.int .u8 0) := by rw [cell_in hrow1]; rfl
  have r2 : w1.cell? ⟨w.heap.size + 1, 2, none⟩ = some (.bool false) := by rw [cell_in hrow1]; rfl
  have r3 : w1.cell? ⟨w.heap.size + 1, 3, none⟩ = some (.int .i64 0) := by rw [cell_in hrow1]; rfl
  have t0 : w1.frozen? ⟨w.heap.size + 1, 0, none⟩ = false := frozen_in hrow1
  have t1 : w1.frozen? ⟨w.heap.size + 1, 1, none⟩ = false := frozen_in hrow1
  have t2 : w1.frozen? ⟨w.heap.size + 1, 2, none⟩ = false := frozen_in hrow1
  have t3 : w1.frozen? ⟨w.heap.size + 1, 3, none⟩ = false := frozen_in hrow1
  clear hrow hrow1 hb1 hmk
  go_wp2_with fail
  obtain ⟨W5, hW5⟩ : ∃ W5, W5 = (((w1.setCell ⟨w.heap.size + 1, 0, none⟩ (.iface 121 (.slice (some ⟨G, 0, none⟩) n n))).setCell ⟨w.heap.size + 1, 1, none⟩ (.int .u8 0)).setCell ⟨w.heap.size + 1, 2, none⟩ (.bool false)).setCell ⟨w.heap.size + 1, 3, none⟩ (.int .i64 0) := ⟨_, rfl⟩
  have q0 := set_row (j := 0) (x := .iface 121 (.slice (some ⟨G, 0, none⟩) n n)) HROW1.out
  have q1 := set_row (j := 1) (x := .int .u8 0) q0
  have q2 := set_row (j := 2) (x := .bool false) q1
  have q3 := set_row (j := 3) (x := .int .i64 0) q2
  have hb5 := (((HBW.out.setCell (p := ⟨w.heap.size + 1, 0, none⟩) (by show w.heap.size ≤ w.heap.size + 1; omega) (.iface 121 (.slice (some ⟨G, 0, none⟩) n n))).setCell (p := ⟨w.heap.size + 1, 1, none⟩) (by show w.heap.size ≤ w.heap.size + 1; omega) (.int .u8 0)).setCell (p := ⟨w.heap.size + 1, 2, none⟩) (by show w.heap.size ≤ w.heap.size + 1; omega) (.bool false)).setCell (p := ⟨w.heap.size + 1, 3, none⟩) (by show w.heap.size ≤ w.heap.size + 1; omega) (.int .i64 0)
  rw [← hW5] at q3 hb5 ⊢
  have HQ := Lib.hid (And.intro q3 hb5)
  clear q0 q1 q2 q3 hb5 hW5 r0 r1 r2 r3 t0 t1 t2 t3
  rw [rounds_succ]
  go_wp2
  go_ret
  obtain ⟨q3, hb5⟩ := HQ.out
  exact ⟨⟨w.heap.size + 1, rfl, (Array.getElem?_eq_some_iff.1 q3).1, by rw [cell_in q3]; simp⟩, hb5⟩
end Go.Proofs.Ytkfgmjcdaggjcaa.Kp
