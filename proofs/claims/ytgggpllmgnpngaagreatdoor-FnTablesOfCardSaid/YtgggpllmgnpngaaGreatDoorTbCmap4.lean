/- An empty character map of two bytes a character, walked. -/
import Derived.Test.YtgggpllmgnpngaaGreatDoorTbFar
namespace Go.Proofs.YtgggpllmgnpngaaGreatDoor.Tb
open Go Go.RowKit

def NewTab (n : Nat) (w : World) (e : Ending) (w' : World) : Prop := ∃ T, e = .returned (.pointer (some ⟨T, 0, none⟩)) ∧ TabN T n w w'

theorem row_low (w : World) (l : List Value) (t : TypeId) (n : Nat) (hn : l.length = n) (h63 : n ≤ 100) : Row (fun _ => False) (w.alloc (.cells l.toArray t)) (.slice (some ⟨w.heap.size, 0, none⟩) n n) n l := row_new _ w l t n (fun h => h) hn (by omega)

set_option maxRecDepth 1000000 in
set_option maxHeartbeats 4000000 in
theorem cmap4_any (R : Nat) (w : World) : Calls Tryz.prog 36 #[.pointer (some ⟨R, 0, none⟩), .slice none 0 0] w (NewTab 24 w) := by
  have hC1 := Lib.hid (fun (T X : Nat) (W : World) (h : TabX T 0 X 7 [.int .i64 4, .int .i64 24, .int .i64 0, .int .i64 2, .int .i64 2, .int .i64 0, .int .i64 0] w W) => short_x T 0 X 7 w W _ [4, 24, 0, 2, 2, 0, 0] rfl rfl (by omega) (by intro y hy; simp at hy; omega) (by omega) h)
  have hA := ((tabn_start w (Below.refl w.heap.size w)).row (cs := [.int .i64 4, .int .i64 24, .int .i64 0, .int .i64 2, .int .i64 2, .int .i64 0, .int .i64 0]) (m := 7) (t := 3) rfl (by omega)).drew
  have hB := (tabx_start (w0 := w) (w.alloc (.cells #[.int .i64 4, .int .i64 24, .int .i64 0, .int .i64 2, .int .i64 2, .int .i64 0, .int .i64 0] 3)) ((Below.refl _ _).alloc (Nat.le_refl _) _) (row_low w [.int .i64 4, .int .i64 24, .int .i64 0, .int .i64 2, .int .i64 2, .int .i64 0, .int .i64 0] 3 7 rfl (by omega))).drew
  rw [World.size_alloc] at hA hB
  have HA := Lib.hid hA
  have HB := Lib.hid hB
  clear hA hB
  go_enter Tryz.func36, Tryz.ntmps36
  go_wp2_with fail
  refine wp_loop_rounds 1 ?_
  rw [rounds_succ]
  go_wp2_with fail
  have k8 : IntKind.i64.wrap 8 = 8 := by decide
  have k24 : IntKind.i64.wrap 24 = 24 := by decide
  have k2 : IntKind.i64.wrap 2 = 2 := by decide
  have k0 : IntKind.i64.wrap 0 = 0 := by decide
  go_cut [7] (fun tv W => ∃ T, tv = .pointer (some ⟨T, 0, none⟩) ∧ TabN T 14 w W)
  case first =>
    go_region_with
      (first
        | (go_at_call 16; (with_reducible refine (hC1.out _ _ _ HA.out).mono ?_); rintro e w3 ⟨rfl, ht3⟩)
        | (go_at_call 16; (with_reducible refine (hC1.out _ _ _ HB.out).mono ?_); rintro e w3 ⟨rfl, ht3⟩))
    all_goals
      go_wp2_with fail
      go_meet
      case rel => exact ⟨_, rfl, ht3⟩
  case rest =>
    obtain ⟨T, rfl, ht⟩ := hcut
    obtain ⟨w1, rfl⟩ : ∃ w1 : World, w1 = wc := ⟨_, rfl⟩
    have hS := Lib.hid (short_n T 14 2 w w1 [.int .i64 65535, .int .i64 0] [65535, 0] rfl rfl (by omega) (by intro y hy; simp at hy; omega) (by omega) ht)
    clear ht HA HB hC1
    go_wp2_with fail
    refine wp_loop_rounds 1 ?_
    rw [rounds_succ]
    go_wp2_with fail
    refine hS.out.mono ?_
    rintro e w2 ⟨rfl, ht⟩
    have hS2 := Lib.hid (short_n T 18 1 w w2 [.int .i64 65535] [65535] rfl rfl (by omega) (by intro y hy; simp at hy; omega) (by omega) ht)
    clear ht hS
    go_wp2_with fail
    refine wp_loop_rounds 1 ?_
    rw [rounds_succ]
    go_wp2_with fail
    refine hS2.out.mono ?_
    rintro e w3 ⟨rfl, ht⟩
    have hS3 := Lib.hid (short_n T 20 1 w w3 [.int .i64 1] [1] rfl rfl (by omega) (by intro y hy; simp at hy; omega) (by omega) ht)
    clear ht hS2
    go_wp2_with fail
    refine wp_loop_rounds 1 ?_
    rw [rounds_succ]
    go_wp2_with fail
    refine hS3.out.mono ?_
    rintro e w4 ⟨rfl, ht⟩
    have hS4 := Lib.hid (short_n T 22 1 w w4 [.int .i64 0] [0] rfl rfl (by omega) (by intro y hy; simp at hy; omega) (by omega) ht)
    clear ht hS3
    go_wp2_with fail
    refine wp_loop_rounds 2 ?_
    rw [rounds_succ]
    go_wp2_with fail
    refine hS4.out.mono ?_
    rintro e w5 ⟨rfl, ht⟩
    have HT := Lib.hid ht
    clear ht hS4
    go_wp2_with fail
    rw [rounds_succ]
    go_wp2_with fail
    go_ret
    exact ⟨T, rfl, HT.out⟩
end Go.Proofs.YtgggpllmgnpngaaGreatDoor.Tb
