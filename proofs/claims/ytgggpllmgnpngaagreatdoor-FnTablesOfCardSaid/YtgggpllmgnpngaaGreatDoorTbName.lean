/- A table of no names, and the metrics of glyphs, walked. -/
import Derived.Test.YtgggpllmgnpngaaGreatDoorTbCmap
import Derived.Lib.SliceRun
import Derived.Laws.AppendOwnNone
namespace Go.Proofs.YtgggpllmgnpngaaGreatDoor.Tb
open Go Go.RowKit

def NewBytes (n : Nat) (w : World) (e : Ending) (w' : World) : Prop := (∃ v, e = .returned v ∧ BytesN w.heap.size n w' v) ∧ Below w.heap.size w w'

theorem clone_nil (w : World) : Calls Tryz.prog 37 #[.slice none 0 0] w fun e w' => e = .returned (.slice none 0 0) ∧ w = w' := by
  have hnil : ∀ W : World, (binOp .eql 27 (.slice none 0 0) (.slice none 0 0)).run Tryz.prog W = .ok (.bool true) W := fun W => by
    have h := Lib.run_eql_slice_nil (P := Tryz.prog) W 27 104 none 0 0 0 0 Tryz.underlying27
    simpa using h
  go_enter Tryz.func37, Tryz.ntmps37
  go_wp2
  go_ret
  exact ⟨rfl, rfl⟩

theorem insort_nil (w : World) : Calls Tryz.prog 89 #[.slice none 0 0, .int .i64 0, .int .i64 0, .func (.func 39) #[] #[]] w fun e w' => e = .returned (.tuple #[]) ∧ w = w' := by
  go_enter Tryz.func89, Tryz.ntmps89
  go_wp2
  refine wp_loop_rounds 1 ?_
  rw [rounds_succ]
  go_wp2
  go_end0
  exact ⟨rfl, rfl⟩

theorem stable_nil (w : World) : Calls Tryz.prog 63 #[.slice none 0 0, .int .i64 0, .func (.func 39) #[] #[]] w fun e w' => e = .returned (.tuple #[]) ∧ w = w' := by
  go_enter Tryz.func63, Tryz.ntmps63
  go_wp2
  refine wp_loop_rounds 1 ?_
  rw [rounds_succ]
  go_wp2_with fail
  refine (insort_nil w).mono ?_
  rintro e w1 ⟨rfl, rfl⟩
  go_wp2_with fail
  refine wp_loop_rounds 1 ?_
  rw [rounds_succ]
  go_wp2
  go_end0
  exact ⟨rfl, rfl⟩

theorem sort_nil (w : World) : Calls Tryz.prog 38 #[.slice none 0 0, .func (.func 39) #[] #[]] w fun e w' => e = .returned (.tuple #[]) ∧ w = w' := by
  go_enter Tryz.func38, Tryz.ntmps38
  go_wp2_with fail
  refine (stable_nil w).mono ?_
  rintro e w1 ⟨rfl, rfl⟩
  go_wp2
  go_end0
  exact ⟨rfl, rfl⟩

set_option maxRecDepth 1000000 in
set_option maxHeartbeats 400000 in
theorem names_any (A : Option Addr) (n cap : Nat) (w : World) : Calls Tryz.prog 19 #[.slice none 0 0, .slice A n cap] w (NewBytes 6 w) := by
  obtain ⟨i0, hi, hz0, hz1, hz2⟩ := info_parts info5
  have hb : Below w.heap.size w (w.alloc (.cells #[.slice A n cap, .int .i64 0, .bool false] 60)) := (Below.refl _ _).alloc (Nat.le_refl _) _
  have hS := Lib.hid (short_n _ 0 3 w _ [.int .i64 0, .int .i64 0, .int .i64 6] [0, 0, 6] rfl rfl (by omega) (by intro y hy; simp at hy; omega) (by omega) (tabn_start (w0 := w) (w.alloc (.cells #[.slice A n cap, .int .i64 0, .bool false] 60)) hb))
  clear hb
  go_enter Tryz.func19, Tryz.ntmps19
  go_wp2_with fail
  with_reducible refine (clone_nil _).mono ?_
  rintro e w1 ⟨rfl, hw⟩
  subst hw
  go_wp2_with fail
  with_reducible refine (sort_nil _).mono ?_
  rintro e w1 ⟨rfl, hw⟩
  subst hw
  simp only [World.size_alloc] at hS
  go_wp2_with fail
  with_reducible refine hS.out.mono ?_
  rintro e w2 ⟨rfl, ht⟩
  obtain ⟨h0, v, bs, h1, h2, h3, h4⟩ := ht
  have hc := h3.cell
  have hown := h3.own
  have HP := Lib.hid (show NewBytes 6 w (.returned v) w2 from ⟨⟨v, rfl, bs, h1, h2, by rw [h1] at hown; exact own_mono hown (by omega)⟩, h4⟩)
  clear hS h1 h2 h3 h4 h0
  go_wp2_with fail
  refine wp_loop_rounds 1 ?_
  rw [rounds_succ]
  go_wp2_with (at_builtin; go_must (refine wpList_append_own_none rfl (.tmp 114) (.tmp 115) 24 rfl _ 5 i0 1 Tryz.underlying24 hi v _ _ rfl hown rfl ?_))
  go_ret
  exact HP.out

end Go.Proofs.YtgggpllmgnpngaaGreatDoor.Tb
