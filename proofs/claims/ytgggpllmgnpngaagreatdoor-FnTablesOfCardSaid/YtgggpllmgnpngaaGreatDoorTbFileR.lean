/- A file in memory. -/
import Derived.Test.YtgggpllmgnpngaaGreatDoorTbPost
namespace Go.Proofs.YtgggpllmgnpngaaGreatDoor.Tb
open Go Go.RowKit

theorem tdiv4 (x : Int) (h : -32768 ≤ x ∧ x ≤ 32767) : -8192 ≤ x.tdiv 4 ∧ x.tdiv 4 ≤ 8192 := by
  rcases Int.le_total 0 x with h0 | h0
  · rw [Int.tdiv_eq_ediv_of_nonneg h0]; omega
  · have h1 : (-x).tdiv 4 = -(x.tdiv 4) := Int.neg_tdiv _ _
    have h2 := Int.tdiv_eq_ediv_of_nonneg (a := -x) (b := 4) (by omega)
    omega

theorem at_any (B n cap i : Nat) (A : Option Addr) (w : World) (hn : n ≤ 9223372036854775807) (hi : i < 100) (hc : w.cell? ⟨B, 0, none⟩ = some (.slice A n cap)) (h : InI16 w A n) :
    Calls Tryz.prog 10 #[.int .i64 i, .pointer (some ⟨B, 0, none⟩)] w fun e w' => (∃ x, e = .returned (.int .i64 x) ∧ -8192 ≤ x ∧ x ≤ 8192) ∧ w = w' := by
  have HH := Lib.hid h
  clear h
  by_cases hl : i < n
  · obtain ⟨b, off, rfl, hcell⟩ := HH.out (by omega)
    obtain ⟨x, hx, c0⟩ := hcell i hl
    have k0 : IntKind.i64.wrap x = x := IntWalk.i64_in _ (by omega)
    obtain ⟨y, hy⟩ : ∃ y, y = x.tdiv 4 := ⟨_, rfl⟩
    have hyb : -8192 ≤ y ∧ y ≤ 8192 := by rw [hy]; exact tdiv4 x hx
    have k1 := hy.symm
    have kl : (i : Int) < n := by omega
    have HY := Lib.hid hyb
    obtain ⟨hy1, hy2⟩ := hyb
    clear hcell hy
    go_enter Tryz.func10, Tryz.ntmps10
    go_wp2
    go_ret
    exact ⟨⟨y, rfl, HY.out.1, HY.out.2⟩, rfl⟩
  · have kl : ¬ (i : Int) < n := by omega
    go_enter Tryz.func10, Tryz.ntmps10
    go_wp2
    go_ret
    exact ⟨⟨0, rfl, by omega, by omega⟩, rfl⟩

theorem abs_any (x : Int) (w : World) (h : -8192 ≤ x ∧ x ≤ 8192) :
    Calls Tryz.prog 11 #[.int .i64 x] w fun e w' => (∃ y, e = .returned (.int .i64 y) ∧ 0 ≤ y ∧ y ≤ 8192) ∧ w = w' := by
  obtain ⟨y, hy⟩ : ∃ y, y = if x < -x then -x else x := ⟨_, rfl⟩
  have k1 := hy.symm
  have hyb : 0 ≤ y ∧ y ≤ 8192 := by rw [hy]; split <;> omega
  have HY := Lib.hid hyb
  clear hy hyb
  go_enter Tryz.func11, Tryz.ntmps11
  go_wp2
  go_ret
  exact ⟨⟨y, rfl, HY.out.1, HY.out.2⟩, rfl⟩
end Go.Proofs.YtgggpllmgnpngaaGreatDoor.Tb

namespace Go.Proofs.YtgggpllmgnpngaaGreatDoor.Tb
open Go Go.RowKit

set_option maxRecDepth 100000 in
theorem wp_build {w : World} {o : Oper} {a : Act} {K : Act → World → Prop} {Q : Exit → Act → World → Prop} (t : TypeId) (parts : Array (Nat × Operand)) (ho : o.op = .build t parts) (cells : Array Value) (h : Tryz.prog.built t ((parts.map fun p => (p.1, a.eval p.2)).toList) = some cells) (hK : K (a.put o.dst (.agg cells)) w) : o.wp Tryz.prog a w K Q := by
  have hr := run_build (P := Tryz.prog) w t (parts.map fun p => (p.1, a.eval p.2)) cells h
  unfold Oper.wp execOp
  rw [ho]
  dsimp only
  rw [Sem.run_bind, hr]
  exact hK

/-- A row of advances. -/
def AdvAt (G n : Nat) (w : World) : Prop := G < w.heap.size ∧ ∀ j, j < n → ∃ x : Int, (0 ≤ x ∧ x ≤ 16000) ∧ w.cell? ⟨G, j, none⟩ = some (.int .i64 x)
theorem AdvAt.later {G n : Nat} {w w' : World} (h : AdvAt G n w) (k : Below w.heap.size w w') : AdvAt G n w' :=
  ⟨Nat.lt_of_lt_of_le h.1 k.size, fun j hj => by obtain ⟨x, h1, h2⟩ := h.2 j hj; exact ⟨x, h1, below_cell k h2⟩⟩
theorem AdvAt.ints {G n : Nat} {w : World} (h : AdvAt G n w) : IntsAt G n w := ⟨h.1, fun j hj => by obtain ⟨x, h1, h2⟩ := h.2 j hj; exact ⟨x, by omega, h2⟩⟩

/-- A file: its numbers, its advances, nothing else. -/
def fileCells (M : Nat → Int) (b7 b16 b17 : Bool) (adv long : Value) : Array Value := #[.int .i64 (M 0), .int .i64 (M 1), .int .i64 (M 2), .int .i64 (M 3), .int .i64 (M 4), .int .i64 (M 5), .int .i64 (M 6), .bool b7, .int .i64 (M 8), .int .i64 (M 9), .int .i64 (M 10), .int .i64 (M 11), .int .i64 (M 12), .int .i64 (M 13), .int .i64 (M 14), .int .i64 (M 15), .bool b16, .bool b17, .int .i64 (M 18), .int .i64 (M 19), .int .i64 (M 20), .int .i64 (M 21), .int .i64 (M 22), .int .i64 (M 23), .int .i64 (M 24), .int .i64 (M 25), .slice none 0 0, .slice none 0 0, adv, long, .slice none 0 0, .slice none 0 0, .bool false, .slice none 0 0, .slice none 0 0, .map none]

structure InU16 (A : Option Addr) (n : Nat) (w : World) : Prop where
  get : 0 < n → ∃ b off, A = some ⟨b, off, none⟩ ∧ ∀ j, j < n → ∃ x : Nat, x < 65536 ∧ w.cell? ⟨b, off + j, none⟩ = some (.int .u16 (x : Nat))

def zeroFile : Array Value := #[.int .i64 0, .int .i64 0, .int .i64 0, .int .i64 0, .int .i64 0, .int .i64 0, .int .i64 0, .bool false, .int .i64 0, .int .i64 0, .int .i64 0, .int .i64 0, .int .i64 0, .int .i64 0, .int .i64 0, .int .i64 0, .bool false, .bool false, .int .i64 0, .int .i64 0, .int .i64 0, .int .i64 0, .int .i64 0, .int .i64 0, .int .i64 0, .int .i64 0, .slice none 0 0, .slice none 0 0, .slice none 0 0, .int .i64 0, .slice none 0 0, .slice none 0 0, .bool false, .slice none 0 0, .slice none 0 0, .map none]

/-- The bounds of a file's numbers. -/
structure Lims (M : Nat → Int) : Prop where
  all : ∀ j, -16000 ≤ M j ∧ M j ≤ 16000
  upem : 16 ≤ M 0
  weight : 1 ≤ M 14 ∧ M 14 ≤ 1000
  width : 1 ≤ M 15 ∧ M 15 ≤ 9

/-- The file's cells, and the cells in which it is handed back. -/
structure FileAt (w : World) (F : Nat) (M : Nat → Int) (b7 b16 b17 : Bool) (adv long : Value) (W : World) : Prop where
  lim : Lims M
  low : w.heap.size + 1 < F
  cells : ∀ j, W.cell? ⟨F, j, none⟩ = (fileCells M b7 b16 b17 adv long)[j]?
  free : ∀ j, W.frozen? ⟨F, j, none⟩ = false
  back : W.heap[w.heap.size + 1]? = some (.cells zeroFile 35 (0, 0))
  below : Below w.heap.size w W

theorem list_lim (l : List Int) (h : ∀ x ∈ l, -16000 ≤ x ∧ x ≤ 16000) : ∀ j, -16000 ≤ l.getD j 0 ∧ l.getD j 0 ≤ 16000 := by
  intro j
  by_cases hj : j < l.length
  · rw [List.getD_eq_getElem?_getD, List.getElem?_eq_getElem hj]
    exact h _ (List.getElem_mem hj)
  · rw [List.getD_eq_getElem?_getD, List.getElem?_eq_none (by omega)]
    exact ⟨by decide, by decide⟩
theorem file_start {w W0 : World} {M : Nat → Int} {b7 b16 b17 : Bool} (hM : Lims M) (h1 : W0.heap.size = w.heap.size + 2) (h2 : W0.heap[w.heap.size + 1]? = some (.cells zeroFile 35 (0, 0))) (h3 : Below w.heap.size w W0) :
    FileAt w W0.heap.size M b7 b16 b17 (.slice none 0 0) (.int .i64 0) (W0.alloc (.cells (fileCells M b7 b16 b17 (.slice none 0 0) (.int .i64 0)) 35)) := by
  have h := heap_alloc_new W0 (.cells (fileCells M b7 b16 b17 (.slice none 0 0) (.int .i64 0)) 35)
  exact ⟨hM, by omega, fun j => cell_in h, fun j => frozen_in h, by rw [Below.heap_alloc _ _ _ (by omega)]; exact h2, h3.alloc (by omega) _⟩

def Filed (w : World) (e : Ending) (w' : World) : Prop :=
  ∃ M b7 b16 b17 G k cap, e = .returned (.agg (fileCells M b7 b16 b17 (.slice (some ⟨G, 0, none⟩) k cap) (.int .i64 1))) ∧ Lims M ∧ 0 < k ∧ k ≤ 40 ∧ k ≤ cap ∧ cap ≤ 9223372036854775807 ∧ AdvAt G k w' ∧ Below w.heap.size w w'

end Go.Proofs.YtgggpllmgnpngaaGreatDoor.Tb

namespace Go.Proofs.YtgggpllmgnpngaaGreatDoor.Tb
open Go Go.RowKit

/-- A file in memory. -/
structure FileR (M : Nat → Int) (b7 b16 b17 : Bool) (F G k cap : Nat) (w : World) : Prop where
  low : F < w.heap.size
  cells : ∀ j v, (fileCells M b7 b16 b17 (.slice (some ⟨G, 0, none⟩) k cap) (.int .i64 1))[j]? = some v → w.cell? ⟨F, j, none⟩ = some v
  lim : Lims M
  ints : AdvAt G k w
  pos : 0 < k ∧ k ≤ 40 ∧ k ≤ cap ∧ cap ≤ 9223372036854775807
theorem FileR.later {M : Nat → Int} {b7 b16 b17 : Bool} {F G k cap : Nat} {w w' : World} (h : FileR M b7 b16 b17 F G k cap w) (b : Below w.heap.size w w') : FileR M b7 b16 b17 F G k cap w' :=
  ⟨Nat.lt_of_lt_of_le h.low b.size, fun j v hv => below_cell b (h.cells j v hv), h.lim, h.ints.later b, h.pos⟩
theorem FileR.met {M : Nat → Int} {b7 b16 b17 : Bool} {F G k cap : Nat} {w : World} (h : FileR M b7 b16 b17 F G k cap w) : MetR F w := by
  refine ⟨h.low, fun j hj h7 h16 h17 => ⟨M j, by have := h.lim.all j; omega, h.cells j _ ?_⟩, fun j hj => ?_⟩
  · match j, hj, h7, h16, h17 with
    | 0, _, _, _, _ | 1, _, _, _, _ | 2, _, _, _, _ | 3, _, _, _, _ | 4, _, _, _, _ | 5, _, _, _, _ | 6, _, _, _, _ | 8, _, _, _, _ | 9, _, _, _, _ | 10, _, _, _, _ | 11, _, _, _, _ | 12, _, _, _, _ | 13, _, _, _, _ | 14, _, _, _, _ | 15, _, _, _, _ | 18, _, _, _, _ | 19, _, _, _, _ | 20, _, _, _, _ | 21, _, _, _, _ | 22, _, _, _, _ | 23, _, _, _, _ | 24, _, _, _, _ | 25, _, _, _, _ => rfl
    | j + 26, h, _, _, _ => exact absurd h (by omega)
  · rcases hj with rfl | rfl | rfl
    · exact ⟨b7, h.cells 7 _ rfl⟩
    · exact ⟨b16, h.cells 16 _ rfl⟩
    · exact ⟨b17, h.cells 17 _ rfl⟩

end Go.Proofs.YtgggpllmgnpngaaGreatDoor.Tb
