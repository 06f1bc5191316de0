/- An axis of a region, walked. -/
import Derived.Test.YtdknpamegphjlaaSmall
namespace Go.Proofs.Ytdknpamegphjlaa.Sd
open Go Go.RowKit

theorem coord_quiet {c p : Int} (hp : p = crd c) (h : -32768 ≤ c ∧ c ≤ 32767) (w : World) :
    Calls Try.prog 13 #[.int .i16 c] w fun e w' => e = .returned (.int .i64 p) ∧ w' = w := by
  rw [hp]
  exact (coord_any c w h).mono fun e w' ⟨h1, h2⟩ => ⟨h1, h2.symm⟩
theorem results_1 {fn : Func} {t : Tmp} {ty : TypeId} (h : fn.results = #[.cell t ty]) (tmps : Array Value) (P : Program) (w : World) (ad : Addr) (x : Value) (ht : tmps.getD t undef = .pointer (some ad)) (hl : (loadVar ty ad).run P w = .ok x w) :
    (results fn tmps).run P w = .ok x w := by
  have ht' : tmps[t]?.getD undef = .pointer (some ad) := by simpa using ht
  simp [results, h, ht', asAddr, hl]
theorem set_row {w : World} {g j : Nat} {cur : Array Value} {t : TypeId} {x : Value} (h : w.heap[g]? = some (.cells cur t (0, 0))) : (w.setCell ⟨g, j, none⟩ x).heap[g]? = some (.cells (cur.setIfInBounds j x) t (0, 0)) := by
  unfold World.setCell
  have hl : g < w.heap.size := by
    cases hh : w.heap[g]? with
    | none => rw [hh] at h; simp at h
    | some o => exact (Array.getElem?_eq_some_iff.mp hh).1
  have h' : w.heap[g] = .cells cur t (0, 0) := by rw [Array.getElem?_eq_getElem hl] at h; exact Option.some.inj h
  simp [Array.getElem_modify, h', hl]


def Axed (w : World) (e : Ending) (w' : World) : Prop := (∃ x : Ax, e = .returned (.agg #[.int .i64 x.a, .int .i64 x.b, .int .i64 x.c]) ∧ x.Ok) ∧ Below w.heap.size w w'

theorem three_row (w : World) (a b c : Int) (k : Nat) : ((((((w.alloc (.cells #[.int .i64 0, .int .i64 0, .int .i64 0] 48)).drewN k).setCell ⟨w.heap.size, 0, none⟩ (.int .i64 a)).setCell ⟨w.heap.size, 1, none⟩ (.int .i64 b)).setCell ⟨w.heap.size, 2, none⟩ (.int .i64 c))).heap[w.heap.size]? = some (.cells #[.int .i64 a, .int .i64 b, .int .i64 c] 48 (0, 0)) :=
  set_row (set_row (set_row (cur := #[.int .i64 0, .int .i64 0, .int .i64 0]) (heap_alloc_new w _)))
theorem three_below (w : World) (a b c : Int) (k : Nat) : Below w.heap.size w (((((w.alloc (.cells #[.int .i64 0, .int .i64 0, .int .i64 0] 48)).drewN k).setCell ⟨w.heap.size, 0, none⟩ (.int .i64 a)).setCell ⟨w.heap.size, 1, none⟩ (.int .i64 b)).setCell ⟨w.heap.size, 2, none⟩ (.int .i64 c)) :=
  (((below_drewN ((Below.refl _ _).alloc (Nat.le_refl _) _) k).setCell (Nat.le_refl _) _).setCell (Nat.le_refl _) _).setCell (Nat.le_refl _) _

set_option maxRecDepth 1000000 in
set_option maxHeartbeats 2000000 in
theorem axis_any (n cap k : Nat) (A : Option Addr) (w : World) (hn : n ≤ 9223372036854775807) (hk : k < 100) (h : In3 w A n) :
    Calls Try.prog 11 #[.slice A n cap, .int .i64 k] w (Axed w) := by
  have HH := Lib.hid h
  clear h
  by_cases hlt : k < n
  · obtain ⟨b, off, rfl, hc⟩ := HH.out (by omega)
    obtain ⟨x, y, z, hx, hy, hz, c0, c1, c2⟩ := hc k hlt
    have hb := World.block_lt_of_cell? w _ c0
    obtain ⟨p, hp⟩ : ∃ p, p = crd x := ⟨_, rfl⟩
    obtain ⟨q, hq⟩ : ∃ q, q = crd y := ⟨_, rfl⟩
    obtain ⟨r, hr⟩ : ∃ r, r = crd z := ⟨_, rfl⟩
    have bp := crd_in x
    have bq := crd_in y
    have br := crd_in z
    rw [← hp] at bp
    rw [← hq] at bq
    rw [← hr] at br
    have HX := Lib.hid (fun W => coord_quiet hp hx W)
    have HY := Lib.hid (fun W => coord_quiet hq hy W)
    have HZ := Lib.hid (fun W => coord_quiet hr hz W)
    have hkn : (k : Int) < n := by omega
    have hb' : Below w.heap.size w (w.alloc (.cells #[.int .i64 0, .int .i64 0, .int .i64 0] 48)) := (Below.refl _ _).alloc (Nat.le_refl _) _
    have e0 := below_cell hb' c0
    have e1 := below_cell hb' c1
    have e2 := below_cell hb' c2
    clear hc hp hq hr hx hy hz c0 c1 c2
    go_enter Try.func11, Try.ntmps11
    go_wp2_with fail
    go_quiet ((go_at_call 13; first | exact Calls.quiet_of_same (HX.out _) | exact Calls.quiet_of_same (HY.out _) | exact Calls.quiet_of_same (HZ.out _)))
    go_wp2_with fail
    all_goals
      refine bodyPost_ret (results_1 rfl _ _ _ ⟨w.heap.size, 0, none⟩ _ rfl (run_loadVar_row _ _ _ 48 _ _ _ (three_row w _ _ _ nq) Try.underlying48 rfl (by kernel_rfl))) rfl ⟨⟨⟨_, _, _⟩, rfl, ?_⟩, three_below w _ _ _ nq⟩
      exact ⟨by dsimp only; omega, by dsimp only; omega, by dsimp only; omega, by dsimp only; omega, by dsimp only; omega⟩
  · have hkn : ¬ (k : Int) < n := by omega
    go_enter Try.func11, Try.ntmps11
    go_wp2_with fail
    refine bodyPost_ret (results_1 rfl _ _ _ ⟨w.heap.size, 0, none⟩ _ rfl (run_loadVar_row _ _ _ 48 _ _ _ (heap_alloc_new w _) Try.underlying48 rfl (by kernel_rfl))) rfl ⟨⟨⟨_, _, _⟩, rfl, ?_⟩, (Below.refl _ _).alloc (Nat.le_refl _) _⟩
    exact ⟨by decide, by decide, by decide, by decide, by decide⟩
end Go.Proofs.Ytdknpamegphjlaa.Sd
