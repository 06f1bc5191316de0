/- The writer's choice, walked. -/
import Derived.Test.YtgggpllmgnpngaaGreatDoorTbCmap4
namespace Go.Proofs.YtgggpllmgnpngaaGreatDoor.Tb
open Go Go.RowKit

structure Writer (R : Nat) (A : Option Addr) (n cap c : Nat) (W : World) : Prop where
  ways : W.cell? ⟨R, 0, none⟩ = some (.slice A n cap)
  count : W.cell? ⟨R, 1, none⟩ = some (.int .i64 (c : Nat))
  free : W.frozen? ⟨R, 1, none⟩ = false
  big : W.cell? ⟨R, 2, none⟩ = some (.bool false)

structure Chose (R : Nat) (A : Option Addr) (n cap c : Nat) (w w' : World) : Prop where
  writer : ∃ c', c' ≤ c + 1 ∧ Writer R A n cap c' w'
  kept : Kept (fun k => k = R) w w'

theorem chose_next {R : Nat} {A : Option Addr} {n cap c : Nat} {w : World} (h : Writer R A n cap c w) (q : Nat) : Chose R A n cap c w ((w.drewN q).setCell ⟨R, 1, none⟩ (.int .i64 ((c : Int) + 1))) := by
  refine ⟨⟨c + 1, Nat.le_refl _, ?_, ?_, ?_, ?_⟩, ?_⟩
  · rw [World.cell?_setCell_other _ _ _ _ (by simp)]; exact h.ways
  · have := World.cell?_setCell_same (w := w.drewN q) (a := ⟨R, 1, none⟩) (v := .int .i64 ((c : Int) + 1)) h.count
    rw [this]
    rfl
  · rw [World.frozen?_setCell]; exact h.free
  · rw [World.cell?_setCell_other _ _ _ _ (by simp)]; exact h.big
  · exact ⟨rfl, rfl, rfl, by rw [World.size_setCell]; exact Nat.le_refl _, fun k _ hk => by rw [Below.heap_setCell _ _ _ _ hk]; rfl⟩

set_option maxRecDepth 100000 in
set_option maxHeartbeats 2000000 in
theorem way_any (R : Nat) (A : Option Addr) (n cap c : Nat) (w : World) (hn : n ≤ 2147483647) (hc : c ≤ 100) (hw : Writer R A n cap c w) (hA : InU8 w A n) :
    Calls Tryz.prog 34 #[.pointer (some ⟨R, 0, none⟩), .int .i64 2] w fun e w' => (∃ r, e = .returned (.int .i64 r)) ∧ Chose R A n cap c w w' := by
  have h0 := hw.ways
  have h1 := hw.count
  have hf := hw.free
  have HW := Lib.hid hw
  have HAA := Lib.hid hA
  clear hw hA
  by_cases hz : n = 0
  · subst hz
    go_enter Tryz.func34, Tryz.ntmps34
    go_wp2
    go_ret
    exact ⟨⟨_, rfl⟩, ⟨c, Nat.le_succ c, HW.out⟩, Kept.refl _ _⟩
  · obtain ⟨b, off, rfl, hcells⟩ := HAA.out (by omega)
    obtain ⟨r, hr⟩ : ∃ r : Nat, r = c % n := ⟨_, rfl⟩
    have hrn : r < n := by rw [hr]; exact Nat.mod_lt _ (by omega)
    obtain ⟨x, hx, c0⟩ := hcells r hrn
    obtain ⟨d, hd⟩ : ∃ d : Nat, d = c / n := ⟨_, rfl⟩
    have hdc : d ≤ 100 := by rw [hd]; exact Nat.le_trans (Nat.div_le_self _ _) hc
    have e1 : (c : Int) % (n : Int) = (r : Int) := by rw [hr]; exact (Int.natCast_emod c n).symm
    have e2 : (c : Int) / (n : Int) = (d : Int) := by rw [hd]; exact (Int.natCast_ediv c n).symm
    have e3 : (c : Int).tmod (n : Int) = (r : Int) := by rw [Int.tmod_eq_emod_of_nonneg (by omega)]; exact e1
    have e4 : (c : Int).tdiv (n : Int) = (d : Int) := by rw [Int.tdiv_eq_ediv_of_nonneg (by omega)]; exact e2
    have e5 : IntKind.i64.wrap (d : Int) = d := IntWalk.i64_in _ (by omega)
    have e6 : IntKind.i64.wrap ((x : Int) + d) = (x : Int) + d := IntWalk.i64_in _ (by omega)
    have n0 : (n : Int) ≠ 0 := by omega
    have n1 : ¬ (n : Int) = 0 := by omega
    have i1 : (r : Int) < n := by omega
    clear hr hd hcells
    go_enter Tryz.func34, Tryz.ntmps34
    go_wp2
    go_quiet (fail)
    go_wp2
    go_ret
    exact ⟨⟨_, rfl⟩, chose_next HW.out nq⟩


theorem Writer.later {R c n cap : Nat} {A : Option Addr} {w w' : World} (h : Writer R A n cap c w) (k : Below w.heap.size w w') : Writer R A n cap c w' := by
  refine ⟨below_cell k h.ways, below_cell k h.count, ?_, below_cell k h.big⟩
  rw [← h.free]
  exact k.frozen (World.block_lt_of_cell? w _ h.count)
end Go.Proofs.YtgggpllmgnpngaaGreatDoor.Tb
