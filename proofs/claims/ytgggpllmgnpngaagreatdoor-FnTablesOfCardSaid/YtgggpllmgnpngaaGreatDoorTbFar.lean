/- An offset of four bytes that leads to a part, walked. -/
import Derived.Test.YtgggpllmgnpngaaGreatDoorTbText
namespace Go.Proofs.YtgggpllmgnpngaaGreatDoor.Tb
open Go Go.RowKit

theorem info98 : (Tryz.prog.info? 98).map (fun i => (i.zero, i.size, i.bytes)) = some (some (.agg #[.int .i64 0, .int .i64 0, .pointer none]), 3, 24) := by kernel_rfl

/-- A table with one link. -/
def Far (T X : Nat) (bs : List Nat) (v : Value) (w : World) (e : Ending) (w' : World) : Prop :=
  e = .returned (.pointer (some ⟨T, 0, none⟩)) ∧ ∃ v' L cap, Tab T (T + 1) (bs ++ shorts [0, 0]) (.slice (some ⟨L, 0, none⟩) 1 cap) w' v' ∧ w.heap.size ≤ L ∧ L < w'.heap.size ∧
    w'.cell? ⟨L, 0, none⟩ = some (.int .i64 (bs.length : Nat)) ∧ w'.cell? ⟨L, 1, none⟩ = some (.int .i64 4) ∧ w'.cell? ⟨L, 2, none⟩ = some (.pointer (some ⟨X, 0, none⟩)) ∧ Kept (fun k => k = T ∨ some k = v.ownBlock) w w'

theorem far_mid {T X n : Nat} {bs : List Nat} {v : Value} {w w1 : World} {g cap : Nat} (h : Tab T (T + 1) bs (.slice none 0 0) w v)
    (hg : (w.alloc (.cells #[.int .i64 (n : Nat), .int .i64 4, .pointer (some ⟨X, 0, none⟩)] 98)).drew.grownBy w1 none)
    (ho : w1.ownsRow (w.heap.size + 1) 98 3 (.slice (some ⟨g, 0, none⟩) 1 cap) 1 [.int .i64 (n : Nat), .int .i64 4, .pointer (some ⟨X, 0, none⟩)]) :
    (w1.cell? ⟨T, 1, none⟩ = some (.slice none 0 0) ∧ w1.frozen? ⟨T, 1, none⟩ = false) ∧
    Tab T (T + 1) bs (.slice (some ⟨g, 0, none⟩) 1 cap) (w1.setCell ⟨T, 1, none⟩ (.slice (some ⟨g, 0, none⟩) 1 cap)) v ∧ w.heap.size ≤ g ∧ g < w1.heap.size ∧
    (w1.setCell ⟨T, 1, none⟩ (.slice (some ⟨g, 0, none⟩) 1 cap)).cell? ⟨g, 0, none⟩ = some (.int .i64 (n : Nat)) ∧
    (w1.setCell ⟨T, 1, none⟩ (.slice (some ⟨g, 0, none⟩) 1 cap)).cell? ⟨g, 1, none⟩ = some (.int .i64 4) ∧
    (w1.setCell ⟨T, 1, none⟩ (.slice (some ⟨g, 0, none⟩) 1 cap)).cell? ⟨g, 2, none⟩ = some (.pointer (some ⟨X, 0, none⟩)) ∧
    Kept (fun k => k = T) w (w1.setCell ⟨T, 1, none⟩ (.slice (some ⟨g, 0, none⟩) 1 cap)) := by
  have hs := h.size
  have hl := h.low
  have hg1 := hg.size
  rw [World.size_drew, World.size_alloc] at hg1
  have hblk : ∀ q, q < w.heap.size → w1.heap[q]? = w.heap[q]? := fun q hq => by
    rw [hg.block q (by rw [World.size_drew, World.size_alloc]; omega) (by simp)]
    exact Below.heap_alloc _ _ _ (by omega)
  have hbT := hblk T (by omega)
  have e0 : w1.cell? ⟨T, 0, none⟩ = some v := (World.cell?_of_block hbT).trans h.cell
  have e1 : w1.cell? ⟨T, 1, none⟩ = some (.slice none 0 0) := (World.cell?_of_block hbT).trans h.link
  have f0 : w1.frozen? ⟨T, 0, none⟩ = false := (World.frozen?_of_block hbT).trans h.free
  have f1 : w1.frozen? ⟨T, 1, none⟩ = false := (World.frozen?_of_block hbT).trans h.free1
  have hgl := ho.lt g rfl
  have hgT : g ≠ T := by omega
  have hcg : ∀ j x, [Value.int .i64 (n : Nat), .int .i64 4, .pointer (some ⟨X, 0, none⟩)][j]? = some x → (w1.setCell ⟨T, 1, none⟩ (.slice (some ⟨g, 0, none⟩) 1 cap)).cell? ⟨g, j, none⟩ = some x := fun j x hx => by
    rw [World.cell?_of_block (Below.heap_setCell _ _ _ _ hgT)]
    have hj := (List.getElem?_eq_some_iff.1 hx).1
    rw [ho.cellAt j (by simpa using hj)]
    exact hx
  refine ⟨⟨e1, f1⟩, ⟨?_, World.cell?_setCell_same _ _ _ e1, by rw [World.frozen?_setCell]; exact f0, by rw [World.frozen?_setCell]; exact f1, ?_, h.low, by rw [World.size_setCell]; omega⟩, by omega, hgl.2, hcg 0 _ rfl, hcg 1 _ rfl, hcg 2 _ rfl, ?_⟩
  · rw [World.cell?_setCell_other _ _ _ _ (by simp)]; exact e0
  · refine own_block h.own (fun q hq => ?_)
    have hq2 := h.own.lt q hq
    rw [Below.heap_setCell _ _ _ _ (by show q ≠ T; omega)]
    exact hblk q hq2.2
  · exact ⟨hg.os, hg.tape, hg.output, by rw [World.size_setCell]; omega, fun q hq hn => by rw [Below.heap_setCell _ _ _ _ hn]; exact hblk q hq⟩

set_option maxRecDepth 100000 in
set_option maxHeartbeats 2000000 in
theorem far_any (T X : Nat) (bs : List Nat) (v : Value) (w : World) (hbs : bs.length ≤ 1000) (ht : Tab T (T + 1) bs (.slice none 0 0) w v) :
    Calls Tryz.prog 35 #[.pointer (some ⟨T, 0, none⟩), .pointer (some ⟨X, 0, none⟩)] w (Far T X bs v w) := by
  obtain ⟨i0, hi, hz0, hz1, hz2⟩ := info_parts info98
  obtain ⟨A, cap, rfl⟩ : ∃ A cap, v = .slice A bs.length cap := by
    rcases ht.own.2 with ⟨rfl, h0⟩ | ⟨g, cap, cur, rfl, _⟩
    · exact ⟨none, 0, by rw [h0]⟩
    · exact ⟨_, _, rfl⟩
  have HT := Lib.hid ht
  have hc := ht.cell
  have hl := ht.link
  have hf := ht.free1
  have hTw : T < w.heap.size := ht.size
  have hlow := ht.low
  have hsz := ht.size
  obtain ⟨n, hn⟩ : ∃ n, n = bs.length := ⟨_, rfl⟩
  rw [← hn] at hc hbs
  rw [← hn] at HT
  have HN := Lib.hid hn
  rw [← hn]
  clear ht hn
  go_enter Tryz.func35, Tryz.ntmps35
  go_upto_region 1 with fail
  go_region_law
    ((refine step_append_lies _ (by rfl) _ _ _ (by rfl) (w.heap.size + 1) 98 i0 _ 3 24 Tryz.underlying65 hi hz0 hz1 hz2 rfl (by omega) (.slice none 0 0) 0 [] (by rfl) (World.ownsRow_nil _ _ _ _) ⟨w.heap.size, 0, none⟩ 1 1 [.int .i64 (n : Nat), .int .i64 4, .pointer (some ⟨X, 0, none⟩)] (by rfl) (by rfl) (World.news_of_block (cs := #[.int .i64 (n : Nat), .int .i64 4, .pointer (some ⟨X, 0, none⟩)]) (t := 98) (fr := (0, 0)) (heap_alloc_new w _ : _)) (by simp [Value.oneCell']) (by omega) (by unfold maxLen; omega) (by omega) (by simp) (w.heap.size + 1) (by simp) ?_; intro gg gcap w1 hown1 hgrow hat hlt; have hq := far_mid (X := X) HT.out hgrow hown1; have q0 := hq.1.1; have q1 := hq.1.2; have q2 := Lib.hid hq.2; clear hq hgrow hown1 hat))
  all_goals
    have hL := Lib.hid (long_any T (T + 1) bs 0 (.slice (some ⟨gg, 0, none⟩) 1 gcap) (.slice A bs.length cap) (w1.setCell ⟨T, 1, none⟩ (.slice (some ⟨gg, 0, none⟩) 1 gcap)) (by omega) (by omega) (by have := HN.out; omega) (by have h := q2.out.1; rw [HN.out] at h; exact h))
    clear hc hl hf q0 q1
    go_wp2_with fail
    refine hL.out.mono ?_
    rintro e w2 ⟨rfl, v', hw⟩
    have hp : Far T X bs (.slice A n cap) w (.returned (.pointer (some ⟨T, 0, none⟩))) w2 := by
      obtain ⟨h1, h2, h3, h4, h5, h6, h7⟩ := q2.out
      have hgT : gg ≠ T := by omega
      have hkeep : ∀ j x, (w1.setCell ⟨T, 1, none⟩ (.slice (some ⟨gg, 0, none⟩) 1 gcap)).cell? ⟨gg, j, none⟩ = some x → w2.cell? ⟨gg, j, none⟩ = some x := fun j x hx => hw.kept.cell hx (fun h => by
        rcases h with h | h
        · exact hgT h
        · have h8 := (HT.out.own.lt gg (by rw [HN.out]; exact h.symm)).2
          omega)
      refine ⟨rfl, v', gg, gcap, hw.tab, h2, ?_, by rw [← HN.out]; exact hkeep 0 _ h4, hkeep 1 _ h5, hkeep 2 _ h6, ?_⟩
      · have := hw.kept.size; rw [World.size_setCell] at this; omega
      · rw [← HN.out] at hw
        exact (h7.sub (fun q _ h => Or.inl h)).trans hw.kept (fun q _ h => h)
    have HP := Lib.hid hp
    clear hp hw hL
    go_wp2_with fail
    go_ret
    exact HP.out
end Go.Proofs.YtgggpllmgnpngaaGreatDoor.Tb
