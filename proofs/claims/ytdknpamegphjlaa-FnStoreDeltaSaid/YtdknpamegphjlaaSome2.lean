/- Lists of deltas made of what came in: the world of a round. -/
import Derived.Test.YtdknpamegphjlaaSome
namespace Go.Proofs.Ytdknpamegphjlaa.Sd
open Go Go.RowKit

def intCells (l : List Int) : List Value := l.map fun x => .int .i64 x
theorem intCells_snoc (l : List Int) (x : Int) : intCells (l ++ [x]) = intCells l ++ [.int .i64 x] := by simp [intCells]
theorem intCells_len (l : List Int) : (intCells l).length = l.length := by simp [intCells]

/-- The list that is made: its regions so far, no items. -/
structure XR (wo W : World) (X : Nat) (rv : Value) (rl : List Int) (nall k : Nat) : Prop where
  c0 : W.cell? ⟨X, 0, none⟩ = some rv
  c1 : W.cell? ⟨X, 1, none⟩ = some (.slice none 0 0)
  f0 : W.frozen? ⟨X, 0, none⟩ = false
  f1 : W.frozen? ⟨X, 1, none⟩ = false
  own : W.ownsRow (X + 1) 3 1 rv k (intCells rl)
  below : Below X wo W
  size : X < W.heap.size
  old : X = wo.heap.size
  len : rl.length = k
  fit : ∀ x ∈ rl, 0 ≤ x ∧ x < nall

theorem XR.start (wo : World) (nall : Nat) : XR wo (wo.alloc (.cells #[.slice none 0 0, .slice none 0 0] 37)) wo.heap.size (.slice none 0 0) [] nall 0 := by
  have h := heap_alloc_new wo (.cells #[.slice none 0 0, .slice none 0 0] 37)
  exact ⟨by rw [cell_in h]; rfl, by rw [cell_in h]; rfl, frozen_in h, frozen_in h, World.ownsRow_nil _ _ _ _, (Below.refl _ _).alloc (Nat.le_refl _) _, by simp, rfl, rfl, by simp⟩

/-- One region more: the memory behind the append, and behind the store. -/
theorem XR.mid {wo W W1 : World} {X nall k g cap : Nat} {rv : Value} {rl : List Int} {y : Int} (h : XR wo W X rv rl nall k) (hg : ((W.alloc (.cells #[.int .i64 y] 3)).drew).grownBy W1 rv.ownBlock)
    (ho : W1.ownsRow (X + 1) 3 1 (.slice (some ⟨g, 0, none⟩) (k + 1) cap) (k + 1) (intCells rl ++ [.int .i64 y])) :
    W1.cell? ⟨X, 0, none⟩ = some rv ∧ W1.frozen? ⟨X, 0, none⟩ = false ∧ (0 ≤ y → y < nall → XR wo (W1.setCell ⟨X, 0, none⟩ (.slice (some ⟨g, 0, none⟩) (k + 1) cap)) X (.slice (some ⟨g, 0, none⟩) (k + 1) cap) (rl ++ [y]) nall (k + 1)) := by
  have hs := h.size
  have hne : some X ≠ rv.ownBlock := fun e => by have := (h.own.lt X e.symm).1; omega
  have hlt : X < (W.alloc (.cells #[.int .i64 y] 3)).drew.heap.size := by rw [World.size_drew, World.size_alloc]; omega
  have hb : W1.heap[X]? = W.heap[X]? := by
    rw [hg.block X hlt hne]
    exact Below.heap_alloc _ _ _ (by omega)
  have e0 : W1.cell? ⟨X, 0, none⟩ = some rv := (World.cell?_of_block hb).trans h.c0
  have g0 : W1.frozen? ⟨X, 0, none⟩ = false := (World.frozen?_of_block hb).trans h.f0
  have hgX : g ≠ X := fun e => by have := (ho.lt g rfl).1; omega
  have hs1 := hg.size
  rw [World.size_drew, World.size_alloc] at hs1
  refine ⟨e0, g0, fun y0 y1 => ⟨World.cell?_setCell_same _ _ _ e0, ?_, by rw [World.frozen?_setCell]; exact g0, ?_, ?_, ?_, ?_, h.old, by simp [h.len], all_snoc h.fit ⟨y0, y1⟩⟩⟩
  · rw [World.cell?_setCell_other _ _ _ _ (by simp)]
    exact (World.cell?_of_block hb).trans h.c1
  · rw [World.frozen?_setCell]
    exact (World.frozen?_of_block hb).trans h.f1
  · rw [intCells_snoc]
    exact own_block ho (fun q hq => Below.heap_setCell _ _ _ _ (fun e => by
      have e2 : q = X := e
      injection hq with hq
      exact hgX (hq.trans e2)))
  · have hb3 : Below X wo W1 := ((h.below.alloc (by omega) _).drew).grown hg (by omega) (fun q hq => by have := (h.own.lt q hq).1; omega)
    exact hb3.setCell (Nat.le_refl _) _
  · rw [World.size_setCell]; omega

/-- .. with items. -/
structure XT (wo W : World) (X : Nat) (rv tv : Value) (rl : List Int) (items : List (List Int)) (vs : List Value) (j : Nat) : Prop where
  c0 : W.cell? ⟨X, 0, none⟩ = some rv
  c1 : W.cell? ⟨X, 1, none⟩ = some tv
  f1 : W.frozen? ⟨X, 1, none⟩ = false
  regs : IntsR (fun q => q ≤ X ∨ some q = tv.ownBlock) W rv rl
  grows : Grows IntsR (fun q => q ≤ X) (X + 1) 32 W tv items vs
  below : Below X wo W
  size : X < W.heap.size
  old : X = wo.heap.size
  len : items.length = j
  fit : ∀ row ∈ items, row.length = rl.length ∧ ∀ x ∈ row, -32768 ≤ x ∧ x ≤ 32767

theorem XR.items {wo W : World} {X nall k : Nat} {rv : Value} {rl : List Int} (h : XR wo W X rv rl nall k) : XT wo W X rv (.slice none 0 0) rl [] [] 0 := by
  refine ⟨h.c0, h.c1, h.f1, ?_, ⟨World.ownsRow_nil _ _ _ _, fun i u x h => by simp at h⟩, h.below, h.size, h.old, rfl, by simp⟩
  have ho := h.own
  rw [← h.len] at ho
  exact row_of_own ho (fun q hq e => by
    rcases e with e | e
    · have := (h.own.lt q hq).1; omega
    · simp [Value.ownBlock] at e)

/-- A world that only has more. -/
theorem XT.later {wo W W' : World} {X j : Nat} {rv tv : Value} {rl : List Int} {items : List (List Int)} {vs : List Value} (h : XT wo W X rv tv rl items vs j) (k : Below W.heap.size W W') : XT wo W' X rv tv rl items vs j := by
  have hs := h.size
  refine ⟨below_cell k h.c0, below_cell k h.c1, ?_, h.regs.below k, h.grows.kept good_ints k, h.below.trans (k.mono (by omega)), Nat.lt_of_lt_of_le h.size k.size, h.old, h.len, h.fit⟩
  rw [← h.f1]
  exact k.frozen (by exact hs)

theorem XT.mid {wo W W1 : World} {X j g cap : Nat} {rv tv u : Value} {rl : List Int} {items : List (List Int)} {vs : List Value} {row : List Int} {base : Nat} (h : XT wo W X rv tv rl items vs j) (hu : W.ownsRow base 3 1 u rl.length (intCells row)) (hl : row.length = rl.length) (hf : ∀ x ∈ row, -32768 ≤ x ∧ x ≤ 32767)
    (hbase : X < base ∧ ∀ q, tv.ownBlock = some q → q < base)
    (hg : (W.alloc (.cells #[u] 32)).grownBy W1 tv.ownBlock) (ho : W1.ownsRow (X + 1) 32 1 (.slice (some ⟨g, 0, none⟩) (j + 1) cap) (j + 1) (vs ++ [u])) (hat : tv.ownBlock = some g ∨ g = W.heap.size + 1) :
    W1.cell? ⟨X, 1, none⟩ = some tv ∧ W1.frozen? ⟨X, 1, none⟩ = false ∧ XT wo (W1.setCell ⟨X, 1, none⟩ (.slice (some ⟨g, 0, none⟩) (j + 1) cap)) X rv (.slice (some ⟨g, 0, none⟩) (j + 1) cap) rl (items ++ [row]) (vs ++ [u]) (j + 1) := by
  have hs := h.size
  have hbA : Below W.heap.size W (W.alloc (.cells #[u] 32)) := (Below.refl _ _).alloc (Nat.le_refl _) _
  have hA := h.later hbA
  have hne : some X ≠ tv.ownBlock := fun e => by have := (h.grows.own.lt X e.symm).1; omega
  have hb : W1.heap[X]? = (W.alloc (.cells #[u] 32)).heap[X]? := hg.block X hA.size hne
  have e0 : W1.cell? ⟨X, 0, none⟩ = some rv := (World.cell?_of_block hb).trans hA.c0
  have e1 : W1.cell? ⟨X, 1, none⟩ = some tv := (World.cell?_of_block hb).trans hA.c1
  have g1 : W1.frozen? ⟨X, 1, none⟩ = false := (World.frozen?_of_block hb).trans hA.f1
  have hgX : X < g := by have := (ho.lt g rfl).1; omega
  have hs1 := hg.size
  have hsA := hA.size
  have hru : IntsR (fun q => q ≤ X ∨ some q = tv.ownBlock) (W.alloc (.cells #[u] 32)) u row := by
    have h2 : Row (fun q => q ≤ X ∨ some q = tv.ownBlock) W u row.length (intCells row) := by
      rw [hl]
      exact row_of_own hu (fun q hq e => by
        have := (hu.lt q hq).1
        rcases e with e | e
        · omega
        · have := hbase.2 q e.symm; omega)
    exact h2.below hbA
  have hgr : Grows IntsR (fun q => q ≤ X) (X + 1) 32 W1 (.slice (some ⟨g, 0, none⟩) (j + 1) cap) (items ++ [row]) (vs ++ [u]) := by
    refine hA.grows.snoc good_ints hg (by rw [h.len]; exact ho) ?_ hru
    rcases hat with e | e
    · left; rw [e]; rfl
    · right; exact ⟨g, rfl, by rw [World.size_alloc]; omega⟩
  have hreg : IntsR (fun q => q ≤ X ∨ some q = (Value.slice (some ⟨g, 0, none⟩) (j + 1) cap).ownBlock) W1 rv rl := by
    rcases hat with e | e
    · have e' : (Value.slice (some ⟨g, 0, none⟩) (j + 1) cap).ownBlock = tv.ownBlock := by rw [e]; rfl
      rw [e']
      exact hA.regs.kept (kept_of_grown hg) (fun q _ hq => Or.inr hq)
    · have h2 := hA.regs.kept (kept_of_grown hg) (fun q _ hq => Or.inr hq)
      have h3 : IntsR (fun q => (q ≤ X ∨ some q = tv.ownBlock) ∨ some q = (Value.slice (some ⟨g, 0, none⟩) (j + 1) cap).ownBlock) (W.alloc (.cells #[u] 32)) rv rl := hA.regs.sub (fun q hq h => by
        rcases h with h | h
        · exact h
        · have h4 : q = g := Option.some.inj h
          rw [World.size_alloc] at hq
          omega)
      exact (h3.kept (kept_of_grown hg) (fun q _ hq => Or.inl (Or.inr hq))).sub (fun q _ h => by
        rcases h with h | h
        · exact Or.inl (Or.inl h)
        · exact Or.inr h)
  have hb3 : Below X wo W1 := (hA.below).grown hg (by omega) (fun q hq => by have := (h.grows.own.lt q hq).1; omega)
  refine ⟨e1, g1, ⟨?_, World.cell?_setCell_same _ _ _ e1, by rw [World.frozen?_setCell]; exact g1, ?_, hgr.set good_ints (Nat.le_refl X) (by omega) _, hb3.setCell (Nat.le_refl _) _, by rw [World.size_setCell]; omega, h.old, by simp [h.len], all_snoc h.fit ⟨hl, hf⟩⟩⟩
  · rw [World.cell?_setCell_other _ _ _ _ (by simp)]
    exact e0
  · exact hreg.kept (kept_set W1 X 1 _) (fun q _ hq => Or.inl (by rw [hq]; exact Nat.le_refl X))

/-- The lists so far. -/
structure Lists (wb W : World) (v : Value) (l : List Dl) (cs : List Value) (i nall m : Nat) : Prop where
  own : W.ownsRow wb.heap.size 37 2 v i cs
  each : ∀ (k : Nat) (x : Dl), l[k]? = some x → ∃ r t, cs[k * 2]? = some r ∧ cs[k * 2 + 1]? = some t ∧ IntsR (fun q => some q = v.ownBlock) W r x.regs ∧ GridR (fun q => some q = v.ownBlock) W t x.items
  below : Below wb.heap.size wb W
  len : l.length = i
  fit : ∀ d ∈ l, d.regs.length ≤ 5 ∧ (∀ k ∈ d.regs, 0 ≤ k ∧ k < nall) ∧ d.items.length = m ∧ ∀ row ∈ d.items, row.length = d.regs.length ∧ ∀ x ∈ row, -32768 ≤ x ∧ x ≤ 32767

theorem Lists.nil (wb : World) (nall m : Nat) : Lists wb wb (.slice none 0 0) [] [] 0 nall m := ⟨World.ownsRow_nil _ _ _ _, fun k x h => by simp at h, Below.refl _ _, rfl, by simp⟩

theorem Lists.snoc {wb wo W W1 : World} {v v' rv tv : Value} {l : List Dl} {cs vs : List Value} {i nall m X g cap : Nat} {rl : List Int} {items : List (List Int)} (h : Lists wb wo v l cs i nall m) (hx : XT wo W X rv tv rl items vs m) (hr : rl.length ≤ 5) (hrl : ∀ k ∈ rl, 0 ≤ k ∧ k < nall)
    (hv : v' = .slice (some ⟨g, 0, none⟩) (i + 1) cap) (hg : (W.alloc (.cells #[rv, tv] 37)).grownBy W1 v.ownBlock) (ho : W1.ownsRow wb.heap.size 37 2 v' (i + 1) (cs ++ [rv, tv])) (hat : v.ownBlock = some g ∨ g = W.heap.size + 1) : Lists wb W1 v' (l ++ [⟨rl, items⟩]) (cs ++ [rv, tv]) (i + 1) nall m := by
  have hX := hx.old
  have hbA : Below W.heap.size W (W.alloc (.cells #[rv, tv] 37)) := (Below.refl _ _).alloc (Nat.le_refl _) _
  have hsW := hx.below.size
  have hbo : Below wo.heap.size wo (W.alloc (.cells #[rv, tv] 37)) := by rw [← hX]; exact hx.below.trans (hbA.mono (by omega))
  have hvlt : ∀ q, v.ownBlock = some q → q < X := fun q hq => by rw [hX]; exact (h.own.lt q hq).2
  have hsb := h.below.size
  have key : ∀ {α : Type} {R : (Nat → Prop) → World → Value → α → Prop} (_ : Good R) {u : Value} {x : α}, R (fun q => some q = v.ownBlock) (W.alloc (.cells #[rv, tv] 37)) u x → R (fun q => some q = v'.ownBlock) W1 u x := fun {α R} hR {u x} h1 => by
    rcases hat with e | e
    · have e' : v'.ownBlock = v.ownBlock := by rw [hv, e]; rfl
      rw [e']; exact hR.kept h1 (kept_of_grown hg) (fun _ _ h => h)
    · have h2 : R (fun p => some p = v.ownBlock ∨ some p = v'.ownBlock) (W.alloc (.cells #[rv, tv] 37)) u x := hR.sub h1 (fun p hp h => by
        rcases h with h | h
        · exact h
        · rw [hv] at h; have h4 : p = g := Option.some.inj h; rw [World.size_alloc] at hp; omega)
      exact hR.sub (hR.kept h2 (kept_of_grown hg) (fun _ _ h => Or.inl h)) (fun p _ h => Or.inr h)
  have hcl := h.own.1
  refine ⟨ho, fun k x hk => ?_, ((h.below.trans (hbo.mono hsb))).grown hg (by rw [World.size_alloc]; omega) (fun q hq => (h.own.lt q hq).1), by simp [h.len], all_snoc h.fit ⟨hr, hrl, hx.len, hx.fit⟩⟩
  by_cases hki : k < i
  · rw [List.getElem?_append_left (by rw [h.len]; omega)] at hk
    obtain ⟨r, t, e1, e2, h1, h2⟩ := h.each k x hk
    have kb := kept_of_below hbo
    exact ⟨r, t, by rw [List.getElem?_append_left (by omega)]; exact e1, by rw [List.getElem?_append_left (by omega)]; exact e2, key good_ints (good_ints.kept h1 kb (fun _ _ h => h.elim)), key good_grid (good_grid.kept h2 kb (fun _ _ h => h.elim))⟩
  · have hk2 := (List.getElem?_eq_some_iff.1 hk).1
    rw [List.length_append, List.length_singleton, h.len] at hk2
    have hki2 : k = i := by omega
    subst hki2
    rw [List.getElem?_append_right (by rw [h.len]; omega)] at hk
    simp [h.len] at hk
    subst hk
    have hlow : ∀ q, some q = v.ownBlock → q ≤ X := fun q hq => Nat.le_of_lt (hvlt q hq.symm)
    have hr1 : IntsR (fun q => some q = v.ownBlock) (W.alloc (.cells #[rv, tv] 37)) rv rl := (good_ints.sub hx.regs (fun q _ hq => Or.inl (hlow q hq))).below hbA
    have ht1 : GridR (fun q => some q = v.ownBlock) (W.alloc (.cells #[rv, tv] 37)) tv items := (hx.grows.kept good_ints hbA).rows good_ints (fun q _ hq => Or.inl (hlow q hq)) (fun q hq e => by
      have h1 := (hx.grows.own.lt q hq).1
      have h2 := hlow q e
      omega)
    exact ⟨rv, tv, by rw [List.getElem?_append_right (by omega)]; simp [hcl], by rw [List.getElem?_append_right (by omega)]; simp [hcl, show k * 2 + 1 - k * 2 = 1 by omega], key good_ints hr1, key good_grid ht1⟩
end Go.Proofs.Ytdknpamegphjlaa.Sd
